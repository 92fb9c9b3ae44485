import PyProof.Rows.All
import Wide.All
import OpenK.AllK
import Wide.FinOn
import Lean
import PySem.Challenge.RW_ik0180_01
set_option bootstrap.genMatcherCode false
set_option compiler.extract_closed false
set_option genSizeOf false
set_option Elab.async false
set_option autoImplicit false
set_option linter.unusedVariables false
set_option linter.unusedSimpArgs false
set_option maxRecDepth 100000
set_option maxHeartbeats 4000000
open PySem PySem.W PyProof.Rows PySem.Spec
def Mine.dS (h : List Lean.Syntax) : List String → List Lean.Syntax → Lean.Syntax
 | [], s => s.headD .missing
 | t :: ts, s => dS h ts (match t.toList with
  | '@' :: c :: _ => h.getD (c.toNat - 48) .missing :: s
  | '\'' :: l => .atom .none (String.ofList l) :: s
  | '/' :: c :: l => .node .none (String.ofList l).toName (s.take (c.toNat - 48)).reverse.toArray :: s.drop (c.toNat - 48)
  | _ => Lean.mkIdent t.toName :: s)
def Mine.d (s : String) (h : List Lean.Syntax) : Lean.Syntax := dS h (s.splitOn " ") []
def Mine.dN (l : List Lean.Syntax) : Lean.Syntax := .node .none `null l.toArray
def Mine.aR : Lean.Syntax := d "'intros /0null /2Lean.Parser.Tactic.intros '; 'rfl /1Lean.Parser.Tactic.tacticRfl /3null /1Lean.Parser.Tactic.tacticSeq1Indented /1Lean.Parser.Tactic.tacticSeq" []
def Mine.aK : Lean.Syntax := d "'kernel_rfl /1tacticKernel_rfl /1null /1Lean.Parser.Tactic.tacticSeq1Indented /1Lean.Parser.Tactic.tacticSeq" []
def Mine.aW : Lean.Syntax := d "'with_unfolding_all 'rfl /1Lean.Parser.Tactic.tacticRfl /1null /1Lean.Parser.Tactic.tacticSeq1Indented /1Lean.Parser.Tactic.tacticSeq /2Lean.Parser.Tactic.withUnfoldingAll /1null /1Lean.Parser.Tactic.tacticSeq1Indented /1Lean.Parser.Tactic.tacticSeq" []
local macro_rules
 | `(tactic| omega) => pure (Mine.d "'first '| 'lia /0null /1Lean.Parser.Tactic.optConfig /2Lean.Parser.Tactic.lia /1null /1Lean.Parser.Tactic.tacticSeq1Indented /1Lean.Parser.Tactic.tacticSeq /2group '| 'omega '( splitDisjunctions ':= true ') /5Lean.Parser.Tactic.valConfigItem /1Lean.Parser.Tactic.configItem /1null /1Lean.Parser.Tactic.optConfig /2Lean.Parser.Tactic.omega /1null /1Lean.Parser.Tactic.tacticSeq1Indented /1Lean.Parser.Tactic.tacticSeq /2group /2null /2Lean.Parser.Tactic.first" [])
open PySem PySem.W PyProof.Rows
theorem Mine.hold {P : Prop} (k : ∀ g : Prop, (P → g) → g) : P := k P id
theorem Mine.sp' {α β : Type} {a c : α} {b d : β} {P : Prop} (h : some (a, b) = some (c, d)) (k : c = a → d = b → P) : P := by
 injection h with h
 injection h with h1 h2
 exact k h1.symm h2.symm
theorem Mine.nn {α : Type} {a : α} {P : Prop} (h : a ∈ ([] : List α)) : P := absurd h List.not_mem_nil
theorem Mine.xE1 {α0 : Sort _} {p : α0 → Prop} {P : Prop} (h : ∃ a0, p a0) (k : ∀ a0, p a0 → P) : P := h.elim fun a0 h => k a0 h
theorem Mine.xE2 {α0 α1 : Sort _} {p : α0 → α1 → Prop} {P : Prop} (h : ∃ a0 a1, p a0 a1) (k : ∀ a0 a1, p a0 a1 → P) : P := h.elim fun a0 h => h.elim fun a1 h => k a0 a1 h
theorem Mine.xE3 {α0 α1 α2 : Sort _} {p : α0 → α1 → α2 → Prop} {P : Prop} (h : ∃ a0 a1 a2, p a0 a1 a2) (k : ∀ a0 a1 a2, p a0 a1 a2 → P) : P := h.elim fun a0 h => h.elim fun a1 h => h.elim fun a2 h => k a0 a1 a2 h
theorem Mine.xE4 {α0 α1 α2 α3 : Sort _} {p : α0 → α1 → α2 → α3 → Prop} {P : Prop} (h : ∃ a0 a1 a2 a3, p a0 a1 a2 a3) (k : ∀ a0 a1 a2 a3, p a0 a1 a2 a3 → P) : P := h.elim fun a0 h => h.elim fun a1 h => h.elim fun a2 h => h.elim fun a3 h => k a0 a1 a2 a3 h
theorem Mine.xE5 {α0 α1 α2 α3 α4 : Sort _} {p : α0 → α1 → α2 → α3 → α4 → Prop} {P : Prop} (h : ∃ a0 a1 a2 a3 a4, p a0 a1 a2 a3 a4) (k : ∀ a0 a1 a2 a3 a4, p a0 a1 a2 a3 a4 → P) : P := h.elim fun a0 h => h.elim fun a1 h => h.elim fun a2 h => h.elim fun a3 h => h.elim fun a4 h => k a0 a1 a2 a3 a4 h
theorem Mine.xE6 {α0 α1 α2 α3 α4 α5 : Sort _} {p : α0 → α1 → α2 → α3 → α4 → α5 → Prop} {P : Prop} (h : ∃ a0 a1 a2 a3 a4 a5, p a0 a1 a2 a3 a4 a5) (k : ∀ a0 a1 a2 a3 a4 a5, p a0 a1 a2 a3 a4 a5 → P) : P := h.elim fun a0 h => h.elim fun a1 h => h.elim fun a2 h => h.elim fun a3 h => h.elim fun a4 h => h.elim fun a5 h => k a0 a1 a2 a3 a4 a5 h
theorem Mine.xE7 {α0 α1 α2 α3 α4 α5 α6 : Sort _} {p : α0 → α1 → α2 → α3 → α4 → α5 → α6 → Prop} {P : Prop} (h : ∃ a0 a1 a2 a3 a4 a5 a6, p a0 a1 a2 a3 a4 a5 a6) (k : ∀ a0 a1 a2 a3 a4 a5 a6, p a0 a1 a2 a3 a4 a5 a6 → P) : P := h.elim fun a0 h => h.elim fun a1 h => h.elim fun a2 h => h.elim fun a3 h => h.elim fun a4 h => h.elim fun a5 h => h.elim fun a6 h => k a0 a1 a2 a3 a4 a5 a6 h
theorem Mine.xE8 {α0 α1 α2 α3 α4 α5 α6 α7 : Sort _} {p : α0 → α1 → α2 → α3 → α4 → α5 → α6 → α7 → Prop} {P : Prop} (h : ∃ a0 a1 a2 a3 a4 a5 a6 a7, p a0 a1 a2 a3 a4 a5 a6 a7) (k : ∀ a0 a1 a2 a3 a4 a5 a6 a7, p a0 a1 a2 a3 a4 a5 a6 a7 → P) : P := h.elim fun a0 h => h.elim fun a1 h => h.elim fun a2 h => h.elim fun a3 h => h.elim fun a4 h => h.elim fun a5 h => h.elim fun a6 h => h.elim fun a7 h => k a0 a1 a2 a3 a4 a5 a6 a7 h
theorem Mine.xC2 {a b P : Prop} (h : a ∧ b) (k : a → b → P) : P := k h.1 h.2
theorem Mine.xC3 {a b c P : Prop} (h : a ∧ b ∧ c) (k : a → b → c → P) : P := xC2 h.2 (k h.1)
theorem Mine.xC4 {a b c d P : Prop} (h : a ∧ b ∧ c ∧ d) (k : a → b → c → d → P) : P := xC3 h.2 (k h.1)
theorem Mine.xC5 {a b c d e P : Prop} (h : a ∧ b ∧ c ∧ d ∧ e) (k : a → b → c → d → e → P) : P := xC4 h.2 (k h.1)
theorem Mine.xC6 {a b c d e f P : Prop} (h : a ∧ b ∧ c ∧ d ∧ e ∧ f) (k : a → b → c → d → e → f → P) : P := xC5 h.2 (k h.1)
theorem Mine.xC7 {a b c d e f g P : Prop} (h : a ∧ b ∧ c ∧ d ∧ e ∧ f ∧ g) (k : a → b → c → d → e → f → g → P) : P := xC6 h.2 (k h.1)
theorem Mine.xC8 {a b c d e f g i P : Prop} (h : a ∧ b ∧ c ∧ d ∧ e ∧ f ∧ g ∧ i) (k : a → b → c → d → e → f → g → i → P) : P := xC7 h.2 (k h.1)
theorem Mine.xC9 {a b c d e f g i j P : Prop} (h : a ∧ b ∧ c ∧ d ∧ e ∧ f ∧ g ∧ i ∧ j) (k : a → b → c → d → e → f → g → i → j → P) : P := xC8 h.2 (k h.1)
theorem Mine.xC10 {a b c d e f g i j l P : Prop} (h : a ∧ b ∧ c ∧ d ∧ e ∧ f ∧ g ∧ i ∧ j ∧ l) (k : a → b → c → d → e → f → g → i → j → l → P) : P := xC9 h.2 (k h.1)
theorem Mine.xC11 {a b c d e f g i j l m P : Prop} (h : a ∧ b ∧ c ∧ d ∧ e ∧ f ∧ g ∧ i ∧ j ∧ l ∧ m) (k : a → b → c → d → e → f → g → i → j → l → m → P) : P := xC10 h.2 (k h.1)
theorem Mine.xC12 {a b c d e f g i j l m n P : Prop} (h : a ∧ b ∧ c ∧ d ∧ e ∧ f ∧ g ∧ i ∧ j ∧ l ∧ m ∧ n) (k : a → b → c → d → e → f → g → i → j → l → m → n → P) : P := xC11 h.2 (k h.1)
theorem Mine.xC13 {a b c d e f g i j l m n o P : Prop} (h : a ∧ b ∧ c ∧ d ∧ e ∧ f ∧ g ∧ i ∧ j ∧ l ∧ m ∧ n ∧ o) (k : a → b → c → d → e → f → g → i → j → l → m → n → o → P) : P := xC12 h.2 (k h.1)
theorem Mine.xC14 {a b c d e f g i j l m n o p P : Prop} (h : a ∧ b ∧ c ∧ d ∧ e ∧ f ∧ g ∧ i ∧ j ∧ l ∧ m ∧ n ∧ o ∧ p) (k : a → b → c → d → e → f → g → i → j → l → m → n → o → p → P) : P := xC13 h.2 (k h.1)
theorem Mine.xC15 {a b c d e f g i j l m n o p q P : Prop} (h : a ∧ b ∧ c ∧ d ∧ e ∧ f ∧ g ∧ i ∧ j ∧ l ∧ m ∧ n ∧ o ∧ p ∧ q) (k : a → b → c → d → e → f → g → i → j → l → m → n → o → p → q → P) : P := xC14 h.2 (k h.1)
theorem Mine.xC16 {a b c d e f g i j l m n o p q r P : Prop} (h : a ∧ b ∧ c ∧ d ∧ e ∧ f ∧ g ∧ i ∧ j ∧ l ∧ m ∧ n ∧ o ∧ p ∧ q ∧ r) (k : a → b → c → d → e → f → g → i → j → l → m → n → o → p → q → r → P) : P := xC15 h.2 (k h.1)
theorem Mine.xC17 {a b c d e f g i j l m n o p q r s P : Prop} (h : a ∧ b ∧ c ∧ d ∧ e ∧ f ∧ g ∧ i ∧ j ∧ l ∧ m ∧ n ∧ o ∧ p ∧ q ∧ r ∧ s) (k : a → b → c → d → e → f → g → i → j → l → m → n → o → p → q → r → s → P) : P := xC16 h.2 (k h.1)
theorem Mine.xC18 {a b c d e f g i j l m n o p q r s t P : Prop} (h : a ∧ b ∧ c ∧ d ∧ e ∧ f ∧ g ∧ i ∧ j ∧ l ∧ m ∧ n ∧ o ∧ p ∧ q ∧ r ∧ s ∧ t) (k : a → b → c → d → e → f → g → i → j → l → m → n → o → p → q → r → s → t → P) : P := xC17 h.2 (k h.1)
theorem Mine.xC19 {a b c d e f g i j l m n o p q r s t u P : Prop} (h : a ∧ b ∧ c ∧ d ∧ e ∧ f ∧ g ∧ i ∧ j ∧ l ∧ m ∧ n ∧ o ∧ p ∧ q ∧ r ∧ s ∧ t ∧ u) (k : a → b → c → d → e → f → g → i → j → l → m → n → o → p → q → r → s → t → u → P) : P := xC18 h.2 (k h.1)
theorem Mine.xC20 {a b c d e f g i j l m n o p q r s t u v P : Prop} (h : a ∧ b ∧ c ∧ d ∧ e ∧ f ∧ g ∧ i ∧ j ∧ l ∧ m ∧ n ∧ o ∧ p ∧ q ∧ r ∧ s ∧ t ∧ u ∧ v) (k : a → b → c → d → e → f → g → i → j → l → m → n → o → p → q → r → s → t → u → v → P) : P := xC19 h.2 (k h.1)
theorem Mine.xC21 {a b c d e f g i j l m n o p q r s t u v w P : Prop} (h : a ∧ b ∧ c ∧ d ∧ e ∧ f ∧ g ∧ i ∧ j ∧ l ∧ m ∧ n ∧ o ∧ p ∧ q ∧ r ∧ s ∧ t ∧ u ∧ v ∧ w) (k : a → b → c → d → e → f → g → i → j → l → m → n → o → p → q → r → s → t → u → v → w → P) : P := xC20 h.2 (k h.1)
theorem Mine.xC22 {a b c d e f g i j l m n o p q r s t u v w x P : Prop} (h : a ∧ b ∧ c ∧ d ∧ e ∧ f ∧ g ∧ i ∧ j ∧ l ∧ m ∧ n ∧ o ∧ p ∧ q ∧ r ∧ s ∧ t ∧ u ∧ v ∧ w ∧ x) (k : a → b → c → d → e → f → g → i → j → l → m → n → o → p → q → r → s → t → u → v → w → x → P) : P := xC21 h.2 (k h.1)
theorem Mine.xC23 {a b c d e f g i j l m n o p q r s t u v w x y P : Prop} (h : a ∧ b ∧ c ∧ d ∧ e ∧ f ∧ g ∧ i ∧ j ∧ l ∧ m ∧ n ∧ o ∧ p ∧ q ∧ r ∧ s ∧ t ∧ u ∧ v ∧ w ∧ x ∧ y) (k : a → b → c → d → e → f → g → i → j → l → m → n → o → p → q → r → s → t → u → v → w → x → y → P) : P := xC22 h.2 (k h.1)
theorem Mine.xC24 {a b c d e f g i j l m n o p q r s t u v w x y z P : Prop} (h : a ∧ b ∧ c ∧ d ∧ e ∧ f ∧ g ∧ i ∧ j ∧ l ∧ m ∧ n ∧ o ∧ p ∧ q ∧ r ∧ s ∧ t ∧ u ∧ v ∧ w ∧ x ∧ y ∧ z) (k : a → b → c → d → e → f → g → i → j → l → m → n → o → p → q → r → s → t → u → v → w → x → y → z → P) : P := xC23 h.2 (k h.1)
local macro_rules
 | `(tactic| cases $h:ident) => pure (Mine.d "'first '| 'subst @0 /1null /2Lean.Parser.Tactic.subst /1null /1Lean.Parser.Tactic.tacticSeq1Indented /1Lean.Parser.Tactic.tacticSeq /2group '| '( 'injection @0 /0null /3Lean.Parser.Tactic.injection '; 'done /1Lean.Parser.Tactic.done /3null /1Lean.Parser.Tactic.tacticSeq1Indented /1Lean.Parser.Tactic.tacticSeq ') /3Lean.Parser.Tactic.paren /1null /1Lean.Parser.Tactic.tacticSeq1Indented /1Lean.Parser.Tactic.tacticSeq /2group '| '( 'refine Mine.sp' @0 '? '_ /2Lean.Parser.Term.syntheticHole /2null /2Lean.Parser.Term.app /2Lean.Parser.Tactic.refine '; 'clear @0 /1null /2Lean.Parser.Tactic.clear '; 'intro zQ1 zQ2 /2null /2Lean.Parser.Tactic.intro '; 'cases /0null zQ1 /2Lean.Parser.Tactic.elimTarget /1null /0null /0null /4Lean.Parser.Tactic.cases '; 'cases /0null zQ2 /2Lean.Parser.Tactic.elimTarget /1null /0null /0null /4Lean.Parser.Tactic.cases /9null /1Lean.Parser.Tactic.tacticSeq1Indented /1Lean.Parser.Tactic.tacticSeq ') /3Lean.Parser.Tactic.paren /1null /1Lean.Parser.Tactic.tacticSeq1Indented /1Lean.Parser.Tactic.tacticSeq /2group '| '( 'injection @0 'with zQ1 zQ2 zQ3 /3null /2null /3Lean.Parser.Tactic.injection '; 'cases /0null zQ1 /2Lean.Parser.Tactic.elimTarget /1null /0null /0null /4Lean.Parser.Tactic.cases '; 'cases /0null zQ2 /2Lean.Parser.Tactic.elimTarget /1null /0null /0null /4Lean.Parser.Tactic.cases '; 'cases /0null zQ3 /2Lean.Parser.Tactic.elimTarget /1null /0null /0null /4Lean.Parser.Tactic.cases /7null /1Lean.Parser.Tactic.tacticSeq1Indented /1Lean.Parser.Tactic.tacticSeq ') /3Lean.Parser.Tactic.paren /1null /1Lean.Parser.Tactic.tacticSeq1Indented /1Lean.Parser.Tactic.tacticSeq /2group '| '( 'injection @0 'with zQ1 zQ2 /2null /2null /3Lean.Parser.Tactic.injection '; 'cases /0null zQ1 /2Lean.Parser.Tactic.elimTarget /1null /0null /0null /4Lean.Parser.Tactic.cases '; 'cases /0null zQ2 /2Lean.Parser.Tactic.elimTarget /1null /0null /0null /4Lean.Parser.Tactic.cases /5null /1Lean.Parser.Tactic.tacticSeq1Indented /1Lean.Parser.Tactic.tacticSeq ') /3Lean.Parser.Tactic.paren /1null /1Lean.Parser.Tactic.tacticSeq1Indented /1Lean.Parser.Tactic.tacticSeq /2group '| '( 'injection @0 'with zQ1 /1null /2null /3Lean.Parser.Tactic.injection '; 'cases /0null zQ1 /2Lean.Parser.Tactic.elimTarget /1null /0null /0null /4Lean.Parser.Tactic.cases /3null /1Lean.Parser.Tactic.tacticSeq1Indented /1Lean.Parser.Tactic.tacticSeq ') /3Lean.Parser.Tactic.paren /1null /1Lean.Parser.Tactic.tacticSeq1Indented /1Lean.Parser.Tactic.tacticSeq /2group '| 'exact Mine.nn @0 /1null /2Lean.Parser.Term.app /2Lean.Parser.Tactic.exact /1null /1Lean.Parser.Tactic.tacticSeq1Indented /1Lean.Parser.Tactic.tacticSeq /2group '| '( 'obtain '⟨ '_ /1Lean.Parser.Tactic.rcasesPat.ignore /1null /1Lean.Parser.Tactic.rcasesPatMed /0null /2Lean.Parser.Tactic.rcasesPatLo ', rfl /1Lean.Parser.Tactic.rcasesPat.one /1null /1Lean.Parser.Tactic.rcasesPatMed /0null /2Lean.Parser.Tactic.rcasesPatLo /3null '⟩ /3Lean.Parser.Tactic.rcasesPat.tuple /1null /1Lean.Parser.Tactic.rcasesPatMed /1null /0null ':= Mine.VR.of_int @0 /1null /2Lean.Parser.Term.app /1null /2null /4Lean.Parser.Tactic.obtain '; 'clear @0 /1null /2Lean.Parser.Tactic.clear /3null /1Lean.Parser.Tactic.tacticSeq1Indented /1Lean.Parser.Tactic.tacticSeq ') /3Lean.Parser.Tactic.paren /1null /1Lean.Parser.Tactic.tacticSeq1Indented /1Lean.Parser.Tactic.tacticSeq /2group '| '( 'obtain rfl /1Lean.Parser.Tactic.rcasesPat.one /1null /1Lean.Parser.Tactic.rcasesPatMed /1null /0null ':= Mine.VR.toM @0 /1null /2Lean.Parser.Term.app /1null /2null /4Lean.Parser.Tactic.obtain '; 'clear @0 /1null /2Lean.Parser.Tactic.clear /3null /1Lean.Parser.Tactic.tacticSeq1Indented /1Lean.Parser.Tactic.tacticSeq ') /3Lean.Parser.Tactic.paren /1null /1Lean.Parser.Tactic.tacticSeq1Indented /1Lean.Parser.Tactic.tacticSeq /2group '| 'cases /0null '@ @0 /2Lean.Parser.Term.explicit /2Lean.Parser.Tactic.elimTarget /1null /0null /0null /4Lean.Parser.Tactic.cases /1null /1Lean.Parser.Tactic.tacticSeq1Indented /1Lean.Parser.Tactic.tacticSeq /2group /:null /2Lean.Parser.Tactic.first" [h])
def Mine.oP : String → List Lean.Syntax → Option (List Lean.Syntax × List Lean.Syntax)
 | _, [] => some ([], [])
 | _, [_] => none
 | i, p :: c :: ps => match oP (i ++ "z") ps with
  | none => none
  | some (bs, qs) =>
   let e : Lean.Syntax := Lean.mkIdent (.mkSimple i)
   let r := p[0][0][0]
   match p[1].getNumArgs + p[0][0].getNumArgs, r.getKind with
   | 1, .str _ "one" => if r[0].getId.eraseMacroScopes == `rfl then some (e :: bs, d "'cases /0null @0 /2Lean.Parser.Tactic.elimTarget /1null /0null /0null /4Lean.Parser.Tactic.cases" [e] :: qs) else some (r[0] :: bs, qs)
   | 1, .str _ "ignore" => some (d "'_ /1Lean.Parser.Term.hole" [] :: bs, qs)
   | 1, .str _ "tuple" => some (e :: bs, d "'obtain @0 /1null /0null ':= @1 /1null /2null /4Lean.Parser.Tactic.obtain" [p[0], e] :: qs)
   | _, _ => none
def Mine.oA (C E : Lean.Syntax) (t clr : Lean.Syntax) (bs qs : List Lean.Syntax) (k m : Nat) : List Lean.Syntax :=
 let h : Lean.Syntax := Lean.mkIdent `zXh
 let r a b l := d "'refine @0 @1 'fun @2 /0null '=> '? '_ /2Lean.Parser.Term.syntheticHole /4Lean.Parser.Term.basicFun /2Lean.Parser.Term.fun /2null /2Lean.Parser.Term.app /2Lean.Parser.Tactic.refine" [a, b, dN l]
 let u := if k == 0 then [r C t bs, clr] else if m == 1 then [r E t bs, clr] else [r E t (bs.take k ++ [h]), clr, r C h (bs.drop k), d "'clear @0 /1null /2Lean.Parser.Tactic.clear" [h]]
 (u ++ qs).intersperse (.atom .none ";")
def Mine.oF (t clr : Lean.Syntax) (bs qs : List Lean.Syntax) (acc : Lean.Syntax) (n : Nat) : Nat → Lean.Syntax
 | 0 => acc
 | k + 1 =>
  let x (s : String) (i : Nat) : Lean.Syntax := Lean.mkIdent (.mkStr `Mine (s ++ i.repr))
  d "'first '| '( @0 /1Lean.Parser.Tactic.tacticSeq1Indented /1Lean.Parser.Tactic.tacticSeq ') /3Lean.Parser.Tactic.paren /1null /1Lean.Parser.Tactic.tacticSeq1Indented /1Lean.Parser.Tactic.tacticSeq /2group '| @1 /1null /1Lean.Parser.Tactic.tacticSeq1Indented /1Lean.Parser.Tactic.tacticSeq /2group /2null /2Lean.Parser.Tactic.first" [dN (oA (x "xC" (n - k)) (x "xE" k) t clr bs qs k (n - k)), oF t clr bs qs acc n k]
local macro_rules
 | `(tactic| obtain $p:rcasesPatMed := $t) =>
  let a := p.raw[0][0][1].getArgs.toList
  match p.raw[0].getNumArgs, p.raw[0][0].getKind, Mine.oP "zX" (a ++ [.missing]) with
  | 1, .str _ "tuple", some (bs, qs) =>
   if a.length < 4 && !a.any (fun p => p[0][0][0].getKind matches .str _ "tuple") then Lean.Macro.throwUnsupported else
   let clr := if t.raw.isIdent && !bs.any (fun b => b.getId == t.raw.getId) then Mine.d "'try 'clear @0 /1null /2Lean.Parser.Tactic.clear /1null /1Lean.Parser.Tactic.tacticSeq1Indented /1Lean.Parser.Tactic.tacticSeq /2Lean.Parser.Tactic.tacticTry_" [t] else Mine.d "'skip /1Lean.Parser.Tactic.skip" []
   pure (Mine.oF t clr bs qs (Mine.d "'rcases /0null @0 /2Lean.Parser.Tactic.elimTarget /1null 'with @1 /0null /2Lean.Parser.Tactic.rcasesPatLo /2null /3Lean.Parser.Tactic.rcases" [t, p]) bs.length (min bs.length 9))
  | _, _, _ => Lean.Macro.throwUnsupported
namespace Mine
inductive AV where
 | none
 | bool (b : Bool)
 | int (i : Int)
 | str (x : String)
 | tup (xs : List AV)
 | ref (n : Nat)
 | fn (x : String)
 | bi (x : String)
 | ty (x : String)
 | script (xs : List Int)
 deriving Inhabited
inductive AObj where
 | list (xs : List AV)
 | dict (es : List (Int × AV))
 | iset (xs : List Int)
 | attrs (fs : List (String × AV))
 | inst (cls : String) (d : Nat)
 | sinst (cls : String) (d : Nat) (fs : List (Option AV))
 | liter (l : Nat) (i : Nat)
 | titer (xs : List AV) (i : Nat)
 | rng (n : Nat)
 | dview (T : String) (d : Nat)
 | bound (id : String) (n : Nat)
 | junk
 deriving Inhabited
abbrev AH := List (AObj × Nat)
structure AS where
 env : List (String × AV)
 hp : AH
noncomputable def put (x : String) (v : AV) : List (String × AV) → List (String × AV) := List.rec [(x, v)] fun p r ih => if p.1 = x then (x, v) :: r else p :: ih
theorem put_nil (x : String) (v : AV) : put x v [] = [(x, v)] := rfl
theorem put_cons (x y : String) (v w : AV) (r : List (String × AV)) : put x v ((y, w) :: r) = if y = x then (x, v) :: r else (y, w) :: put x v r := rfl
theorem lookup_put (x y : String) (v : AV) : ∀ ρ, (put x v ρ).lookup y = if y = x then some v else ρ.lookup y
 | [] => by
  by_cases h : y = x
  ·subst h; simp [put_nil]
  ·have : (y == x) = false := by simp [h]
   simp [put_nil, List.lookup_cons, h, this]
 | (z, w) :: r => by
  have ih := lookup_put x y v r
  rw [put_cons]
  by_cases hz : z = x
  ·subst hz
   rw [if_pos rfl]
   by_cases h : y = z
   ·subst h; simp
   ·have : (y == z) = false := by simp [h]
    simp [List.lookup_cons, this, h]
  ·rw [if_neg hz]
   by_cases h : y = x
   ·subst h
    have : (y == z) = false := by simp; exact fun e => hz e.symm
    rw [List.lookup_cons, this]; simpa using ih
   ·rw [if_neg h] at ih ⊢
    rw [List.lookup_cons, List.lookup_cons, ih]
theorem ofString_inj {a b : String} (h : Str.ofString a = Str.ofString b) : a = b := by
 rw [Str.ofString_eq_toList, Str.ofString_eq_toList] at h
 have h1 := congrArg (fun x : PySem.Str => x.cps.toList) h
 simp only [] at h1
 have hi : ∀ l m : List Char, l.map Char.toNat = m.map Char.toNat → l = m := by
  intro l
  induction l with
  | nil => intro m hm; cases m with
   | nil => rfl
   | cons c m => simp at hm
  | cons c l ih => intro m hm; cases m with
   | nil => simp at hm
   | cons d m =>
    simp only [List.map_cons, List.cons.injEq] at hm
    have hc : c = d := by
     apply Char.ext
     apply UInt32.toNat_inj.mp
     exact hm.1
    rw [hc, ih m hm.2]
 exact String.toList_injective (hi _ _ h1)
structure Glob where
 prog : Program
 w : World
 h₀ : Heap
 mg : PySem.Str → Option Value
 mb : PySem.Str → Option Value
 addr : String → Option Addr
structure GOk (G : Glob) : Prop where
 g : G.h₀.Ns mainGlobals G.mg
 b : G.h₀.Ns builtinsNs G.mb
 nolimit : G.h₀.NoLimit
abbrev Glob.M (G : Glob) : Model := model G.prog G.w
noncomputable def Still (μ μ' : List Addr) (h h' : Heap) : Prop := ∀ (a : Addr) (o : Obj), h.get? a = some o → o.cls = .type "tuple" → (∃ vs n, o.data = .seq vs n) → a ∉ μ → a ∉ μ' ∧ h'.get? a = some o
theorem Still.of_keeps {μ : List Addr} {h h' : Heap} (k : ∀ b o, h.get? b = some o → h'.get? b = some o) : Still μ μ h h' := fun a o e zz zz hm => ⟨hm, k a o e⟩
theorem Still.of_grows {μ ν : List Addr} {h h' : Heap} (k : ∀ b o, h.get? b = some o → h'.get? b = some o) (hν : ∀ a ∈ ν, h.get? a = none) : Still μ (μ ++ ν) h h' := fun a o e zz zz hm => ⟨fun q => (List.mem_append.mp q).elim hm fun q => (by have := hν a q; rw [e] at this; cases this), k a o e⟩
mutual
inductive VR (G : Glob) (μ : List Addr) (h : Heap) : AV → Value → Prop
 | none : VR G μ h .none .none
 | bool (b : Bool) : VR G μ h (.bool b) (.bool b)
 | int (i : Int) (t : Tok) : VR G μ h (.int i) (.int i t)
 | str (x : String) (t : Tok) : VR G μ h (.str x) (.str (Str.ofString x) t)
 | tup {xs : List AV} {vs : List Value} {a : Addr} {o : Obj} {n : Nat} : h.get? a = some o → o.cls = .type "tuple" → o.data = .seq vs.toArray n → a ∉ μ → VRs G μ h xs vs → VR G μ h (.tup xs) (.ref a)
 | ref {n : Nat} {a : Addr} : μ[n]? = some a → VR G μ h (.ref n) (.ref a)
 | fn {x : String} {a : Addr} : G.addr x = some a → VR G μ h (.fn x) (.ref a)
 | bi (x : String) : VR G μ h (.bi x) (.builtin x)
 | ty (x : String) : VR G μ h (.ty x) (.type x)
 | script {xs : List Int} {vs : List Value} {a : Addr} {o : Obj} {n : Nat} : G.h₀.get? a = some o → o.cls = .type "list" → o.data = .seq vs.toArray n → IntsAre vs xs → VR G μ h (.script xs) (.ref a)
inductive VRs (G : Glob) (μ : List Addr) (h : Heap) : List AV → List Value → Prop
 | nil : VRs G μ h [] []
 | cons {x : AV} {v : Value} {xs : List AV} {vs : List Value} : VR G μ h x v → VRs G μ h xs vs → VRs G μ h (x :: xs) (v :: vs)
end
section
variable {G : Glob} {μ μ' : List Addr} {h h' : Heap}
theorem VRs.ind {P : List AV → List Value → Prop} (n : P [] []) (c : ∀ {x v xs vs}, VR G μ h x v → VRs G μ h xs vs → P xs vs → P (x :: xs) (v :: vs)) {xs : List AV} {vs : List Value} (k : VRs G μ h xs vs) : P xs vs :=
 VRs.rec (motive_1 := fun zz zz zz => True) (motive_2 := fun xs vs zz => P xs vs) ⟨⟩ (fun zz => ⟨⟩) (fun zz zz => ⟨⟩) (fun zz zz => ⟨⟩) (fun zz zz zz zz zz zz => ⟨⟩) (fun zz => ⟨⟩) (fun zz => ⟨⟩) (fun zz => ⟨⟩) (fun zz => ⟨⟩) (fun zz zz zz zz => ⟨⟩) n (fun h1 h2 zz i => c h1 h2 i) k
theorem VR.mono (hμ : ∀ (n : Nat) (a : Addr), μ[n]? = some a → μ'[n]? = some a) (hk : Still μ μ' h h') {x : AV} {v : Value} (k : VR G μ h x v) : VR G μ' h' x v :=
 VR.rec (motive_1 := fun x v zz => VR G μ' h' x v) (motive_2 := fun xs vs zz => VRs G μ' h' xs vs) .none .bool .int .str (fun h1 h2 h4 h5 zz hs => .tup (hk _ _ h1 h2 ⟨_, _, h4⟩ h5).2 h2 h4 (hk _ _ h1 h2 ⟨_, _, h4⟩ h5).1 hs) (fun h1 => .ref (hμ _ _ h1)) .fn .bi .ty .script .nil (fun zz zz a b => .cons a b) k
theorem VRs.mono (hμ : ∀ (n : Nat) (a : Addr), μ[n]? = some a → μ'[n]? = some a) (hk : Still μ μ' h h') {xs : List AV} {vs : List Value} (k : VRs G μ h xs vs) : VRs G μ' h' xs vs :=
 k.ind (P := fun xs vs => VRs G μ' h' xs vs) .nil fun h1 zz i => .cons (h1.mono hμ hk) i
end
theorem VRs.length {G : Glob} {μ : List Addr} {h : Heap} {xs : List AV} {vs : List Value} (k : VRs G μ h xs vs) : xs.length = vs.length :=
 k.ind (P := fun xs vs => xs.length = vs.length) rfl fun zz zz i => congrArg (· + 1) i
theorem VRs.get {G : Glob} {μ : List Addr} {h : Heap} {xs : List AV} {vs : List Value} (k : VRs G μ h xs vs) : ∀ {i : Nat} {x : AV}, xs[i]? = some x → ∃ v, vs[i]? = some v ∧ VR G μ h x v :=
 k.ind (P := fun xs vs => ∀ {i : Nat} {x : AV}, xs[i]? = some x → ∃ v, vs[i]? = some v ∧ VR G μ h x v) (fun e => by simp at e) fun h1 zz ih i x e => by
  cases i with
  | zero => cases e; exact ⟨_, rfl, h1⟩
  | succ i => exact ih e
theorem VRs.append {G : Glob} {μ : List Addr} {h : Heap} {xs : List AV} {vs : List Value} {ys : List AV} {ws : List Value} (k : VRs G μ h xs vs) (k' : VRs G μ h ys ws) : VRs G μ h (xs ++ ys) (vs ++ ws) :=
 k.ind (P := fun xs vs => VRs G μ h (xs ++ ys) (vs ++ ws)) k' fun h1 zz ih => .cons h1 ih
inductive KVs (G : Glob) (μ : List Addr) (h : Heap) : List (Int × AV) → List (Int × Value) → Prop
 | nil : KVs G μ h [] []
 | cons {k : Int} {x : AV} {v : Value} {xs : List (Int × AV)} {es : List (Int × Value)} : VR G μ h x v → KVs G μ h xs es → KVs G μ h ((k, x) :: xs) ((k, v) :: es)
inductive ARs (G : Glob) (μ : List Addr) (h : Heap) : List (String × AV) → List DictEntry → Prop
 | nil : ARs G μ h [] []
 | cons {k : String} {t : Tok} {x : AV} {v : Value} {xs : List (String × AV)} {es : List DictEntry} : VR G μ h x v → ARs G μ h xs es → ARs G μ h ((k, x) :: xs) (⟨PyData.keyHash G.w.params (Str.ofString k), .str (Str.ofString k) t, v⟩ :: es)
inductive SRs (G : Glob) (μ : List Addr) (h : Heap) : List (Option AV) → List (Option Value) → Prop
 | nil : SRs G μ h [] []
 | none {xs : List (Option AV)} {vs : List (Option Value)} : SRs G μ h xs vs → SRs G μ h (.none :: xs) (.none :: vs)
 | some {x : AV} {v : Value} {xs : List (Option AV)} {vs : List (Option Value)} : VR G μ h x v → SRs G μ h xs vs → SRs G μ h (some x :: xs) (some v :: vs)
inductive OR (G : Glob) (μ : List Addr) (h : Heap) : AObj → Obj → Prop
 | list {xs : List AV} {vs : List Value} {n : Nat} : VRs G μ h xs vs → OR G μ h (.list xs) ⟨.type "list", Option.none, .seq vs.toArray n, #[]⟩
 | dict {xs : List (Int × AV)} {kvs : List (Int × Value)} {o : Obj} : o.IsDictOf (intKind G.prog G.w) kvs → KVs G μ h xs kvs → OR G μ h (.dict xs) o
 | iset {xs : List Int} {o : Obj} {es : Array (Int × Value)} {ep : Nat} {t : SetTable} : o.ExactSet → o.data = .set es ep t → ElemsOf (intKind G.prog G.w) es.toList →
   (∀ k : Int, xs.contains k = true ↔ ∃ e ∈ es.toList, (intKind G.prog G.w).is k e.2 = true) → es.size < scanBound → t.fits es.size = true → es.size = xs.length → OR G μ h (.iset xs) o
 | attrs {xs : List (String × AV)} {es : List DictEntry} {n : Nat} : ARs G μ h xs es → OR G μ h (.attrs xs) ⟨.type "dict", Option.none, .dict es.toArray n, #[]⟩
 | inst {c : String} {C : Addr} {d : Nat} {dx : Addr} : G.addr c = some C → μ[d]? = some dx → OR G μ h (.inst c d) ⟨.ref C, some dx, .plain, #[]⟩
 | sinst {c : String} {C : Addr} {d : Nat} {dx : Addr} {xs : List (Option AV)} {vs : List (Option Value)} : G.addr c = some C → μ[d]? = some dx → SRs G μ h xs vs → OR G μ h (.sinst c d xs) ⟨.ref C, some dx, .plain, vs.toArray⟩
 | liter {l i : Nat} {a : Addr} : μ[l]? = some a → OR G μ h (.liter l i) ⟨.type "list_iterator", Option.none, .fields #[.ref a, .int i 0], #[]⟩
 | titer {xs : List AV} {i : Nat} {a : Addr} : VR G μ h (.tup xs) (.ref a) → OR G μ h (.titer xs i) ⟨.type "tuple_iterator", Option.none, .fields #[.ref a, .int i 0], #[]⟩
 | rng {n : Nat} {t u v : Tok} : OR G μ h (.rng n) ⟨.type "range", Option.none, .fields #[.int 0 t, .int n u, .int 1 v], #[]⟩
 | dview {T : String} {d : Nat} {a : Addr} : μ[d]? = some a → OR G μ h (.dview T d) ⟨.type T, Option.none, .fields #[.ref a], #[]⟩
 | bound {id : String} {l : Nat} {a : Addr} : μ[l]? = some a → OR G μ h (.bound id l) ⟨.type "method-wrapper", Option.none, .fields #[.builtin id, .ref a], #[]⟩
 | junk {o : Obj} : o.isFreed = false → OR G μ h .junk o
section
variable {G : Glob} {μ : List Addr} {h : Heap} {v : Value} {vs : List Value} {o : Obj}
noncomputable def VRm (G : Glob) (μ : List Addr) (h : Heap) : AV → Value → Prop
 | .none, v => v = .none
 | .bool b, v => v = .bool b
 | .int i, v => ∃ t, v = .int i t
 | .str x, v => ∃ t, v = .str (Str.ofString x) t
 | .tup xs, v => ∃ a o n vs, v = .ref a ∧ h.get? a = some o ∧ o.cls = .type "tuple" ∧ o.data = .seq (vs : List Value).toArray n ∧ a ∉ μ ∧ VRs G μ h xs vs
 | .ref n, v => ∃ a, v = .ref a ∧ μ[n]? = some a
 | .fn x, v => ∃ a, v = .ref a ∧ G.addr x = some a
 | .bi x, v => v = .builtin x
 | .ty x, v => v = .type x
 | .script xs, v => ∃ a o n vs, v = .ref a ∧ G.h₀.get? a = some o ∧ o.cls = .type "list" ∧ o.data = .seq (vs : List Value).toArray n ∧ IntsAre vs xs
theorem VR.toM {x : AV} (r : VR G μ h x v) : VRm G μ h x v := by
 cases r with
 | none => exact rfl
 | bool b => exact rfl
 | int i t => exact ⟨t, rfl⟩
 | str x t => exact ⟨t, rfl⟩
 | tup h1 h2 h3 h4 h5 => exact ⟨_, _, _, _, rfl, h1, h2, h3, h4, h5⟩
 | ref h1 => exact ⟨_, rfl, h1⟩
 | fn h1 => exact ⟨_, rfl, h1⟩
 | bi x => exact rfl
 | ty x => exact rfl
 | script h1 h2 h3 h4 => exact ⟨_, _, _, _, rfl, h1, h2, h3, h4⟩
theorem VR.of_none (r : VR G μ h .none v) : v = .none := r.toM
theorem VR.of_bool {b : Bool} (r : VR G μ h (.bool b) v) : v = .bool b := r.toM
theorem VR.of_int {i : Int} (r : VR G μ h (.int i) v) : ∃ t, v = .int i t := r.toM
theorem VR.of_ref {n : Nat} (r : VR G μ h (.ref n) v) : ∃ a, v = .ref a ∧ μ[n]? = some a := r.toM
theorem VR.of_ty {x : String} (r : VR G μ h (.ty x) v) : v = .type x := r.toM
theorem VR.of_tup {xs : List AV} (r : VR G μ h (.tup xs) v) : ∃ a o n vs, v = .ref a ∧ h.get? a = some o ∧ o.cls = .type "tuple" ∧ o.data = .seq vs.toArray n ∧ a ∉ μ ∧ VRs G μ h xs vs := r.toM
noncomputable def VRsm (G : Glob) (μ : List Addr) (h : Heap) : List AV → List Value → Prop
 | [], vs => vs = []
 | x :: xs, vs => ∃ w ws, vs = w :: ws ∧ VR G μ h x w ∧ VRs G μ h xs ws
theorem VRs.toM {xs : List AV} (r : VRs G μ h xs vs) : VRsm G μ h xs vs := by
 cases r with
 | nil => exact rfl
 | cons h1 h2 => exact ⟨_, _, rfl, h1, h2⟩
theorem VRs.of_nil (r : VRs G μ h [] vs) : vs = [] := r.toM
theorem VRs.of_cons {x : AV} {xs : List AV} (r : VRs G μ h (x :: xs) vs) : ∃ w ws, vs = w :: ws ∧ VR G μ h x w ∧ VRs G μ h xs ws := r.toM
theorem VRs.one {x : AV} (r : VRs G μ h [x] vs) : ∃ w, vs = [w] ∧ VR G μ h x w := by
 obtain ⟨w, ws, rfl, r1, r2⟩ := r.of_cons
 exact ⟨w, by rw [r2.of_nil], r1⟩
theorem VRs.two {x y : AV} (r : VRs G μ h [x, y] vs) : ∃ w u, vs = [w, u] ∧ VR G μ h x w ∧ VR G μ h y u := by
 obtain ⟨w, ws, rfl, r1, r2⟩ := r.of_cons
 obtain ⟨u, rfl, r3⟩ := r2.one
 exact ⟨w, u, rfl, r1, r3⟩
theorem VRs.ref1 {n : Nat} (r : VRs G μ h [.ref n] vs) : ∃ a, vs = [.ref a] ∧ μ[n]? = some a := by
 obtain ⟨w, rfl, r1⟩ := r.one
 obtain ⟨a, rfl, ha⟩ := r1.of_ref
 exact ⟨a, rfl, ha⟩
theorem VRs.ref2 {n : Nat} {y : AV} (r : VRs G μ h [.ref n, y] vs) : ∃ a u, vs = [.ref a, u] ∧ μ[n]? = some a ∧ VR G μ h y u := by
 obtain ⟨w, u, rfl, r1, r2⟩ := r.two
 obtain ⟨a, rfl, ha⟩ := r1.of_ref
 exact ⟨a, u, rfl, ha, r2⟩
theorem VRs.refInt {n : Nat} {k : Int} (r : VRs G μ h [.ref n, .int k] vs) : ∃ a t, vs = [.ref a, .int k t] ∧ μ[n]? = some a := by
 obtain ⟨a, u, rfl, ha, r2⟩ := r.ref2
 obtain ⟨t, rfl⟩ := r2.of_int
 exact ⟨a, t, rfl, ha⟩
theorem VRs.tup1 {xs : List AV} (r : VRs G μ h [.tup xs] vs) : ∃ a o n ws, vs = [.ref a] ∧ h.get? a = some o ∧ o.cls = .type "tuple" ∧ o.data = .seq ws.toArray n ∧ a ∉ μ ∧ VRs G μ h xs ws := by
 obtain ⟨w, rfl, r1⟩ := r.one
 obtain ⟨a, o, n, ws, rfl, k⟩ := r1.of_tup
 exact ⟨a, o, n, ws, rfl, k⟩
noncomputable def ORm (G : Glob) (μ : List Addr) (h : Heap) : AObj → Obj → Prop
 | .list xs, o => ∃ (vs : List Value) (n : Nat), o = ⟨.type "list", Option.none, .seq vs.toArray n, #[]⟩ ∧ VRs G μ h xs vs
 | .dict xs, o => ∃ kvs, o.IsDictOf (intKind G.prog G.w) kvs ∧ KVs G μ h xs kvs
 | .iset xs, o => ∃ (es : Array (Int × Value)) (ep : Nat) (t : SetTable), o.ExactSet ∧ o.data = .set es ep t ∧ ElemsOf (intKind G.prog G.w) es.toList ∧
   (∀ k : Int, xs.contains k = true ↔ ∃ e ∈ es.toList, (intKind G.prog G.w).is k e.2 = true) ∧ es.size < scanBound ∧ t.fits es.size = true ∧ es.size = xs.length
 | .attrs xs, o => ∃ (es : List DictEntry) (n : Nat), o = ⟨.type "dict", Option.none, .dict es.toArray n, #[]⟩ ∧ ARs G μ h xs es
 | .inst c d, o => ∃ C dx, o = ⟨.ref C, some dx, .plain, #[]⟩ ∧ G.addr c = some C ∧ μ[d]? = some dx
 | .sinst c d xs, o => ∃ C dx vs, o = ⟨.ref C, some dx, .plain, (vs : List (Option Value)).toArray⟩ ∧ G.addr c = some C ∧ μ[d]? = some dx ∧ SRs G μ h xs vs
 | .liter l i, o => ∃ a, o = ⟨.type "list_iterator", Option.none, .fields #[.ref a, .int i 0], #[]⟩ ∧ μ[l]? = some a
 | .titer xs i, o => ∃ a, o = ⟨.type "tuple_iterator", Option.none, .fields #[.ref a, .int i 0], #[]⟩ ∧ VR G μ h (.tup xs) (.ref a)
 | .rng n, o => ∃ t u v, o = ⟨.type "range", Option.none, .fields #[.int 0 t, .int n u, .int 1 v], #[]⟩
 | .dview T d, o => ∃ a, o = ⟨.type T, Option.none, .fields #[.ref a], #[]⟩ ∧ μ[d]? = some a
 | .bound id l, o => ∃ a, o = ⟨.type "method-wrapper", Option.none, .fields #[.builtin id, .ref a], #[]⟩ ∧ μ[l]? = some a
 | .junk, _ => True
theorem OR.toM {x : AObj} (r : OR G μ h x o) : ORm G μ h x o := by
 cases r with
 | list k => exact ⟨_, _, rfl, k⟩
 | dict k k' => exact ⟨_, k, k'⟩
 | iset a b c d e f g => exact ⟨_, _, _, a, b, c, d, e, f, g⟩
 | attrs k => exact ⟨_, _, rfl, k⟩
 | inst k k' => exact ⟨_, _, rfl, k, k'⟩
 | sinst k k' l => exact ⟨_, _, _, rfl, k, k', l⟩
 | liter k => exact ⟨_, rfl, k⟩
 | titer k => exact ⟨_, rfl, k⟩
 | rng => exact ⟨_, _, _, rfl⟩
 | dview k => exact ⟨_, rfl, k⟩
 | bound k => exact ⟨_, rfl, k⟩
 | junk => exact trivial
theorem OR.of_list {xs : List AV} (r : OR G μ h (.list xs) o) : ∃ (vs : List Value) (n : Nat), o = ⟨.type "list", Option.none, .seq vs.toArray n, #[]⟩ ∧ VRs G μ h xs vs := r.toM
theorem OR.of_dict {xs : List (Int × AV)} (r : OR G μ h (.dict xs) o) : ∃ kvs, o.IsDictOf (intKind G.prog G.w) kvs ∧ KVs G μ h xs kvs := r.toM
theorem OR.of_iset {xs : List Int} (r : OR G μ h (.iset xs) o) : ∃ (es : Array (Int × Value)) (ep : Nat) (t : SetTable), o.ExactSet ∧ o.data = .set es ep t ∧ ElemsOf (intKind G.prog G.w) es.toList ∧
   (∀ k : Int, xs.contains k = true ↔ ∃ e ∈ es.toList, (intKind G.prog G.w).is k e.2 = true) ∧ es.size < scanBound ∧ t.fits es.size = true ∧ es.size = xs.length := r.toM
theorem OR.of_attrs {xs : List (String × AV)} (r : OR G μ h (.attrs xs) o) : ∃ (es : List DictEntry) (n : Nat), o = ⟨.type "dict", Option.none, .dict es.toArray n, #[]⟩ ∧ ARs G μ h xs es := r.toM
theorem OR.of_inst {c : String} {d : Nat} (r : OR G μ h (.inst c d) o) : ∃ C dx, o = ⟨.ref C, some dx, .plain, #[]⟩ ∧ G.addr c = some C ∧ μ[d]? = some dx := r.toM
theorem OR.of_sinst {c : String} {d : Nat} {xs : List (Option AV)} (r : OR G μ h (.sinst c d xs) o) : ∃ C dx vs, o = ⟨.ref C, some dx, .plain, (vs : List (Option Value)).toArray⟩ ∧ G.addr c = some C ∧ μ[d]? = some dx ∧ SRs G μ h xs vs := r.toM
theorem OR.of_liter {l i : Nat} (r : OR G μ h (.liter l i) o) : ∃ a, o = ⟨.type "list_iterator", Option.none, .fields #[.ref a, .int i 0], #[]⟩ ∧ μ[l]? = some a := r.toM
theorem OR.of_titer {xs : List AV} {i : Nat} (r : OR G μ h (.titer xs i) o) : ∃ a, o = ⟨.type "tuple_iterator", Option.none, .fields #[.ref a, .int i 0], #[]⟩ ∧ VR G μ h (.tup xs) (.ref a) := r.toM
theorem OR.of_rng {n : Nat} (r : OR G μ h (.rng n) o) : ∃ t u v, o = ⟨.type "range", Option.none, .fields #[.int 0 t, .int n u, .int 1 v], #[]⟩ := r.toM
theorem OR.of_dview {T : String} {d : Nat} (r : OR G μ h (.dview T d) o) : ∃ a, o = ⟨.type T, Option.none, .fields #[.ref a], #[]⟩ ∧ μ[d]? = some a := r.toM
theorem OR.of_bound {id : String} {l : Nat} (r : OR G μ h (.bound id l) o) : ∃ a, o = ⟨.type "method-wrapper", Option.none, .fields #[.builtin id, .ref a], #[]⟩ ∧ μ[l]? = some a := r.toM
end
end Mine
open PySem PySem.W PyProof.Rows
namespace Mine
noncomputable def frA (fr : List Env) : List Addr := fr.filterMap (·.frame)
noncomputable def LocK (o : Obj) : Prop := (∃ es n, o.data = .dict es n) ∨ (∃ v, o.data = .cell v) ∨ (o.cls = .type "list" ∧ ∃ vs n, o.data = .seq vs n)
theorem LocK.noTup {o : Obj} (k : LocK o) (hc : o.cls = .type "tuple") (hd : ∃ vs n, o.data = .seq vs n) : False := by
 obtain ⟨vs, n, hd⟩ := hd
 rcases k with ⟨es, n, q⟩ | ⟨v, q⟩ | ⟨q, _⟩
 ·rw [hd] at q; cases q
 ·rw [hd] at q; cases q
 ·rw [hc] at q; simp at q
theorem LocK.noFields {o : Obj} (k : LocK o) {fs : Array Value} (hd : o.data = .fields fs) : False := by
 rcases k with ⟨es, n, q⟩ | ⟨v, q⟩ | ⟨_, vs, n, q⟩ <;> (rw [hd] at q; cases q)
structure HInv (G : Glob) (fr : List Env) (μ : List Addr) (hp : AH) (s : Shared) : Prop where
 base : G.h₀.StaysIn s.heap
 len : μ.length = hp.length
 nod : μ.Nodup
 obj : ∀ (n : Nat) (c : AObj × Nat) (a : Addr), hp[n]? = some c → μ[n]? = some a → ∃ o, s.heap.get? a = some o ∧ OR G μ s.heap c.1 o
 low : ∀ a ∈ μ, G.h₀.get? a = none
 frs : ∀ e ∈ fr, e.scope.kind = .function ∧ ∃ L o, e.frame = some L ∧ s.heap.get? L = some o ∧ (∃ es n, o.data = .dict es n) ∧ L ∉ μ ∧ G.h₀.get? L = none
structure SC where
 scope : Scope
 wr : List PySem.Str
structure EnvOk (sc : SC) (env : Env) : Prop where
 scope : env.scope = sc.scope
 fn : env.scope.kind = .function
 globals : env.globals = mainGlobals
 builtins : env.builtins = builtinsNs
 apart : env.cells.Pairwise fun x y => x.2 ≠ y.2
 cellok : ∀ x k, sc.scope.names.lookup x = some k → k = .cell ∨ k = .free → ∃ c, env.cells.lookup x = some c
structure EInv (G : Glob) (sc : SC) (env : Env) (own μ : List Addr) (ρ : List (String × AV)) (s : Shared) : Prop where
 ok : EnvOk sc env
 ownp : ∀ a ∈ own, a ∉ μ ∧ G.h₀.get? a = none ∧ ∃ o, s.heap.get? a = some o ∧ LocK o
 lown : env.locals ∈ own
 loc : ∃ m, s.heap.Ns env.locals m ∧ ∀ x v, ρ.lookup x = some v → env.kindOf (Str.ofString x) = some .local → ∃ w, m (Str.ofString x) = some w ∧ VR G μ s.heap v w
 cel : ∀ x v, ρ.lookup x = some v → env.kindOf (Str.ofString x) = some .local ∨ ((env.kindOf (Str.ofString x) = some .cell ∨ env.kindOf (Str.ofString x) = some .free) ∧ ∃ c w, env.cells.lookup (Str.ofString x) = some c ∧ s.heap.IsCell c (some w) ∧ VR G μ s.heap v w)
 cells : ∀ x c, env.cells.lookup x = some c → (∃ w, s.heap.IsCell c w) ∧ c ∉ μ ∧ c ≠ env.locals
 cown : ∀ x ∈ sc.wr, ∃ c, env.cells.lookup x = some c ∧ c ∈ own
 cnot : ∀ x c, env.cells.lookup x = some c → x ∉ sc.wr → c ∉ own
structure Ext (own : List Addr) (fr : List Env) (μ : List Addr) (hp : AH) (s : Shared) (μ' : List Addr) (hp' : AH) (s' : Shared) : Prop where
 pre : ∃ ν, μ' = μ ++ ν ∧ ∀ a ∈ ν, s.heap.get? a = none
 same : ∃ h' tk, s' = { s with heap := h', toks := tk }
 alive : ∀ b o, s.heap.get? b = some o → ∃ o', s'.heap.get? b = some o'
 keep : ∀ b o, s.heap.get? b = some o → b ∉ μ → b ∉ own → ∃ sl, s'.heap.get? b = some { o with slots := sl } ∧ (b ∉ frA fr → sl = o.slots)
 vers : ∀ (n : Nat) (c : AObj × Nat), hp[n]? = some c → ∃ c', hp'[n]? = some c' ∧ c.2 ≤ c'.2 ∧ (c.2 = c'.2 → c' = c ∧ ∀ (a : Addr), μ[n]? = some a → s'.heap.get? a = s.heap.get? a)
theorem Ext.refl {own : List Addr} {fr : List Env} {μ : List Addr} {hp : AH} {s : Shared} : Ext own fr μ hp s μ hp s where
 pre := ⟨[], by simp, by simp⟩
 same := ⟨s.heap, s.toks, rfl⟩
 alive := fun b o h => ⟨o, h⟩
 keep := fun b o h zz zz => ⟨o.slots, h, fun zz => rfl⟩
 vers := fun n c h => ⟨c, h, Nat.le_refl _, fun zz => ⟨rfl, fun zz zz => rfl⟩⟩
theorem Ext.mu {own : List Addr} {fr : List Env} {μ : List Addr} {hp : AH} {s : Shared} {μ' : List Addr} {hp' : AH} {s' : Shared} (x : Ext own fr μ hp s μ' hp' s') {n : Nat} {a : Addr} (h : μ[n]? = some a) : μ'[n]? = some a := by
 obtain ⟨ν, rfl, _⟩ := x.pre
 rw [List.getElem?_append_left (List.getElem?_eq_some_iff.mp h).1]; exact h
theorem Ext.mem {own : List Addr} {fr : List Env} {μ : List Addr} {hp : AH} {s : Shared} {μ' : List Addr} {hp' : AH} {s' : Shared} (x : Ext own fr μ hp s μ' hp' s') {b : Addr} {o : Obj} (h : s.heap.get? b = some o) (hb : b ∉ μ) : b ∉ μ' := by
 obtain ⟨ν, rfl, hν⟩ := x.pre
 intro hm
 rcases List.mem_append.mp hm with q | q
 ·exact hb q
 ·have := hν b q; rw [h] at this; cases this
theorem Ext.trans {own : List Addr} {fr : List Env} {μ μ₁ μ₂ : List Addr} {hp hp₁ hp₂ : AH} {s s₁ s₂ : Shared} (hlen : μ.length = hp.length) (x : Ext own fr μ hp s μ₁ hp₁ s₁) (y : Ext own fr μ₁ hp₁ s₁ μ₂ hp₂ s₂) : Ext own fr μ hp s μ₂ hp₂ s₂ where
 pre := by
  obtain ⟨ν, rfl, hν⟩ := x.pre
  obtain ⟨ν', rfl, hν'⟩ := y.pre
  refine ⟨ν ++ ν', by simp, fun a ha => ?_⟩
  rcases List.mem_append.mp ha with q | q
  ·exact hν a q
  ·cases e : s.heap.get? a with
   | none => rfl
   | some o =>
    obtain ⟨o', e'⟩ := x.alive a o e
    have := hν' a q
    rw [e'] at this; cases this
 same := by
  obtain ⟨h', tk, rfl⟩ := x.same
  obtain ⟨h'', tk', rfl⟩ := y.same
  exact ⟨h'', tk', rfl⟩
 alive := fun b o h => by
  obtain ⟨o', h'⟩ := x.alive b o h
  exact y.alive b o' h'
 keep := fun b o h hm ho => by
  obtain ⟨sl, h1, h2⟩ := x.keep b o h hm ho
  obtain ⟨sl', h3, h4⟩ := y.keep b _ h1 (x.mem h hm) ho
  exact ⟨sl', h3, fun hf => (h4 hf).trans (h2 hf)⟩
 vers := fun n c h => by
  obtain ⟨c₁, h1, l1, e1⟩ := x.vers n c h
  obtain ⟨c₂, h2, l2, e2⟩ := y.vers n c₁ h1
  refine ⟨c₂, h2, Nat.le_trans l1 l2, fun e => ?_⟩
  have q1 : c.2 = c₁.2 := by omega
  have q2 : c₁.2 = c₂.2 := by omega
  obtain ⟨r1, k1⟩ := e1 q1
  obtain ⟨r2, k2⟩ := e2 q2
  exact ⟨r2.trans r1, fun a ha => (k2 a (x.mu ha)).trans (k1 a ha)⟩
noncomputable def OwnK (own : List Addr) (s : Shared) : Prop := ∀ a ∈ own, ∀ o, s.heap.get? a = some o → LocK o
theorem EInv.ownK {G : Glob} {sc : SC} {env : Env} {own μ : List Addr} {ρ : List (String × AV)} {s : Shared} (e : EInv G sc env own μ ρ s) : OwnK own s := fun a ha o ho => by
 obtain ⟨o', h1, h2⟩ := (e.ownp a ha).2.2
 rw [ho] at h1; cases h1; exact h2
theorem keep_still {G : Glob} {fr : List Env} {own μ μ' : List Addr} {hp hp' : AH} {s s' : Shared} (H : HInv G fr μ hp s) (K : OwnK own s) (x : Ext own fr μ hp s μ' hp' s') : Still μ μ' s.heap s'.heap := by
 rintro a o ha hc zI4 h1
 obtain ⟨vs, nn, hd⟩ := zI4
 have h2 : a ∉ own := fun hm => (K a hm o ha).noTup hc ⟨vs, nn, hd⟩
 have h3 : a ∉ frA fr := fun hm => by
  obtain ⟨e, he, hf⟩ := List.mem_filterMap.mp hm
  obtain ⟨_, L, o', hL, ho', ⟨es, n, q⟩, _⟩ := H.frs e he
  rw [hf] at hL; cases hL
  rw [ha] at ho'; cases ho'
  rw [hd] at q; cases q
 obtain ⟨sl, e, hs⟩ := x.keep a o ha h1 h2
 rw [hs h3] at e; exact ⟨x.mem ha h1, e⟩
theorem VR.ext {G : Glob} {fr : List Env} {own μ μ' : List Addr} {hp hp' : AH} {s s' : Shared} (H : HInv G fr μ hp s) (K : OwnK own s) (x : Ext own fr μ hp s μ' hp' s') {v : AV} {w : Value} (h : VR G μ s.heap v w) : VR G μ' s'.heap v w :=
 h.mono (fun zz zz => x.mu) (keep_still H K x)
theorem VRs.ext {G : Glob} {fr : List Env} {own μ μ' : List Addr} {hp hp' : AH} {s s' : Shared} (H : HInv G fr μ hp s) (K : OwnK own s) (x : Ext own fr μ hp s μ' hp' s') {v : List AV} {w : List Value} (h : VRs G μ s.heap v w) : VRs G μ' s'.heap v w :=
 h.mono (fun zz zz => x.mu) (keep_still H K x)
theorem Ns_slots {h h' : Heap} {L : Addr} {m : PySem.Str → Option Value} (hn : h.Ns L m) (k : ∀ o, h.get? L = some o → ∃ sl, h'.get? L = some { o with slots := sl }) : h'.Ns L m := by
 obtain ⟨o, es, ep, ho, hd, r⟩ := hn
 obtain ⟨sl, hs⟩ := k o ho
 exact ⟨_, es, ep, hs, hd, r⟩
theorem IsCell_slots {h h' : Heap} {c : Addr} {v : Option Value} (hn : h.IsCell c v) (k : ∀ o, h.get? c = some o → ∃ sl, h'.get? c = some { o with slots := sl }) : h'.IsCell c v := by
 obtain ⟨o, ho, hd⟩ := hn
 obtain ⟨sl, hs⟩ := k o ho
 exact ⟨_, hs, hd⟩
theorem EInv.after {G : Glob} {sc : SC} {fr : List Env} {env : Env} {own own' μ μ' : List Addr} {hp hp' : AH} {ρ : List (String × AV)} {s s' : Shared} (H : HInv G fr μ hp s) (e : EInv G sc env own μ ρ s)
  (K : OwnK own' s) (x : Ext own' fr μ hp s μ' hp' s') (hl : env.locals ∉ own') (hdis : ∀ a ∈ own, a ∉ own') (hc : ∀ y c, env.cells.lookup y = some c → c ∉ own') : EInv G sc env own μ' ρ s' where
 ok := e.ok
 ownp := fun a ha => by
  obtain ⟨h1, h2, o, ho, hk⟩ := e.ownp a ha
  obtain ⟨sl, h3, _⟩ := x.keep a o ho h1 (hdis a ha)
  refine ⟨x.mem ho h1, h2, _, h3, hk⟩
 lown := e.lown
 loc := by
  obtain ⟨m, hn, hm⟩ := e.loc
  refine ⟨m, Ns_slots hn fun o ho => ?_, fun y v hy hk => ?_⟩
  ·obtain ⟨sl, h3, _⟩ := x.keep _ o ho (e.ownp _ e.lown).1 hl
   exact ⟨sl, h3⟩
  ·obtain ⟨w, h1, h2⟩ := hm y v hy hk
   exact ⟨w, h1, h2.ext H K x⟩
 cel := fun y v hy => by
  rcases e.cel y v hy with q | ⟨q, c, w, h1, h2, h3⟩
  ·exact .inl q
  ·refine .inr ⟨q, c, w, h1, IsCell_slots h2 fun o ho => ?_, h3.ext H K x⟩
   obtain ⟨sl, h3, _⟩ := x.keep _ o ho (e.cells _ _ h1).2.1 (hc _ _ h1)
   exact ⟨sl, h3⟩
 cells := fun y c hy => by
  obtain ⟨⟨w, o, ho, hd⟩, h2, h3⟩ := e.cells y c hy
  obtain ⟨sl, h4, _⟩ := x.keep _ o ho h2 (hc _ _ hy)
  exact ⟨⟨w, _, h4, hd⟩, x.mem ho h2, h3⟩
 cown := e.cown
 cnot := e.cnot
end Mine
open PySem PySem.W PyProof.Rows
namespace Mine
noncomputable def onVal {α : Type} (Q : α → AS → Prop) (st : AS) (o : Option α) : Prop := match o with
 | some a => Q a st
 | none => False
noncomputable def onRes {α : Type} (K : α → AH → Prop) (o : Option (α × AH)) : Prop := match o with
 | some (a, h) => K a h
 | none => False
theorem onVal_ok {α : Type} {Q : α → AS → Prop} {st : AS} : ∀ {o : Option α}, onVal Q st o → ∃ a, o = some a ∧ Q a st
 | some a, h => ⟨a, rfl, h⟩
theorem onRes_ok {α : Type} {K : α → AH → Prop} : ∀ {o : Option (α × AH)}, onRes K o → ∃ a h', o = some (a, h') ∧ K a h'
 | some (a, h'), h => ⟨a, h', rfl, h⟩
theorem onVal_mono {α : Type} {Q Q' : α → AS → Prop} {st : AS} (hq : ∀ a st', Q a st' → Q' a st') : ∀ {o : Option α}, onVal Q st o → onVal Q' st o
 | some _, h => hq _ _ h
theorem onRes_mono {α : Type} {K K' : α → AH → Prop} (hq : ∀ a h', K a h' → K' a h') : ∀ {o : Option (α × AH)}, onRes K o → onRes K' o
 | some (_, _), h => hq _ _ h
structure AM (α : Type) where
 run : AS → Option (α × AS)
 wp : (α → AS → Prop) → AS → Prop
 ok : ∀ {Q : α → AS → Prop} {st : AS}, wp Q st → ∃ a st', run st = some (a, st') ∧ Q a st'
 mono : ∀ {Q Q' : α → AS → Prop} {st : AS}, wp Q st → (∀ a st', Q a st' → Q' a st') → wp Q' st
noncomputable instance {α : Type} : CoeFun (AM α) (fun zz => AS → Option (α × AS)) := ⟨AM.run⟩
namespace AM
noncomputable def pure {α : Type} (a : α) : AM α := ⟨fun s => some (a, s), fun Q s => Q a s, fun h => ⟨a, _, rfl, h⟩, fun h k => k _ _ h⟩
noncomputable def bindR {α β : Type} (m : AM α) (f : α → AM β) (s : AS) : Option (β × AS) := match m s with
 | some (a, s') => f a s'
 | none => none
theorem bindR_ok {α β : Type} {m : AM α} {f : α → AM β} {s s' : AS} {a : α} (h : m s = some (a, s')) : bindR m f s = f a s' := by
 unfold bindR; rw [h]
noncomputable def bind {α β : Type} (m : AM α) (f : α → AM β) : AM β := ⟨bindR m f, fun Q s => m.wp (fun a s' => (f a).wp Q s') s, fun h => by
 obtain ⟨a, s', e, k⟩ := m.ok h
 obtain ⟨b, s'', e', k'⟩ := (f a).ok k
 exact ⟨b, s'', (bindR_ok e).trans e', k'⟩, fun h k => m.mono h fun zz zz h' => (f _).mono h' k⟩
noncomputable def bad {α : Type} : AM α := ⟨fun zz => none, fun zz zz => False, fun h => h.elim, fun h zz => h.elim⟩
noncomputable instance : Monad AM where
 pure := AM.pure
 bind := AM.bind
end AM
theorem am_bind {α β : Type} (m : AM α) (f : α → AM β) (s : AS) : (m >>= f) s = match m s with | some (a, s') => f a s' | none => none := rfl
theorem am_bind_some {α β : Type} {m : AM α} {f : α → AM β} {s s'' : AS} {b : β} (h : (m >>= f) s = some (b, s'')) : ∃ a s', m s = some (a, s') ∧ f a s' = some (b, s'') := by
 rw [am_bind] at h
 cases hm : m s with
 | none => rw [hm] at h; cases h
 | some x => obtain ⟨a, s'⟩ := x; rw [hm] at h; exact ⟨a, s', rfl, h⟩
structure AOk (A : Around) (fr : List Env) (hd : Bool) (d : Nat) : Prop where
 frames : A.frames = some fr
 depth : A.depth + 3 * d + 3 < recursionLimit
 units : A.units + 40 * d + 100 < cLine
 hnd : hd = true → A.handled = none
structure Inv (G : Glob) (sc : SC) (fr : List Env) (env : Env) (own μ : List Addr) (st : AS) (s : Shared) : Prop where
 h : HInv G fr μ st.hp s
 e : EInv G sc env own μ st.env s
abbrev XT (own : List Addr) (fr : List Env) (μ : List Addr) (st : AS) (s : Shared) (μ' : List Addr) (st' : AS) (s' : Shared) : Prop := Ext own fr μ st.hp s μ' st'.hp s'
theorem Inv.trans {G : Glob} {sc : SC} {fr : List Env} {env : Env} {own μ μ₁ μ₂ : List Addr} {st st₁ st₂ : AS} {s s₁ s₂ : Shared} (I : Inv G sc fr env own μ st s) (x : XT own fr μ st s μ₁ st₁ s₁) (y : XT own fr μ₁ st₁ s₁ μ₂ st₂ s₂) : XT own fr μ st s μ₂ st₂ s₂ :=
 Ext.trans I.h.len x y
theorem Inv.vr {G : Glob} {sc : SC} {fr : List Env} {env : Env} {own μ μ₁ : List Addr} {st st₁ : AS} {s s₁ : Shared} (I : Inv G sc fr env own μ st s) (x : XT own fr μ st s μ₁ st₁ s₁) {v : AV} {w : Value} (h : VR G μ s.heap v w) : VR G μ₁ s₁.heap v w := h.ext I.h I.e.ownK x
theorem Inv.vrs {G : Glob} {sc : SC} {fr : List Env} {env : Env} {own μ μ₁ : List Addr} {st st₁ : AS} {s s₁ : Shared} (I : Inv G sc fr env own μ st s) (x : XT own fr μ st s μ₁ st₁ s₁) {v : List AV} {w : List Value} (h : VRs G μ s.heap v w) : VRs G μ₁ s₁.heap v w := h.ext I.h I.e.ownK x
noncomputable def Sim {α β : Type} (G : Glob) (sc : SC) (hd : Bool) (d : Nat) (m : AM α) (t : Env → Sem β) (R : List Addr → Heap → α → β → Prop) : Prop :=
 ∀ (A : Around) (fr : List Env) (env : Env) (own μ : List Addr) (st : AS) (s : Shared) (a : α) (st' : AS), AOk A fr hd d → Inv G sc fr env own μ st s → m st = some (a, st') →
  ∀ (Q : β → Shared → Prop) (E : Value → Shared → Prop), (∀ b s' μ', XT own fr μ st s μ' st' s' → Inv G sc fr env own μ' st' s' → R μ' s'.heap a b → Q b s') → wpAny G.M A (t env) Q E s
abbrev SimE (G : Glob) (sc : SC) (hd : Bool) (d : Nat) (m : AM AV) (e : Expr) : Prop := Sim G sc hd d m (fun env => eval e env) (VR G)
abbrev SimT (G : Glob) (sc : SC) (hd : Bool) (d : Nat) (m : AM Bool) (e : Expr) : Prop := Sim G sc hd d m (fun env => isTrue e env (eval e env)) (fun zz zz a b => a = b)
section
variable {G : Glob} {sc : SC} {hd : Bool} {d : Nat}
theorem Inv.tok {fr : List Env} {env : Env} {own μ : List Addr} {st : AS} {s : Shared} (I : Inv G sc fr env own μ st s) (t : Nat) : Inv G sc fr env own μ st { s with toks := t } := ⟨⟨I.h.base, I.h.len, I.h.nod, I.h.obj, I.h.low, I.h.frs⟩, ⟨I.e.ok, I.e.ownp, I.e.lown, I.e.loc, I.e.cel, I.e.cells, I.e.cown, I.e.cnot⟩⟩
theorem Ext.tok {fr : List Env} {own μ : List Addr} {hp : AH} {s : Shared} (t : Nat) : Ext own fr μ hp s μ hp { s with toks := t } where
 pre := ⟨[], by simp, by simp⟩
 same := ⟨s.heap, t, rfl⟩
 alive := fun b o h => ⟨o, h⟩
 keep := fun b o h zz zz => ⟨o.slots, h, fun zz => rfl⟩
 vers := fun n c h => ⟨c, h, Nat.le_refl _, fun zz => ⟨rfl, fun zz zz => rfl⟩⟩
theorem sim_int {i : Int} {k : Option String} {kk : Nat} {pos : Pos} : SimE G sc hd d (pure (.int i)) (.Constant (.int i) kk pos) := by
 intro A fr env own μ st s a st' _ I hm Q E h
 cases hm
 exact wpAny_Constant_int (h _ _ μ (Ext.tok _) (I.tok _) (.int _ _))
theorem sim_none {kk : Nat} {pos : Pos} : SimE G sc hd d (pure .none) (.Constant .none kk pos) := by
 intro A fr env own μ st s a st' _ I hm Q E h
 cases hm
 exact wpAny_Constant_none (h _ _ μ Ext.refl I .none)
theorem sim_bool {b : Bool} {kk : Nat} {pos : Pos} : SimE G sc hd d (pure (.bool b)) (.Constant (.bool b) kk pos) := by
 intro A fr env own μ st s a st' _ I hm Q E h
 cases hm
 exact wpAny_Constant_bool (h _ _ μ Ext.refl I (.bool _))
theorem sim_str {x : String} {kk : Nat} {pos : Pos} : SimE G sc hd d (pure (.str x)) (.Constant (.str (Str.ofString x)) kk pos) := by
 intro A fr env own μ st s a st' _ I hm Q E h
 cases hm
 exact wpAny_Constant_str (h _ _ μ (Ext.tok _) (I.tok _) (.str _ _))
noncomputable def varR (x : String) (st : AS) : Option (AV × AS) := match st.env.lookup x with
 | some v => some (v, st)
 | none => none
theorem varR_some {x : String} {st : AS} {v : AV} (h : st.env.lookup x = some v) : varR x st = some (v, st) := by unfold varR; rw [h]
noncomputable def bVar (x : String) : AM AV := ⟨varR x, fun Q st => onVal Q st (st.env.lookup x), fun h => by
 obtain ⟨a, e, k⟩ := onVal_ok h
 exact ⟨a, _, varR_some e, k⟩, fun h k => onVal_mono k h⟩
theorem bVar_some {x : String} {st st' : AS} {a : AV} (h : bVar x st = some (a, st')) : st' = st ∧ st.env.lookup x = some a := by
 change varR x st = _ at h
 unfold varR at h
 split at h
 ·rename_i v hv; cases h; exact ⟨rfl, hv⟩
 ·cases h
theorem sim_load {x : String} (hc : (Str.ofString x == ("__classdict__" : PySem.Str)) = false) : Sim G sc hd d (bVar x) (fun env => loadName env (Str.ofString x)) (VR G) := by
 intro A fr env own μ st s a st' _ I hm Q E h
 obtain ⟨rfl, hv⟩ := bVar_some hm
 have hk := I.e.ok.fn
 rcases I.e.cel x a hv with hl | ⟨hl, c, w, hc1, hc2, hr⟩
 ·obtain ⟨m, hn, hmm⟩ := I.e.loc
  obtain ⟨w, hw, hr⟩ := hmm x a hv hl
  exact wpAny_loadName_local hk hl hn hw (h _ _ μ Ext.refl I hr)
 ·rcases hl with hl | hl
  ·exact wpAny_loadName_cell hk hl hc1 hc2 (h _ _ μ Ext.refl I hr)
  ·exact wpAny_loadName_free hk hl hc1 hc2 (h _ _ μ Ext.refl I hr) hc
theorem sim_var {x : String} {pos : Pos} (hc : (Str.ofString x == ("__classdict__" : PySem.Str)) = false) (hdb : (Str.ofString x == ("__debug__" : PySem.Str)) = false) : SimE G sc hd d (bVar x) (.Name (Str.ofString x) pos) := by
 intro A fr env own μ st s a st' hA I hm Q E h
 exact wpAny_Name (sim_load hc A fr env own μ st s a st' hA I hm Q E h) hdb
theorem loadGlobal_is {A : Around} {fr : List Env} {μ : List Addr} {hp : AH} {s : Shared} {env : Env} {x : PySem.Str} {w : Value} {Q : Value → Shared → Prop} {E : Value → Shared → Prop} (gk : GOk G) (H : HInv G fr μ hp s) (ok : EnvOk sc env)
  (hx : sc.scope.names.lookup x = some .globalImplicit) (hw : G.mg x = some w ∨ (G.mg x = none ∧ G.mb x = some w)) (h : Q w s) : wpAny G.M A (loadName env x) Q E s := by
 refine ks_loadName_global ok.fn (by unfold Env.kindOf; rw [ok.scope]; exact hx) ?_
 unfold loadGlobal
 have hg : s.heap.Ns env.globals G.mg := ok.globals ▸ gk.g.keeps H.base
 have hb : s.heap.Ns env.builtins G.mb := ok.builtins ▸ gk.b.keeps H.base
 refine wpAny_bind (wpAny_nsGet hg ?_)
 rcases hw with e | ⟨e, e'⟩
 ·rw [e]; exact wpAny_pure h
 ·rw [e]
  refine wpAny_bind (wpAny_nsGet hb ?_)
  rw [e']; exact wpAny_pure h
noncomputable def GlobIs (G : Glob) (x : String) (v : AV) : Prop := ∃ w, (G.mg (Str.ofString x) = some w ∨ (G.mg (Str.ofString x) = none ∧ G.mb (Str.ofString x) = some w)) ∧ ∀ μ h, VR G μ h v w
theorem sim_glob {x : String} {v : AV} {pos : Pos} (gk : GOk G) (hx : sc.scope.names.lookup (Str.ofString x) = some .globalImplicit) (hg : GlobIs G x v) (hdb : (Str.ofString x == ("__debug__" : PySem.Str)) = false) :
  SimE G sc hd d (pure v) (.Name (Str.ofString x) pos) := by
 intro A fr env own μ st s a st' hA I hm Q E h
 cases hm
 obtain ⟨w, hw, hr⟩ := hg
 exact wpAny_Name (loadGlobal_is gk I.h I.e.ok hx hw (h _ _ μ Ext.refl I (hr _ _))) hdb
theorem sim_bind2 {α β γ : Type} {m : AM α} {f : α → AM γ} {t : Env → Sem β} {R : List Addr → Heap → α → β → Prop} {A : Around} {fr : List Env} {env : Env} {own μ : List Addr} {st st' : AS} {s : Shared} {c : γ} (S : Sim G sc hd d m t R)
  (hA : AOk A fr hd d) (I : Inv G sc fr env own μ st s) (hm : (m >>= f) st = some (c, st')) {Q : β → Shared → Prop} {E : Value → Shared → Prop}
  (k : ∀ a st₁ b s₁ μ₁, f a st₁ = some (c, st') → XT own fr μ st s μ₁ st₁ s₁ → Inv G sc fr env own μ₁ st₁ s₁ → R μ₁ s₁.heap a b → Q b s₁) : wpAny G.M A (t env) Q E s := by
 obtain ⟨a, st₁, h1, h2⟩ := am_bind_some hm
 exact S A fr env own μ st s a st₁ hA I h1 Q E fun b s' μ' x I' r => k a st₁ b s' μ' h2 x I' r
end
end Mine
open PySem PySem.W PyProof.Rows
namespace Mine
section
variable {G : Glob} {μ μ' : List Addr} {h h' : Heap}
theorem KVs.mono (hμ : ∀ (n : Nat) (a : Addr), μ[n]? = some a → μ'[n]? = some a)
  (hk : Still μ μ' h h') {xs : List (Int × AV)} {es : List (Int × Value)} (k : KVs G μ h xs es) : KVs G μ' h' xs es := by
 induction k with
 | nil => exact .nil
 | cons h1 _ ih => exact .cons (h1.mono hμ hk) ih
theorem ARs.mono (hμ : ∀ (n : Nat) (a : Addr), μ[n]? = some a → μ'[n]? = some a)
  (hk : Still μ μ' h h') {xs : List (String × AV)} {es : List DictEntry} (k : ARs G μ h xs es) : ARs G μ' h' xs es := by
 induction k with
 | nil => exact .nil
 | cons h1 _ ih => exact .cons (h1.mono hμ hk) ih
theorem SRs.mono (hμ : ∀ (n : Nat) (a : Addr), μ[n]? = Option.some a → μ'[n]? = Option.some a)
  (hk : Still μ μ' h h') {xs : List (Option AV)} {es : List (Option Value)} (k : SRs G μ h xs es) : SRs G μ' h' xs es := by
 induction k with
 | nil => exact .nil
 | none _ ih => exact .none ih
 | some h1 _ ih => exact .some (h1.mono hμ hk) ih
theorem OR.mono (hμ : ∀ (n : Nat) (a : Addr), μ[n]? = some a → μ'[n]? = some a)
  (hk : Still μ μ' h h') {x : AObj} {o : Obj} (k : OR G μ h x o) : OR G μ' h' x o := by
 cases k with
 | list k => exact .list (k.mono hμ hk)
 | dict k1 k => exact .dict k1 (k.mono hμ hk)
 | iset a b c d e f g => exact .iset a b c d e f g
 | attrs k => exact .attrs (k.mono hμ hk)
 | inst k1 k2 => exact .inst k1 (hμ _ _ k2)
 | sinst k1 k0 k2 => exact .sinst k1 (hμ _ _ k0) (k2.mono hμ hk)
 | liter k => exact .liter (hμ _ _ k)
 | titer k => exact .titer (k.mono hμ hk)
 | rng => exact .rng
 | dview k => exact .dview (hμ _ _ k)
 | bound k => exact .bound (hμ _ _ k)
 | junk k => exact .junk k
end
section
variable {G : Glob} {fr : List Env} {μ : List Addr} {hp : AH} {s : Shared}
theorem HInv.tok (H : HInv G fr μ hp s) (t : Nat) : HInv G fr μ hp { s with toks := t } := ⟨H.base, H.len, H.nod, H.obj, H.low, H.frs⟩
theorem HInv.lt (H : HInv G fr μ hp s) {a : Addr} (ha : a ∈ μ) : a < s.heap.objs.size := by
 obtain ⟨n, hn⟩ := List.getElem?_of_mem ha
 have hlt := (List.getElem?_eq_some_iff.mp hn).1
 rw [H.len] at hlt
 obtain ⟨o', ho', _⟩ := H.obj n hp[n] a (List.getElem?_eq_getElem hlt) hn
 exact Heap.lt_size ho'
theorem HInv.addr (H : HInv G fr μ hp s) {n : Nat} {c : AObj × Nat} (hc : hp[n]? = some c) : ∃ a o, μ[n]? = some a ∧ s.heap.get? a = some o ∧ OR G μ s.heap c.1 o := by
 have hlt := (List.getElem?_eq_some_iff.mp hc).1
 rw [← H.len] at hlt
 obtain ⟨o, h1, h2⟩ := H.obj n c μ[n] hc (List.getElem?_eq_getElem hlt)
 exact ⟨_, o, List.getElem?_eq_getElem hlt, h1, h2⟩
theorem HInv.at (H : HInv G fr μ hp s) {n : Nat} {c : AObj × Nat} {a : Addr} (ha : μ[n]? = some a) (hc : hp[n]? = some c) : ∃ o, s.heap.get? a = some o ∧ OR G μ s.heap c.1 o := H.obj n c a hc ha
theorem HInv.inj (H : HInv G fr μ hp s) {n m : Nat} {a : Addr} (h1 : μ[n]? = some a) (h2 : μ[m]? = some a) : n = m := by
 obtain ⟨l1, e1⟩ := List.getElem?_eq_some_iff.mp h1
 obtain ⟨l2, e2⟩ := List.getElem?_eq_some_iff.mp h2
 rcases Nat.lt_trichotomy n m with q | q | q
 ·exact absurd (e1.trans e2.symm) (List.pairwise_iff_getElem.mp H.nod n m l1 l2 q)
 ·exact q
 ·exact absurd (e2.trans e1.symm) (List.pairwise_iff_getElem.mp H.nod m n l2 l1 q)
theorem HInv.noFr (H : HInv G fr μ hp s) {a : Addr} (ha : a ∈ μ) : a ∉ frA fr := fun hm => by
 obtain ⟨e, he, hf⟩ := List.mem_filterMap.mp hm
 obtain ⟨_, L, o', hL, ho', _, hn, _⟩ := H.frs e he
 rw [hf] at hL; cases hL
 exact hn ha
theorem HInv.grow (H : HInv G fr μ hp s) {h' : Heap} {tk : Nat} (hk : ∀ b o, s.heap.get? b = some o → h'.get? b = some o) :
  HInv G fr μ hp { s with heap := h', toks := tk } ∧ Ext [] fr μ hp s μ hp { s with heap := h', toks := tk } := by
 refine ⟨⟨fun b o e => hk b o (H.base b o e), H.len, H.nod, fun n c a hc ha => ?_, H.low, fun e he => ?_⟩, ⟨⟨[], by simp, by simp⟩, ⟨h', tk, rfl⟩, fun b o e => ⟨o, hk b o e⟩, fun b o e zz zz => ⟨o.slots, hk b o e, fun zz => rfl⟩, fun n c hc => ⟨c, hc, Nat.le_refl _, fun zz => ⟨rfl, fun a ha => ?_⟩⟩⟩⟩
 ·obtain ⟨o, h1, h2⟩ := H.obj n c a hc ha
  exact ⟨o, hk a o h1, h2.mono (fun zz zz e => e) (Still.of_keeps hk)⟩
 ·obtain ⟨k, L, o, h1, h2, h3, h4, h5⟩ := H.frs e he
  exact ⟨k, L, o, h1, hk L o h2, h3, h4, h5⟩
 ·obtain ⟨o, h1, _⟩ := H.obj n c a hc ha
  exact (hk a o h1).trans h1.symm
theorem HInv.alloc (H : HInv G fr μ hp s) {h' : Heap} {tk : Nat} {a : Addr} {o : Obj} {x : AObj} (hk : ∀ b o, s.heap.get? b = some o → h'.get? b = some o) (hnew : s.heap.get? a = none) (ha : h'.get? a = some o) (hor : OR G μ s.heap x o) :
  HInv G fr (μ ++ [a]) (hp ++ [(x, 0)]) { s with heap := h', toks := tk } ∧ Ext [] fr μ hp s (μ ++ [a]) (hp ++ [(x, 0)]) { s with heap := h', toks := tk } := by
 have hμ : ∀ (n : Nat) (b : Addr), μ[n]? = some b → (μ ++ [a])[n]? = some b := fun n b e => by
  rw [List.getElem?_append_left (List.getElem?_eq_some_iff.mp e).1]; exact e
 have hn : a ∉ μ := fun hm => by
  obtain ⟨n, hn⟩ := List.getElem?_of_mem hm
  have hlt := (List.getElem?_eq_some_iff.mp hn).1
  rw [H.len] at hlt
  obtain ⟨o', ho', _⟩ := H.obj n hp[n] a (List.getElem?_eq_getElem hlt) hn
  rw [hnew] at ho'; cases ho'
 refine ⟨⟨fun b o e => hk b o (H.base b o e), by simp [H.len], ?_, fun n c b hc hb => ?_, fun b hb => ?_, fun e he => ?_⟩, ⟨⟨[a], rfl, by simpa using hnew⟩, ⟨h', tk, rfl⟩, fun b o e => ⟨o, hk b o e⟩, fun b o e zz zz => ⟨o.slots, hk b o e, fun zz => rfl⟩, fun n c hc => ⟨c, ?_, Nat.le_refl _, fun zz => ⟨rfl, fun b hb => ?_⟩⟩⟩⟩
 ·rw [List.nodup_append]
  exact ⟨H.nod, by simp, fun b hb c hc e => hn (by simp at hc; rw [← hc, ← e]; exact hb)⟩
 ·by_cases hlt : n < hp.length
  ·rw [List.getElem?_append_left hlt] at hc
   rw [List.getElem?_append_left (by rw [H.len]; exact hlt)] at hb
   obtain ⟨o, h1, h2⟩ := H.obj n c b hc hb
   exact ⟨o, hk b o h1, h2.mono hμ (Still.of_grows hk (by simpa using hnew))⟩
  ·have hge : hp.length ≤ n := Nat.le_of_not_lt hlt
   rw [List.getElem?_append_right hge] at hc
   rw [List.getElem?_append_right (by rw [H.len]; exact hge), H.len] at hb
   have hz : n - hp.length = 0 := by
    have := (List.getElem?_eq_some_iff.mp hc).1
    simp at this; omega
   rw [hz] at hc hb
   simp at hc hb
   subst hc hb
   exact ⟨o, ha, hor.mono hμ (Still.of_grows hk (by simpa using hnew))⟩
 ·rcases List.mem_append.mp hb with q | q
  ·exact H.low b q
  ·simp at q; subst q
   cases e : G.h₀.get? b with
   | none => rfl
   | some o' => have := H.base _ _ e; rw [hnew] at this; cases this
 ·obtain ⟨k, L, o', h1, h2, h3, h4, h5⟩ := H.frs e he
  refine ⟨k, L, o', h1, hk L o' h2, h3, fun hm => ?_, h5⟩
  rcases List.mem_append.mp hm with q | q
  ·exact h4 q
  ·simp at q; subst q; rw [hnew] at h2; cases h2
 ·rw [List.getElem?_append_left (List.getElem?_eq_some_iff.mp hc).1]; exact hc
 ·obtain ⟨o, h1, _⟩ := H.obj n c b hc hb
  exact (hk b o h1).trans h1.symm
theorem HInv.put (H : HInv G fr μ hp s) {h' : Heap} {tk : Nat} {n : Nat} {c : AObj × Nat} {a : Addr} {o : Obj} {x : AObj} (hc : hp[n]? = some c) (ha : μ[n]? = some a) (hk : ∀ b o, b ≠ a → s.heap.get? b = some o → h'.get? b = some o)
  (ho : h'.get? a = some o) (hor : OR G μ h' x o) :
  HInv G fr μ (hp.set n (x, c.2 + 1)) { s with heap := h', toks := tk } ∧ Ext [] fr μ hp s μ (hp.set n (x, c.2 + 1)) { s with heap := h', toks := tk } := by
 have ham : a ∈ μ := List.mem_of_getElem? ha
 have hlt : n < hp.length := (List.getElem?_eq_some_iff.mp hc).1
 obtain ⟨oa, hoa, horA⟩ := H.obj n c a hc ha
 have still : Still μ μ s.heap h' := fun b o e q zz hm => ⟨hm, hk b o (fun z => hm (z ▸ ham)) e⟩
 refine ⟨⟨fun b o e => hk b o (fun z => ?_) (H.base b o e), by simp [H.len], H.nod, fun m c' b hc' hb => ?_, H.low, fun e he => ?_⟩, ⟨⟨[], by simp, by simp⟩, ⟨h', tk, rfl⟩, fun b o e => ?_, fun b o e hb zz => ⟨o.slots, hk b o (fun z => hb (z ▸ ham)) e, fun zz => rfl⟩, fun m c' hc' => ?_⟩⟩
 ·rw [z, H.low a ham] at e; cases e
 ·by_cases hm : m = n
  ·subst hm
   rw [List.getElem?_set_self hlt] at hc'
   cases hc'
   rw [ha] at hb; cases hb
   exact ⟨o, ho, hor⟩
  ·rw [List.getElem?_set_ne (Ne.symm hm)] at hc'
   obtain ⟨o', h1, h2⟩ := H.obj m c' b hc' hb
   exact ⟨o', hk b o' (fun z => hm (H.inj (z ▸ hb) ha)) h1, h2.mono (fun zz zz e => e) still⟩
 ·obtain ⟨k, L, o', h1, h2, h3, h4, h5⟩ := H.frs e he
  exact ⟨k, L, o', h1, hk L o' (fun z => h4 (z ▸ ham)) h2, h3, h4, h5⟩
 ·by_cases hb : b = a
  ·exact ⟨_, hb ▸ ho⟩
  ·exact ⟨_, hk b o hb e⟩
 ·by_cases hm : m = n
  ·subst hm
   rw [hc] at hc'; cases hc'
   exact ⟨_, List.getElem?_set_self hlt, Nat.le_succ _, fun e => absurd e (Nat.ne_of_lt (Nat.lt_succ_self _))⟩
  ·refine ⟨c', by rw [List.getElem?_set_ne (Ne.symm hm)]; exact hc', Nat.le_refl _, fun zz => ⟨rfl, fun b hb => ?_⟩⟩
   obtain ⟨o', h1, _⟩ := H.obj m c' b hc' hb
   exact (hk b o' (fun z => hm (H.inj (z ▸ hb) ha)) h1).trans h1.symm
end
theorem Ext.weaken {own : List Addr} {fr : List Env} {μ μ' : List Addr} {hp hp' : AH} {s s' : Shared} (x : Ext [] fr μ hp s μ' hp' s') : Ext own fr μ hp s μ' hp' s' :=
 ⟨x.pre, x.same, x.alive, fun b o h1 h2 zz => x.keep b o h1 h2 (by simp), x.vers⟩
theorem Inv.heap {G : Glob} {sc : SC} {fr : List Env} {env : Env} {own μ μ' : List Addr} {st : AS} {hp' : AH} {s s' : Shared} (I : Inv G sc fr env own μ st s) (x : Ext [] fr μ st.hp s μ' hp' s') (H : HInv G fr μ' hp' s') :
  Inv G sc fr env own μ' { st with hp := hp' } s' := ⟨H, I.e.after I.h (by intro a ha; cases ha) x (by simp) (by simp) (by simp)⟩
noncomputable def AHM (α : Type) := AH → Option (α × AH)
noncomputable def wpH {α : Type} (f : AHM α) (K : α → AH → Prop) (h : AH) : Prop := onRes K (f h)
noncomputable def kLift {α : Type} (e : List (String × AV)) (Q : α → AS → Prop) : α → AH → Prop := fun a h => Q a ⟨e, h⟩
noncomputable def liftR {α : Type} (m : AHM α) (st : AS) : Option (α × AS) := match m st.hp with
 | some (a, hp) => some (a, { st with hp := hp })
 | none => none
theorem liftR_some {α : Type} {m : AHM α} {st : AS} {a : α} {hp : AH} (h : m st.hp = some (a, hp)) : liftR m st = some (a, { st with hp := hp }) := by unfold liftR; rw [h]
noncomputable def lift {α : Type} (m : AHM α) : AM α := ⟨liftR m, fun Q st => wpH m (kLift st.env Q) st.hp, fun h => by
 obtain ⟨a, h', e, k⟩ := onRes_ok h
 exact ⟨a, _, liftR_some e, k⟩, fun h k => onRes_mono (fun zz zz q => k _ _ q) h⟩
theorem lift_some {α : Type} {m : AHM α} {st st' : AS} {a : α} (h : lift m st = some (a, st')) : ∃ hp', m st.hp = some (a, hp') ∧ st' = { st with hp := hp' } := by
 change liftR m st = _ at h
 unfold liftR at h
 split at h
 ·rename_i a' hp' e; cases h; exact ⟨hp', e, rfl⟩
 ·cases h
noncomputable def HSim {α β : Type} (G : Glob) (hd : Bool) (d : Nat) (m : AHM α) (t : List Addr → Heap → Sem β → Prop) (R : List Addr → Heap → α → β → Prop) : Prop :=
 ∀ (A : Around) (fr : List Env) (μ : List Addr) (hp : AH) (s : Shared) (a : α) (hp' : AH) (tr : Sem β), AOk A fr hd d → HInv G fr μ hp s → t μ s.heap tr → m hp = some (a, hp') →
  ∀ (Q : β → Shared → Prop) (E : Value → Shared → Prop), (∀ b s' μ', Ext [] fr μ hp s μ' hp' s' → HInv G fr μ' hp' s' → R μ' s'.heap a b → Q b s') → wpAny G.M A tr Q E s
theorem HSim.use {α β : Type} {G : Glob} {sc : SC} {hd : Bool} {d : Nat} {m : AHM α} {t : List Addr → Heap → Sem β → Prop} {R : List Addr → Heap → α → β → Prop} (S : HSim G hd d m t R) {A : Around} {fr : List Env} {env : Env} {own μ : List Addr} {st st' : AS} {s : Shared} {a : α} {tr : Sem β}
  (hA : AOk A fr hd d) (I : Inv G sc fr env own μ st s) (ht : t μ s.heap tr) (hm : lift m st = some (a, st')) {Q : β → Shared → Prop} {E : Value → Shared → Prop}
  (k : ∀ b s' μ', XT own fr μ st s μ' st' s' → Inv G sc fr env own μ' st' s' → R μ' s'.heap a b → Q b s') : wpAny G.M A tr Q E s := by
 obtain ⟨hp', h1, rfl⟩ := lift_some hm
 exact S A fr μ st.hp s a hp' tr hA I.h ht h1 Q E fun b s' μ' x H r => k b s' μ' x.weaken (I.heap x H) r
noncomputable def aNew (x : AObj) : AHM AV := fun hp => some (.ref hp.length, hp ++ [(x, 0)])
noncomputable def bO {α β : Type} (o : Option α) (f : α → Option β) : Option β := match o with
 | some a => f a
 | none => none
theorem bO_v {α β : Type} (a : α) (f : α → Option β) : bO (some a) f = f a := rfl
theorem bO_n {α β : Type} (f : α → Option β) : bO none f = none := rfl
theorem bO_of {α β : Type} {o : Option α} {a : α} {f : α → Option β} (h : o = some a) : bO o f = f a := by rw [h]; rfl
theorem bO_some {α β : Type} {o : Option α} {f : α → Option β} {b : β} (h : bO o f = some b) {P : Prop} (k : ∀ a, o = some a → f a = some b → P) : P := by
 cases o with
 | none => cases h
 | some a => exact k a rfl h
noncomputable def AObj.list? : AObj → Option (List AV) := AObj.rec (fun xs => some xs) (fun zz => none) (fun zz => none) (fun zz => none) (fun zz zz => none) (fun zz zz zz => none) (fun zz zz => none) (fun zz zz => none) (fun zz => none) (fun zz zz => none) (fun zz zz => none) none
noncomputable def AObj.dict? : AObj → Option (List (Int × AV)) := AObj.rec (fun zz => none) (fun xs => some xs) (fun zz => none) (fun zz => none) (fun zz zz => none) (fun zz zz zz => none) (fun zz zz => none) (fun zz zz => none) (fun zz => none) (fun zz zz => none) (fun zz zz => none) none
noncomputable def AObj.iset? : AObj → Option (List Int) := AObj.rec (fun zz => none) (fun zz => none) (fun xs => some xs) (fun zz => none) (fun zz zz => none) (fun zz zz zz => none) (fun zz zz => none) (fun zz zz => none) (fun zz => none) (fun zz zz => none) (fun zz zz => none) none
noncomputable def AObj.attrs? : AObj → Option (List (String × AV)) := AObj.rec (fun zz => none) (fun zz => none) (fun zz => none) (fun xs => some xs) (fun zz zz => none) (fun zz zz zz => none) (fun zz zz => none) (fun zz zz => none) (fun zz => none) (fun zz zz => none) (fun zz zz => none) none
noncomputable def AObj.inst? : AObj → Option (String × Nat) := AObj.rec (fun zz => none) (fun zz => none) (fun zz => none) (fun zz => none) (fun c d => some (c, d)) (fun zz zz zz => none) (fun zz zz => none) (fun zz zz => none) (fun zz => none) (fun zz zz => none) (fun zz zz => none) none
noncomputable def AObj.sinst? : AObj → Option (String × Nat × List (Option AV)) := AObj.rec (fun zz => none) (fun zz => none) (fun zz => none) (fun zz => none) (fun zz zz => none) (fun c d fs => some (c, d, fs)) (fun zz zz => none) (fun zz zz => none) (fun zz => none) (fun zz zz => none) (fun zz zz => none) none
noncomputable def AObj.dview? : AObj → Option (String × Nat) := AObj.rec (fun zz => none) (fun zz => none) (fun zz => none) (fun zz => none) (fun zz zz => none) (fun zz zz zz => none) (fun zz zz => none) (fun zz zz => none) (fun zz => none) (fun T d => some (T, d)) (fun zz zz => none) none
noncomputable def AObj.liter? : AObj → Option (Nat × Nat) := AObj.rec (fun zz => none) (fun zz => none) (fun zz => none) (fun zz => none) (fun zz zz => none) (fun zz zz zz => none) (fun a b => some (a, b)) (fun zz zz => none) (fun zz => none) (fun zz zz => none) (fun zz zz => none) none
noncomputable def AObj.titer? : AObj → Option (List AV × Nat) := AObj.rec (fun zz => none) (fun zz => none) (fun zz => none) (fun zz => none) (fun zz zz => none) (fun zz zz zz => none) (fun zz zz => none) (fun a b => some (a, b)) (fun zz => none) (fun zz zz => none) (fun zz zz => none) none
noncomputable def AObj.rng? : AObj → Option (Nat) := AObj.rec (fun zz => none) (fun zz => none) (fun zz => none) (fun zz => none) (fun zz zz => none) (fun zz zz zz => none) (fun zz zz => none) (fun zz zz => none) (fun a => some a) (fun zz zz => none) (fun zz zz => none) none
noncomputable def AObj.bound? : AObj → Option (String × Nat) := AObj.rec (fun zz => none) (fun zz => none) (fun zz => none) (fun zz => none) (fun zz zz => none) (fun zz zz zz => none) (fun zz zz => none) (fun zz zz => none) (fun zz => none) (fun zz zz => none) (fun a b => some (a, b)) none
theorem AObj.of_liter? {o : AObj} {p : Nat × Nat} (h : o.liter? = some p) : o = .liter p.1 p.2 := by
 cases o with
 | liter => cases h; rfl
 | _ => cases h
theorem AObj.of_titer? {o : AObj} {p : List AV × Nat} (h : o.titer? = some p) : o = .titer p.1 p.2 := by
 cases o with
 | titer => cases h; rfl
 | _ => cases h
theorem AObj.of_rng? {o : AObj} {n : Nat} (h : o.rng? = some n) : o = .rng n := by
 cases o with
 | rng => cases h; rfl
 | _ => cases h
theorem AObj.of_bound? {o : AObj} {p : String × Nat} (h : o.bound? = some p) : o = .bound p.1 p.2 := by
 cases o with
 | bound => cases h; rfl
 | _ => cases h
noncomputable def AV.int? (v : AV) : _root_.Option (Int) := v.casesOn Option.none (fun zz => Option.none) (fun x => Option.some x) (fun zz => Option.none) (fun zz => Option.none) (fun zz => Option.none) (fun zz => Option.none) (fun zz => Option.none) (fun zz => Option.none) (fun zz => Option.none)
noncomputable def AV.ref? (v : AV) : _root_.Option (Nat) := v.casesOn Option.none (fun zz => Option.none) (fun zz => Option.none) (fun zz => Option.none) (fun zz => Option.none) (fun x => Option.some x) (fun zz => Option.none) (fun zz => Option.none) (fun zz => Option.none) (fun zz => Option.none)
noncomputable def AV.tup? (v : AV) : _root_.Option (List AV) := v.casesOn Option.none (fun zz => Option.none) (fun zz => Option.none) (fun zz => Option.none) (fun x => Option.some x) (fun zz => Option.none) (fun zz => Option.none) (fun zz => Option.none) (fun zz => Option.none) (fun zz => Option.none)
theorem AObj.of_list? {o : AObj} {xs : List AV} (h : o.list? = some xs) : o = .list xs := by
 cases o with
 | list => cases h; rfl
 | _ => cases h
theorem AObj.of_dict? {o : AObj} {xs : List (Int × AV)} (h : o.dict? = some xs) : o = .dict xs := by
 cases o with
 | dict => cases h; rfl
 | _ => cases h
theorem AObj.of_iset? {o : AObj} {xs : List Int} (h : o.iset? = some xs) : o = .iset xs := by
 cases o with
 | iset => cases h; rfl
 | _ => cases h
theorem AObj.of_attrs? {o : AObj} {xs : List (String × AV)} (h : o.attrs? = some xs) : o = .attrs xs := by
 cases o with
 | attrs => cases h; rfl
 | _ => cases h
theorem AObj.of_inst? {o : AObj} {p : String × Nat} (h : o.inst? = some p) : o = .inst p.1 p.2 := by
 cases o with
 | inst => cases h; rfl
 | _ => cases h
theorem AObj.of_sinst? {o : AObj} {p : String × Nat × List (Option AV)} (h : o.sinst? = some p) : o = .sinst p.1 p.2.1 p.2.2 := by
 cases o with
 | sinst => cases h; rfl
 | _ => cases h
theorem AObj.of_dview? {o : AObj} {p : String × Nat} (h : o.dview? = some p) : o = .dview p.1 p.2 := by
 cases o with
 | dview => cases h; rfl
 | _ => cases h
theorem AV.of_int? {x : AV} {y : Int} (h : x.int? = _root_.Option.some y) : x = .int y := by
 cases x with
 | int => cases h; rfl
 | _ => cases h
theorem AV.of_ref? {x : AV} {y : Nat} (h : x.ref? = _root_.Option.some y) : x = .ref y := by
 cases x with
 | ref => cases h; rfl
 | _ => cases h
theorem AV.of_tup? {x : AV} {y : List AV} (h : x.tup? = _root_.Option.some y) : x = .tup y := by
 cases x with
 | tup => cases h; rfl
 | _ => cases h
theorem at_list {hp : AH} {r : Nat} {c : AObj × Nat} {xs : List AV} (h : hp[r]? = some c) (e : c.1.list? = some xs) : hp[r]? = some (.list xs, c.2) := by rw [h, ← AObj.of_list? e]
theorem at_liter {hp : AH} {r : Nat} {c : AObj × Nat} {p : Nat × Nat} (h : hp[r]? = some c) (e : c.1.liter? = some p) : hp[r]? = some (.liter p.1 p.2, c.2) := by rw [h, ← AObj.of_liter? e]
theorem at_titer {hp : AH} {r : Nat} {c : AObj × Nat} {p : List AV × Nat} (h : hp[r]? = some c) (e : c.1.titer? = some p) : hp[r]? = some (.titer p.1 p.2, c.2) := by rw [h, ← AObj.of_titer? e]
noncomputable def mapO {α β : Type} (f : α → Option β) : List α → Option (List β) := List.rec (some []) fun x zz ih => bO (f x) fun d => bO ih fun ds => some (d :: ds)
theorem mapO_nil {α β : Type} (f : α → Option β) : mapO f [] = some [] := rfl
theorem mapO_cons {α β : Type} (f : α → Option β) (x : α) (xs : List α) : mapO f (x :: xs) = bO (f x) fun d => bO (mapO f xs) fun ds => some (d :: ds) := rfl
noncomputable def adata (hp : AH) : Nat → AV → Option PyData := Nat.rec (fun zz => none) fun zz ih x => AV.casesOn x (some .none) (fun b => some (.bool b)) (fun i => some (.int i)) (fun zz => none) (fun xs => (mapO ih xs).map .tuple) (fun r => bO hp[r]? fun c => bO c.1.list? fun xs => (mapO ih xs).map .list) (fun zz => none) (fun zz => none) (fun zz => none) (fun zz => none)
theorem adata_tup (hp : AH) (n : Nat) (xs : List AV) : adata hp (n + 1) (.tup xs) = (mapO (adata hp n) xs).map .tuple := rfl
theorem adata_at {hp : AH} {n r k : Nat} {xs : List AV} (e : hp[r]? = some (.list xs, k)) : adata hp (n + 1) (.ref r) = (mapO (adata hp n) xs).map .list := bO_of e
theorem adata_ref (hp : AH) (n r : Nat) : adata hp (n + 1) (.ref r) = bO hp[r]? fun c => bO c.1.list? fun xs => (mapO (adata hp n) xs).map .list := rfl
section
variable {G : Glob} {fr : List Env} {μ : List Addr} {hp : AH} {s : Shared}
theorem HInv.list (H : HInv G fr μ hp s) {r : Nat} {xs : List AV} {v : Nat} {a : Addr} (hr : hp[r]? = some (.list xs, v)) (ha : μ[r]? = some a) :
  ∃ vs n, s.heap.get? a = some ⟨.type "list", none, .seq (vs : List Value).toArray n, #[]⟩ ∧ VRs G μ s.heap xs vs := by
 obtain ⟨o, h1, h2⟩ := H.obj r _ a hr ha
 obtain ⟨vs, n, rfl, k⟩ := h2.of_list
 exact ⟨vs, n, h1, k⟩
structure RdsD (s : Shared) (w : Value) (d : PyData) (n : Nat) : Prop where
 reads : ∃ as, Reads s.heap w d as
 lay : d.canLay0 = true
 depth : d.depth ≤ n
theorem adata_reads (H : HInv G fr μ hp s) (n : Nat) : ∀ (x : AV) (d : PyData) (w : Value), adata hp n x = some d → VR G μ s.heap x w → RdsD s w d n := by
 induction n with
 | zero => intro _ _ _ e; cases e
 | succ n ih0 =>
  intro x d w e k
  have all : ∀ (xs : List AV) (ds : List PyData) (vs : List Value), mapO (adata hp n) xs = some ds → VRs G μ s.heap xs vs → (∃ as, ReadsAll s.heap vs ds as) ∧ PyData.canLayAll0 ds = true ∧ PyData.depthAll ds ≤ n := by
   intro xs
   induction xs with
   | nil => intro ds vs e k; cases e; cases k; exact ⟨⟨[], .nil⟩, rfl, Nat.zero_le _⟩
   | cons x xs ih =>
    intro ds vs e k
    cases k with
    | cons k1 k2 =>
     refine bO_some e fun d' e1 e => bO_some e fun ds' e2 e => ?_
     cases e
     obtain ⟨⟨as, r⟩, l, dd⟩ := ih0 x d' _ e1 k1
     obtain ⟨⟨bs, r2⟩, l2, dd2⟩ := ih _ _ e2 k2
     exact ⟨⟨_, .cons r r2⟩, by simp [PyData.canLayAll0, l, l2], by simp [PyData.depthAll]; omega⟩
  cases k with
  | none => cases e; exact ⟨⟨_, .none⟩, rfl, Nat.zero_le _⟩
  | bool b => cases e; exact ⟨⟨_, .bool _⟩, rfl, Nat.zero_le _⟩
  | int i t => cases e; exact ⟨⟨_, .int _ _⟩, rfl, Nat.zero_le _⟩
  | tup h1 h2 h3 hnm h4 =>
   rw [adata_tup, Option.map_eq_some_iff] at e
   obtain ⟨ds, e1, rfl⟩ := e
   obtain ⟨⟨as, r⟩, l, dd⟩ := all _ _ _ e1 h4
   exact ⟨⟨_, .tuple h1 h2 h3 (by simpa using r)⟩, by simpa [PyData.canLay0] using l, by simp [PyData.depth]; omega⟩
  | @ref r a h1 =>
   refine bO_some e fun c hr e => bO_some e fun xs hx e => ?_
   rw [Option.map_eq_some_iff] at e
   obtain ⟨ds, e1, rfl⟩ := e
   obtain ⟨vs, m, g1, g2⟩ := H.list (at_list hr hx) h1
   obtain ⟨⟨as, r⟩, l, dd⟩ := all _ _ _ e1 g2
   exact ⟨⟨_, .list g1 rfl rfl (by simpa using r)⟩, by simpa [PyData.canLay0] using l, by simp [PyData.depth]; omega⟩
  | _ => cases e
inductive BOp where
 | add | sub | mul | mod | fdiv | pow
noncomputable def BOp.op : BOp → Operator := BOp.rec .Add .Sub .Mult .Mod .FloorDiv .Pow
section
variable {α β : Type}
noncomputable def bA1 (l : List AV) (f : AV → Option β) : Option β := l.casesOn none fun a t => t.casesOn (f a) fun zz zz => none
noncomputable def bA2 (l : List AV) (f : AV → AV → Option β) : Option β := l.casesOn none fun a t => t.casesOn none fun b t => t.casesOn (f a b) fun zz zz => none
noncomputable def bA0 (l : List AV) (x : Option β) : Option β := l.casesOn x fun zz zz => none
theorem bA0_v (x : Option β) : bA0 [] x = x := rfl
theorem bA1_v (a : AV) (f : AV → Option β) : bA1 [a] f = f a := rfl
theorem bA2_v (a b : AV) (f : AV → AV → Option β) : bA2 [a, b] f = f a b := rfl
noncomputable def bC (hp : AH) (v : AV) (f : Nat → AObj → Nat → Option β) : Option β := bO v.ref? fun r => bO hp[r]? fun c => f r c.1 c.2
noncomputable def bL (hp : AH) (v : AV) (f : Nat → List AV → Nat → Option β) : Option β := bC hp v fun r o k => bO o.list? fun xs => f r xs k
noncomputable def bD (hp : AH) (v : AV) (f : Nat → List (Int × AV) → Nat → Option β) : Option β := bC hp v fun r o k => bO o.dict? fun xs => f r xs k
noncomputable def bS (hp : AH) (v : AV) (f : Nat → List Int → Nat → Option β) : Option β := bC hp v fun r o k => bO o.iset? fun xs => f r xs k
noncomputable def bI (v : AV) (f : Int → Option β) : Option β := bO v.int? f
noncomputable def bG (c : Prop) [Decidable c] (x : Option β) : Option β := if c then x else none
theorem bG_t {c : Prop} [Decidable c] (h : c) (x : Option β) : bG c x = x := if_pos h
theorem bG_some {c : Prop} [Decidable c] {x : Option β} {b : β} (h : bG c x = some b) {P : Prop} (k : c → x = some b → P) : P := by
 unfold bG at h
 by_cases hc : c
 ·rw [if_pos hc] at h; exact k hc h
 ·rw [if_neg hc] at h; cases h
noncomputable def bE (x y : Option β) : Option β := match x with
 | some a => some a
 | none => y
theorem bE_v (a : β) (y : Option β) : bE (some a) y = some a := rfl
theorem bE_n (y : Option β) : bE none y = y := rfl
theorem bE_of {x y : Option β} {b : β} (h : x = some b) : bE x y = some b := by rw [h]; rfl
theorem bE_no {x y : Option β} (h : x = none) : bE x y = y := by rw [h]; rfl
theorem bE_some {x y : Option β} {b : β} (h : bE x y = some b) {P : Prop} (k₁ : x = some b → P) (k₂ : y = some b → P) : P := by
 cases x with
 | none => exact k₂ h
 | some a => exact k₁ h
theorem vrI {hh : Heap} {v : AV} {w : Value} {f : Int → Option β} {b : β} (r : VR G μ hh v w) (hm : bI v f = some b) {P : Value → Prop} (k : ∀ i t, f i = some b → P (.int i t)) : P w := by
 refine bO_some hm fun i e hm' => ?_
 rw [AV.of_int? e] at r
 obtain ⟨t, rfl⟩ := r.of_int
 exact k i t hm'
theorem vrC {v : AV} {w : Value} {f : Nat → AObj → Nat → Option β} {b : β} (H : HInv G fr μ hp s) (r : VR G μ s.heap v w) (hm : bC hp v f = some b) {P : Value → Prop}
  (k : ∀ r x ver a o, hp[r]? = some (x, ver) → μ[r]? = some a → s.heap.get? a = some o → OR G μ s.heap x o → f r x ver = some b → P (.ref a)) : P w := by
 refine bO_some hm fun q e hm' => bO_some hm' fun c e2 hm'' => ?_
 rw [AV.of_ref? e] at r
 obtain ⟨a, rfl, ha⟩ := r.of_ref
 obtain ⟨o, g, kk⟩ := H.obj q c a e2 ha
 exact k q c.1 c.2 a o e2 ha g kk hm''
theorem vr0 {hh : Heap} {args : List AV} {vs : List Value} {x : Option β} {b : β} (rs : VRs G μ hh args vs) (hm : bA0 args x = some b) {P : List Value → Prop} (k : x = some b → P []) : P vs := by
 cases rs with
 | nil => exact k hm
 | cons => cases hm
theorem vr1 {hh : Heap} {args : List AV} {vs : List Value} {f : AV → Option β} {b : β} (rs : VRs G μ hh args vs) (hm : bA1 args f = some b) {P : List Value → Prop} (k : ∀ x w, VR G μ hh x w → f x = some b → P [w]) : P vs := by
 cases rs with
 | nil => cases hm
 | cons r rs => cases rs with
  | nil => exact k _ _ r hm
  | cons => cases hm
theorem vr2 {hh : Heap} {args : List AV} {vs : List Value} {f : AV → AV → Option β} {b : β} (rs : VRs G μ hh args vs) (hm : bA2 args f = some b) {P : List Value → Prop} (k : ∀ x y w u, VR G μ hh x w → VR G μ hh y u → f x y = some b → P [w, u]) : P vs := by
 cases rs with
 | nil => cases hm
 | cons r rs => cases rs with
  | nil => cases hm
  | cons r' rs => cases rs with
   | nil => exact k _ _ _ _ r r' hm
   | cons => cases hm
theorem vrL {v : AV} {w : Value} {f : Nat → List AV → Nat → Option β} {b : β} (H : HInv G fr μ hp s) (r : VR G μ s.heap v w) (hm : bL hp v f = some b) {P : Value → Prop}
  (k : ∀ r xs ver a ws n, hp[r]? = some (.list xs, ver) → μ[r]? = some a → s.heap.get? a = some ⟨.type "list", none, .seq (ws : List Value).toArray n, #[]⟩ → VRs G μ s.heap xs ws → f r xs ver = some b → P (.ref a)) : P w := by
 refine vrC H r hm fun q x ver a o e ha g kk hm' => bO_some hm' fun xs e2 hm'' => ?_
 rw [AObj.of_list? e2] at e kk
 obtain ⟨ws, n, rfl, k'⟩ := kk.of_list
 exact k q xs ver a ws n e ha g k' hm''
theorem vrS {v : AV} {w : Value} {f : Nat → List Int → Nat → Option β} {b : β} (H : HInv G fr μ hp s) (r : VR G μ s.heap v w) (hm : bS hp v f = some b) {P : Value → Prop}
  (k : ∀ r xs ver a o, hp[r]? = some (.iset xs, ver) → μ[r]? = some a → s.heap.get? a = some o → OR G μ s.heap (.iset xs) o → f r xs ver = some b → P (.ref a)) : P w := by
 refine vrC H r hm fun q x ver a o e ha g kk hm' => bO_some hm' fun xs e2 hm'' => ?_
 rw [AObj.of_iset? e2] at e kk
 exact k q xs ver a o e ha g kk hm''
theorem vrD {v : AV} {w : Value} {f : Nat → List (Int × AV) → Nat → Option β} {b : β} (H : HInv G fr μ hp s) (r : VR G μ s.heap v w) (hm : bD hp v f = some b) {P : Value → Prop}
  (k : ∀ r xs ver a kvs, hp[r]? = some (.dict xs, ver) → μ[r]? = some a → s.heap.DictOf (intKind G.prog G.w) a kvs → KVs G μ s.heap xs kvs → f r xs ver = some b → P (.ref a)) : P w := by
 refine vrC H r hm fun q x ver a o e ha g kk hm' => bO_some hm' fun xs e2 hm'' => ?_
 rw [AObj.of_dict? e2] at e kk
 obtain ⟨kvs, h1, h2⟩ := kk.of_dict
 exact k q xs ver a kvs e ha (Heap.dictOf_iff.mpr ⟨o, g, h1⟩) h2 hm''
end
noncomputable def aBinI (o : BOp) (a b : Int) (hp : AH) : Option (AV × AH) := BOp.rec (motive := fun zz => Option (AV × AH)) (some (.int (a + b), hp)) (some (.int (a - b), hp)) (bG (b.natAbs < 2 ^ 62) (some (.int (a * b), hp))) (bG (b ≠ 0) (some (.int (a.fmod b), hp))) (bG (b ≠ 0 ∧ b.natAbs < 1073741824) (some (.int (a.fdiv b), hp))) (bG (0 ≤ b ∧ b ≤ 1000000 ∧ a.natAbs < 2 ^ 62) (some (.int (a ^ b.toNat), hp))) o
noncomputable def aBin (o : BOp) (x y : AV) : AHM AV := fun hp => bE (bI x fun a => bI y fun b => aBinI o a b hp) (BOp.rec (motive := fun zz => Option (AV × AH)) (bL hp x fun zz xs zz => bL hp y fun zz ys zz => bG (xs.length + ys.length ≤ 1000000) (aNew (.list (xs ++ ys)) hp)) none none none none none o)
theorem op_bin {o : BOp} {x y : AV} {hd : Bool} {d : Nat} : HSim G hd d (aBin o x y) (fun μ h tr => ∃ a b, VR G μ h x a ∧ VR G μ h y b ∧ tr = binaryOp o.op a b) (VR G) := by
 rintro A fr μ hp s z hp' tr hA H zI10 hm Q E h
 obtain ⟨a, b, ra, rb, rfl⟩ := zI10
 have int1 : ∀ {i : Int}, hp' = hp → z = .int i → Q (.int i s.toks) { s with toks := s.toks + 1 } := fun e1 e2 => by
  subst e1 e2; exact h _ _ μ (Ext.tok _) (H.tok _) (.int _ _)
 refine bE_some hm (fun hm => ?_) fun hm => ?_
 ·apply vrI ra hm; intro i t hm
  apply vrI rb hm; intro j u hm
  cases o with
  | add => cases hm; exact P.add_int (int1 rfl rfl)
  | sub => cases hm; exact P.sub_int (int1 rfl rfl)
  | mul =>
   refine bG_some hm fun hb hm => ?_
   cases hm
   refine P.mul_int (int1 rfl rfl) (IntMulOk.of_right ?_)
   exact intBits_le (by omega)
  | mod => refine bG_some hm fun hb hm => ?_; cases hm; exact mod_int hb (int1 rfl rfl)
  | fdiv => refine bG_some hm fun hb hm => ?_; cases hm; exact floordiv_int hb.1 (int1 rfl rfl) (.inl (PyProof.noPylong_small hb.2))
  | pow => refine bG_some hm fun hb hm => ?_; cases hm; exact pow_int_small hb.1 hb.2.1 (by omega) (int1 rfl rfl)
 ·cases o with
  | add =>
   apply vrL H ra hm; intro r xs v l vs n e1 ha g1 k1 hm
   apply vrL H rb hm; intro q ys v' l' ws m e2 hb g2 k2 hm
   refine bG_some hm fun hlen hm => ?_
   cases hm
   refine P.add_list g1 g2 ?_ (by rw [List.size_toArray, List.size_toArray, ← k1.length, ← k2.length, sizeLine_eq]; omega)
   have hn := H.alloc (h' := s.heap.push { cls := .type "list", data := .seq (vs.toArray ++ ws.toArray) }) (tk := s.toks) (x := .list (xs ++ ys)) (fun b o e => Heap.get?_push_of_some _ e) (Heap.get?_none_of_le (Nat.le_refl _))
    (Heap.get?_push_size _ rfl) (by simpa using OR.list (n := 0) (k1.append k2))
   exact h _ _ _ hn.2 hn.1 (.ref (by rw [← H.len, List.getElem?_append_right (Nat.le_refl _), Nat.sub_self]; rfl))
  | _ => cases hm
end
section
variable {G : Glob} {sc : SC} {hd : Bool} {d : Nat}
inductive COp where
 | eq | ne | lt | le | gt | ge | mem | nmem | is | nis
noncomputable def COp.op : COp → CmpOp := COp.rec .Eq .NotEq .Lt .LtE .Gt .GtE .In .NotIn .Is .IsNot
noncomputable def AV.isNone (v : AV) : Bool := v.casesOn true (fun zz => false) (fun zz => false) (fun zz => false) (fun zz => false) (fun zz => false) (fun zz => false) (fun zz => false) (fun zz => false) (fun zz => false)
noncomputable def aEq (x y : AV) (hp : AH) : Option Bool := bO (adata hp 8 x) fun a => bO (adata hp 8 y) fun b => some (PyData.eqv a b)
noncomputable def aMemL (x : AV) (xs : List AV) (hp : AH) : Option Bool := bO (adata hp 8 x) fun a => bO (mapO (adata hp 8) xs) fun bs => some (bs.any fun b => PyData.eqv b a)
noncomputable def aMem (x y : AV) (hp : AH) : Option Bool :=
 bE (bL hp y fun zz xs zz => aMemL x xs hp) (bE (bD hp y fun zz es zz => bI x fun k => some (es.any fun e => e.1 == k)) (bE (bS hp y fun zz ks zz => bI x fun k => some (ks.contains k)) (bO y.tup? fun xs => aMemL x xs hp)))
noncomputable def AV.ty? (v : AV) : _root_.Option (String) := v.casesOn Option.none (fun zz => Option.none) (fun zz => Option.none) (fun zz => Option.none) (fun zz => Option.none) (fun zz => Option.none) (fun zz => Option.none) (fun zz => Option.none) (fun x => Option.some x) (fun zz => Option.none)
theorem AV.of_ty? {x : AV} {y : String} (h : x.ty? = _root_.Option.some y) : x = .ty y := by
 cases x with
 | ty => cases h; rfl
 | _ => cases h
noncomputable def aOrd (f : Int → Int → Bool) (x y : AV) : Option Bool := bI x fun a => bI y fun b => some (f a b)
noncomputable def aIs (x y : AV) : Option Bool := if y.isNone = true then some x.isNone else bO x.ref? fun zz => bO y.ty? fun zz => some false
noncomputable def aCmp (o : COp) (x y : AV) (hp : AH) : Option Bool := COp.rec (motive := fun zz => Option Bool) (aEq x y hp) ((aEq x y hp).map (!·)) (aOrd (fun a b => decide (a < b)) x y) (aOrd (fun a b => decide (a ≤ b)) x y) (aOrd (fun a b => decide (a > b)) x y) (aOrd (fun a b => decide (a ≥ b)) x y) (aMem x y hp) ((aMem x y hp).map (!·)) (aIs x y) (if y.isNone = true then some (!x.isNone) else none) o
theorem VR.isNone {μ : List Addr} {h : Heap} {x : AV} {a : Value} (r : VR G μ h x a) : (a == Value.none) = x.isNone := by
 cases r <;> rfl
section
variable {fr : List Env} {μ : List Addr} {hp : AH} {s : Shared} {A : Around} {Q : Value → Shared → Prop} {E : Value → Shared → Prop}
theorem KVs.any {h : Heap} : ∀ {xs : List (Int × AV)} {kvs : List (Int × Value)}, KVs G μ h xs kvs → ∀ k : Int, (valueAt kvs k).isSome = xs.any fun e => e.1 == k
 | _, _, .nil, k => rfl
 | _, _, .cons (k := j) (x := x) (v := v) (xs := xs) (es := es) h1 h2, k => by
  have ih := KVs.any h2 k
  unfold valueAt at ih ⊢
  by_cases hk : j = k
  ·subst hk; simp
  ·have : (j == k) = false := by simp [hk]
   simp only [List.find?_cons, hk, decide_false, List.any_cons, this, Bool.false_or]
   exact ih
theorem eq_is (hu : A.units + 8 < cLine) (H : HInv G fr μ hp s) {x y : AV} {a b : Value} (ra : VR G μ s.heap x a) (rb : VR G μ s.heap y b) {v : Bool} (hm : aEq x y hp = some v) :
  (Q (.bool v) s → wpAny G.M A (compareOp .Eq a b) Q E s) ∧ (Q (.bool !v) s → wpAny G.M A (compareOp .NotEq a b) Q E s) := by
 refine bO_some hm fun da e1 hm => bO_some hm fun db e2 hm => ?_
 refine Mine.hold fun gL bk => ?_
 cases hm
 obtain ⟨⟨as, r1⟩, l1, d1⟩ := adata_reads H 8 _ _ _ e1 ra
 obtain ⟨⟨bs, r2⟩, l2, d2⟩ := adata_reads H 8 _ _ _ e2 rb
 refine bk ?_; clear bk gL
 have hu' : A.units + min da.depth db.depth < cLine := by have := Nat.min_le_left da.depth db.depth; omega
 exact ⟨fun h => SeqAt.compareEq_reads r1 r2 l1 l2 hu' h, fun h => SeqAt.compareNe_reads r1 r2 l1 l2 hu' h⟩
theorem mapO_reads (H : HInv G fr μ hp s) : ∀ {xs : List AV} {ds : List PyData} {vs : List Value}, mapO (adata hp 8) xs = some ds → VRs G μ s.heap xs vs → (∃ as, ReadsAll s.heap vs ds as) ∧ PyData.canLayAll0 ds = true ∧ PyData.depthAll ds ≤ 8 := by
 intro xs
 induction xs with
 | nil => intro ds vs e k; cases e; cases k; exact ⟨⟨[], .nil⟩, rfl, Nat.zero_le _⟩
 | cons x xs ih =>
  intro ds vs e k
  cases k with
  | cons k1 k2 =>
   refine bO_some e fun d' e1 e => bO_some e fun ds' e2 e => ?_
   refine Mine.hold fun gL bk => ?_
   cases e
   obtain ⟨⟨as, r⟩, l, dd⟩ := adata_reads H 8 x d' _ e1 k1
   obtain ⟨⟨bs, r2⟩, l2, dd2⟩ := ih e2 k2
   refine bk ?_; clear bk gL
   exact ⟨⟨_, .cons r r2⟩, by simp [PyData.canLayAll0, l, l2], by simp [PyData.depthAll]; omega⟩
theorem aMem_ref {hp : AH} {x : AV} {l k : Nat} {xs : List AV} {b : Bool} (hl : hp[l]? = some (.list xs, k)) (h : aMem x (.ref l) hp = some b) : aMemL x xs hp = some b := by
 have at_ : ∀ {β : Type} {o : AObj → Option β} {f : Nat → β → Nat → Option Bool}, (bC hp (.ref l) fun r o' k => bO (o o') fun es => f r es k) = some b → ∃ es, o (.list xs) = some es ∧ f l es k = some b := fun {β o f} h => by
  refine bO_some h fun r e h => bO_some h fun c hc h => bO_some h fun es e2 h => ?_
  cases e
  rw [hl] at hc
  cases hc
  exact ⟨es, e2, h⟩
 refine bE_some h (fun h => ?_) fun h => bE_some h (fun h => ?_) fun h => bE_some h (fun h => ?_) fun h => by cases h
 ·obtain ⟨es, e, h⟩ := at_ (o := AObj.list?) (f := fun zz xs zz => aMemL x xs hp) h
  cases e
  exact h
 ·obtain ⟨es, e, h⟩ := at_ (o := AObj.dict?) (f := fun zz es zz => bI x fun k => some (es.any fun e => e.1 == k)) h
  cases e
 ·obtain ⟨es, e, h⟩ := at_ (o := AObj.iset?) (f := fun zz ks zz => bI x fun k => some (ks.contains k)) h
  cases e
theorem HInv.notMods (H : HInv G fr μ hp s) (hs : (G.h₀.get? sysModules).isSome = true) {a : Addr} (ha : a ∈ μ) : (a == sysModules) = false := by
 cases e : a == sysModules with
 | false => rfl
 | true =>
  have := H.low a ha
  rw [beq_iff_eq.mp e] at this
  rw [this] at hs; cases hs
theorem scan_int (k : Int) (t : Tok) : (Value.int k t).scannable = true := rfl
theorem mem_both (hs : (G.h₀.get? sysModules).isSome = true) (hu : A.units + 20 < cLine) (H : HInv G fr μ hp s) {x y : AV} {a b : Value} (ra : VR G μ s.heap x a) (rb : VR G μ s.heap y b) {v : Bool} (hm : aMem x y hp = some v) :
  ((∀ tk, Q (.bool v) { s with toks := tk }) → wpAny G.M A (compareOp .In a b) Q E s) ∧ ((∀ tk, Q (.bool !v) { s with toks := tk }) → wpAny G.M A (compareOp .NotIn a b) Q E s) := by
 have seq : ∀ {xs : List AV} {vs : List Value}, VRs G μ s.heap xs vs → aMemL x xs hp = some v → ∃ da ds as bs, Reads s.heap a da as ∧ da.canLay0 = true ∧ ReadsAll s.heap vs ds bs ∧ PyData.canLayAll0 ds = true ∧ A.units + 1 + min (PyData.depthAll ds) da.depth < cLine ∧ (ds.any fun b => PyData.eqv b da) = v := fun k1 hm => by
  refine bO_some hm fun da e1 hm => bO_some hm fun ds e2 hm => ?_
  cases hm
  obtain ⟨⟨as, r1⟩, l1, d1⟩ := adata_reads H 8 _ _ _ e1 ra
  obtain ⟨⟨bs, r2⟩, l2, d2⟩ := mapO_reads H e2 k1
  have q := Nat.min_le_left (PyData.depthAll ds) da.depth
  exact ⟨da, ds, as, bs, r1, l1, r2, l2, by omega, rfl⟩
 refine bE_some hm (fun hm => ?_) fun hm => bE_some hm (fun hm => ?_) fun hm => bE_some hm (fun hm => ?_) fun hm => ?_
 ·apply vrL H rb hm; intro r xs ver l vs n e hl g1 k1 hm
  refine Mine.hold fun gL bk => ?_
  obtain ⟨da, ds, as, bs, r1, l1, r2, l2, hu, rfl⟩ := seq k1 hm
  refine bk ?_; clear bk gL
  exact ⟨fun h1 => SeqAt.in_list_reads (.list g1 rfl rfl (by simpa using r2)) r1 l2 l1 hu (h1 s.toks), fun h1 => SeqAt.notIn_list_reads (.list g1 rfl rfl (by simpa using r2)) r1 l2 l1 hu (h1 s.toks)⟩
 ·apply vrD H rb hm; intro r es ver l kvs e hl hd g3 hm
  apply vrI ra hm; intro k t hm
  cases hm
  have ki : (intKind G.prog G.w).is k (.int k t) = true := by simp [intKind, Value.isInt]
  rw [← g3.any]
  exact ⟨fun h1 => wpAny_in_of (knd := intKind G.prog G.w) (k := k) ki (H.notMods hs (List.mem_of_getElem? hl)) hd.mapOf (h1 _), fun h1 => wpAny_notIn_of (knd := intKind G.prog G.w) (k := k) ki (H.notMods hs (List.mem_of_getElem? hl)) hd.mapOf (h1 _)⟩
 ·apply vrS H rb hm; intro r ks ver l o e hl g1 g2 hm
  apply vrI ra hm; intro k t hm
  cases hm
  refine Mine.hold fun gL bk => ?_
  obtain ⟨_, _, _, a1, a2, a3, a4, a5, a6, a7⟩ := g2.of_iset
  refine bk ?_; clear bk gL
  have ki : (intKind G.prog G.w).is k (.int k t) = true := by simp [intKind, Value.isInt]
  exact ⟨fun h1 => wpAny_inSet_of (knd := intKind G.prog G.w) (k := k) (S := fun k => ks.contains k) ki (scan_int _ _) ⟨o, _, _, _, g1, a1, a2, a3, a4, a5, a6, rfl⟩ (h1 _), fun h1 => wpAny_notInSet_of (knd := intKind G.prog G.w) (k := k) (S := fun k => ks.contains k) ki (scan_int _ _) ⟨o, _, _, _, g1, a1, a2, a3, a4, a5, a6, rfl⟩ (h1 _)⟩
 ·refine bO_some hm fun xs e hm => ?_
  rw [AV.of_tup? e] at rb
  refine Mine.hold fun gL bk => ?_
  cases rb with
  | tup g1 g2 g4 gm g5 =>
  obtain ⟨da, ds, as, bs, r1, l1, r2, l2, hu, rfl⟩ := seq g5 hm
  refine bk ?_; clear bk gL
  exact ⟨fun h1 => SeqAt.in_tuple_reads (.tuple g1 g2 g4 (by simpa using r2)) r1 l2 l1 hu (h1 s.toks), fun h1 => SeqAt.notIn_tuple_reads (.tuple g1 g2 g4 (by simpa using r2)) r1 l2 l1 hu (h1 s.toks)⟩
theorem isNone_of {x : AV} (h : x.isNone = true) : x = .none := by
 cases x with
 | none => rfl
 | _ => cases h
theorem ord_is {x y : AV} {a b : Value} (ra : VR G μ s.heap x a) (rb : VR G μ s.heap y b) {v : Bool} {f : Int → Int → Bool} {t : Sem Value} (hm : aOrd f x y = some v) (k : ∀ i j t' u', f i j = v → a = .int i t' → b = .int j u' → wpAny G.M A t Q E s) : wpAny G.M A t Q E s := by
 refine bO_some hm fun i e1 hm => bO_some hm fun j e2 hm => ?_
 rw [AV.of_int? e1] at ra
 rw [AV.of_int? e2] at rb
 refine Mine.hold fun gL bk => ?_
 obtain ⟨t, rfl⟩ := ra.of_int
 obtain ⟨u, rfl⟩ := rb.of_int
 cases hm
 refine bk ?_; clear bk gL
 exact k _ _ _ _ rfl rfl rfl
theorem cmp_is (hs : (G.h₀.get? sysModules).isSome = true) (hu : A.units + 20 < cLine) (H : HInv G fr μ hp s) {o : COp} {x y : AV} {a b : Value} (ra : VR G μ s.heap x a) (rb : VR G μ s.heap y b) {v : Bool} (hm : aCmp o x y hp = some v)
  (h1 : ∀ tk, Q (.bool v) { s with toks := tk }) : wpAny G.M A (compareOp o.op a b) Q E s := by
 cases o with
 | eq => exact (eq_is (by omega) H ra rb hm).1 (h1 s.toks)
 | ne =>
  replace hm := Option.map_eq_some_iff.mp hm
  refine Mine.hold fun gL bk => ?_
  obtain ⟨v', e, rfl⟩ := hm
  refine bk ?_; clear bk gL
  exact (eq_is (by omega) H ra rb e).2 (h1 s.toks)
 | mem => exact (mem_both hs hu H ra rb hm).1 h1
 | nmem =>
  replace hm := Option.map_eq_some_iff.mp hm
  refine Mine.hold fun gL bk => ?_
  obtain ⟨v', e, rfl⟩ := hm
  refine bk ?_; clear bk gL
  exact (mem_both hs hu H ra rb e).2 h1
 | lt => exact ord_is ra rb hm fun i j t u e ea eb => by subst ea eb; subst e; exact P.lt_int (h1 s.toks)
 | le => exact ord_is ra rb hm fun i j t u e ea eb => by subst ea eb; subst e; exact P.le_int (h1 s.toks)
 | gt => exact ord_is ra rb hm fun i j t u e ea eb => by subst ea eb; subst e; exact P.gt_int (h1 s.toks)
 | ge => exact ord_is ra rb hm fun i j t u e ea eb => by subst ea eb; subst e; exact P.ge_int (h1 s.toks)
 | is =>
  by_cases hn : y.isNone = true
  ·replace hm := (if_pos hn).symm.trans hm
   rw [isNone_of hn] at rb
   cases hm
   cases rb
   exact is_none (by rw [ra.isNone]; exact h1 s.toks)
  ·replace hm := (if_neg hn).symm.trans hm
   refine bO_some hm fun r e1 hm => bO_some hm fun T e2 hm => ?_
   rw [AV.of_ref? e1] at ra
   rw [AV.of_ty? e2] at rb
   cases hm
   cases rb
   obtain ⟨a, rfl, _⟩ := ra.of_ref
   exact wpAny_is_plain rfl (h1 s.toks)
 | nis =>
  by_cases hn : y.isNone = true
  ·replace hm := (if_pos hn).symm.trans hm
   rw [isNone_of hn] at rb
   cases hm
   cases rb
   exact isNot_none (by rw [ra.isNone]; exact h1 s.toks)
  ·cases (if_neg hn).symm.trans hm
end
end
section
variable {G : Glob} {sc : SC} {hd : Bool} {d : Nat}
noncomputable def bBin (o : BOp) (m₁ m₂ : AM AV) : AM AV := do
 let x ← m₁
 let y ← m₂
 lift (aBin o x y)
theorem sim_bin {o : BOp} {m₁ m₂ : AM AV} {e₁ e₂ : Expr} {pos : Pos} {op : Operator} (S₁ : SimE G sc hd d m₁ e₁) (S₂ : SimE G sc hd d m₂ e₂) (ho : autoParam (op = o.op) aR) : SimE G sc hd d (bBin o m₁ m₂) (.BinOp e₁ op e₂ pos) := by
 subst ho
 intro A fr env own μ st s z st' hA I hm Q E h
 refine wpAny_BinOp (sim_bind2 S₁ hA I hm fun x st₁ a s₁ μ₁ hm₁ x₁ I₁ r₁ => sim_bind2 S₂ hA I₁ hm₁ fun y st₂ b s₂ μ₂ hm₂ x₂ I₂ r₂ => ?_)
 exact op_bin.use hA I₂ ⟨a, b, I₁.vr x₂ r₁, r₂, rfl⟩ hm₂ fun w s₃ μ₃ x₃ I₃ r₃ => h _ _ _ (I.trans x₁ (I₁.trans x₂ x₃)) I₃ r₃
noncomputable def seeR {α : Type} (f : AH → Option α) (st : AS) : Option (α × AS) := match f st.hp with
 | some a => some (a, st)
 | none => none
theorem seeR_some {α : Type} {f : AH → Option α} {st : AS} {a : α} (h : f st.hp = some a) : seeR f st = some (a, st) := by unfold seeR; rw [h]
noncomputable def see {α : Type} (f : AH → Option α) : AM α := ⟨seeR f, fun Q st => onVal Q st (f st.hp), fun h => by
 refine Mine.hold fun gL bk => ?_
 obtain ⟨a, e, k⟩ := onVal_ok h
 refine bk ?_; clear bk gL
 exact ⟨a, _, seeR_some e, k⟩, fun h k => onVal_mono k h⟩
theorem see_some {α : Type} {f : AH → Option α} {st st' : AS} {a : α} (h : see f st = some (a, st')) : st' = st ∧ f st.hp = some a := by
 change seeR f st = _ at h
 unfold seeR at h
 split at h
 ·rename_i v hv; cases h; exact ⟨rfl, hv⟩
 ·cases h
noncomputable def bCmp (o : COp) (m₁ m₂ : AM AV) : AM Bool := do
 let x ← m₁
 let y ← m₂
 see (aCmp o x y)
noncomputable def bVal (m : AM Bool) : AM AV := do
 let b ← m
 pure (.bool b)
structure GX (G : Glob) : Prop extends GOk G where
 mods : (G.h₀.get? sysModules).isSome = true
theorem sim_cmp {o : COp} {m₁ m₂ : AM AV} {e₁ e₂ : Expr} {pos : Pos} {op : CmpOp} (gx : GX G) (S₁ : SimE G sc hd d m₁ e₁) (S₂ : SimE G sc hd d m₂ e₂) (hm' : autoParam (behindInMarks o.op e₂ = false) aW) (ho : autoParam (op = o.op) aR) :
  SimE G sc hd d (bVal (bCmp o m₁ m₂)) (.Compare e₁ [op] [e₂] pos) := by
 subst ho
 intro A fr env own μ st s z st' hA I hm Q E h
 refine Mine.hold fun gL bk => ?_
 obtain ⟨bb, st₀, hm₀, hz⟩ := am_bind_some hm
 cases hz
 refine bk ?_; clear bk gL
 refine wpAny_Compare1 (sim_bind2 S₁ hA I hm₀ fun x st₁ a s₁ μ₁ hm₁ x₁ I₁ r₁ => sim_bind2 S₂ hA I₁ hm₁ fun y st₂ b s₂ μ₂ hm₂ x₂ I₂ r₂ => ?_) hm'
 obtain ⟨rfl, hv⟩ := see_some hm₂
 exact cmp_is gx.mods (by have := hA.units; omega) I₂.h (I₁.vr x₂ r₁) r₂ hv fun tk => h _ _ _ (I.trans x₁ (I₁.trans x₂ (Ext.tok tk))) (I₂.tok tk) (.bool _)
theorem simt_cmp {o : COp} {m₁ m₂ : AM AV} {e₁ e₂ : Expr} {pos : Pos} {op : CmpOp} (gx : GX G) (S₁ : SimE G sc hd d m₁ e₁) (S₂ : SimE G sc hd d m₂ e₂) (hm' : autoParam (behindInMarks o.op e₂ = false) aW) (ho : autoParam (op = o.op) aR) :
  SimT G sc hd d (bCmp o m₁ m₂) (.Compare e₁ [op] [e₂] pos) := by
 subst ho
 intro A fr env own μ st s z st' hA I hm Q E h
 refine wpAny_isTrue_Compare1 (sim_bind2 S₁ hA I hm fun x st₁ a s₁ μ₁ hm₁ x₁ I₁ r₁ => sim_bind2 S₂ hA I₁ hm₁ fun y st₂ b s₂ μ₂ hm₂ x₂ I₂ r₂ => ?_) hm'
 obtain ⟨rfl, hv⟩ := see_some hm₂
 exact cmp_is gx.mods (by have := hA.units; omega) I₂.h (I₁.vr x₂ r₁) r₂ hv fun tk => wpAny_truthy_bool (h _ _ _ (I.trans x₁ (I₁.trans x₂ (Ext.tok tk))) (I₂.tok tk) rfl)
noncomputable def aTruth (v : AV) (hp : AH) : Option Bool := v.casesOn (some false) (fun b => some b) (fun zz => none) (fun zz => none) (fun zz => none) (fun r => bL hp (.ref r) fun zz xs zz => bG (xs.length ≤ 1000000) (some (!xs.isEmpty))) (fun zz => none) (fun zz => none) (fun zz => none) fun zz => none
theorem aTruth_bool (b : Bool) (hp : AH) : aTruth (.bool b) hp = some b := rfl
theorem aTruth_ref (r : Nat) (hp : AH) : aTruth (.ref r) hp = bL hp (.ref r) fun zz xs zz => bG (xs.length ≤ 1000000) (some (!xs.isEmpty)) := rfl
theorem truth_is {fr : List Env} {μ : List Addr} {hp : AH} {s : Shared} {A : Around} {Q : Bool → Shared → Prop} {E : Value → Shared → Prop} (H : HInv G fr μ hp s) {x : AV} {a : Value} (r : VR G μ s.heap x a) {b : Bool} (hm : aTruth x hp = some b)
  (h : ∀ tk, Q b { s with toks := tk }) : wpAny G.M A (truthy a) Q E s := by
 cases r with
 | none => cases hm; exact fun zz zz zz => h s.toks
 | bool b' => cases hm; exact wpAny_truthy_bool (h s.toks)
 | @ref n l hl =>
  refine vrL (P := fun w => wpAny G.M A (truthy w) Q E s) H (.ref hl) hm fun r xs v a vs m e hl g1 k1 hm => bG_some hm fun hlen hm => ?_
  cases hm
  have hl' := k1.length
  refine wpAny_truthy_list ⟨_, g1, rfl, _, rfl⟩ (by rw [List.size_toArray]; omega) ?_
  have : (vs.toArray.isEmpty) = xs.isEmpty := by
   cases vs with
   | nil => cases k1; rfl
   | cons => cases k1; rfl
  rw [this]; exact h _
 | _ => cases hm
noncomputable def bTruth (m : AM AV) : AM Bool := do
 let v ← m
 see (aTruth v)
theorem simt_val {m : AM AV} {e : Expr} (S : SimE G sc hd d m e) (he : autoParam (∀ env whole, isTrue e env whole = (do let v ← whole; standAt e.pos; holding [v] (truthy v))) aR) : SimT G sc hd d (bTruth m) e := by
 intro A fr env own μ st s z st' hA I hm Q E h
 refine wpAny_isTrue_value (sim_bind2 S hA I hm fun x st₁ a s₁ μ₁ hm₁ x₁ I₁ r₁ => ?_) (he env _)
 obtain ⟨rfl, hv⟩ := see_some hm₁
 exact truth_is I₁.h r₁ hv fun tk => h _ _ _ (I.trans x₁ (Ext.tok tk)) (I₁.tok tk) rfl
noncomputable def bNot (m : AM Bool) : AM Bool := do
 let b ← m
 pure (!b)
theorem simt_not {m : AM Bool} {e : Expr} {pos : Pos} (S : SimT G sc hd d m e) : SimT G sc hd d (bNot m) (.UnaryOp .Not e pos) := by
 intro A fr env own μ st s z st' hA I hm Q E h
 refine wpAny_isTrue_Not (sim_bind2 S hA I hm fun x st₁ a s₁ μ₁ hm₁ x₁ I₁ r₁ => ?_)
 cases hm₁; subst r₁
 exact h _ _ _ x₁ I₁ rfl
abbrev SimA (G : Glob) (sc : SC) (hd : Bool) (d : Nat) (op : BoolOp) (m : AM Bool) (es : List Expr) : Prop := Sim G sc hd d m (fun env => allTrue op es env) (fun zz zz a b => a = b)
noncomputable def bAnd (m k : AM Bool) : AM Bool := do
 let b ← m
 if b = true then k else pure false
noncomputable def bOr (m k : AM Bool) : AM Bool := do
 let b ← m
 if b = true then pure true else k
theorem sima_and_nil : SimA G sc hd d .And (pure true) [] := by
 intro A fr env own μ st s z st' hA I hm Q E h
 cases hm; exact wpAny_allTrue_And_nil (h _ _ _ Ext.refl I rfl)
theorem sima_or_nil : SimA G sc hd d .Or (pure false) [] := by
 intro A fr env own μ st s z st' hA I hm Q E h
 cases hm; exact wpAny_allTrue_Or_nil (h _ _ _ Ext.refl I rfl)
theorem sima_and {m k : AM Bool} {e : Expr} {es : List Expr} (S : SimT G sc hd d m e) (T : SimA G sc hd d .And k es) : SimA G sc hd d .And (bAnd m k) (e :: es) := by
 intro A fr env own μ st s z st' hA I hm Q E h
 refine wpAny_allTrue_And_cons (sim_bind2 S hA I hm fun x st₁ a s₁ μ₁ hm₁ x₁ I₁ r₁ => ?_)
 subst r₁
 cases x with
 | true => exact T A fr env own μ₁ st₁ s₁ z st' hA I₁ hm₁ Q E fun b s' μ' x' I' r' => h _ _ _ (I.trans x₁ x') I' r'
 | false => cases hm₁; exact h _ _ _ x₁ I₁ rfl
theorem sima_or {m k : AM Bool} {e : Expr} {es : List Expr} (S : SimT G sc hd d m e) (T : SimA G sc hd d .Or k es) : SimA G sc hd d .Or (bOr m k) (e :: es) := by
 intro A fr env own μ st s z st' hA I hm Q E h
 refine wpAny_allTrue_Or_cons (sim_bind2 S hA I hm fun x st₁ a s₁ μ₁ hm₁ x₁ I₁ r₁ => ?_)
 subst r₁
 cases x with
 | false => exact T A fr env own μ₁ st₁ s₁ z st' hA I₁ hm₁ Q E fun b s' μ' x' I' r' => h _ _ _ (I.trans x₁ x') I' r'
 | true => cases hm₁; exact h _ _ _ x₁ I₁ rfl
theorem simt_bool {op : BoolOp} {m : AM Bool} {es : List Expr} {pos : Pos} (S : SimA G sc hd d op m es) : SimT G sc hd d m (.BoolOp op es pos) := by
 intro A fr env own μ st s z st' hA I hm Q E h
 exact wpAny_isTrue_BoolOp (S A fr env own μ st s z st' hA I hm Q E h)
noncomputable def bAndV (m k : AM AV) : AM AV := do
 let v ← m
 let b ← see (aTruth v)
 if b = true then k else pure v
noncomputable def bIf (t : AM Bool) (m k : AM AV) : AM AV := do
 let b ← t
 if b = true then m else k
noncomputable def negV (v : AV) : AM AV := see fun zz => bI v fun i => some (.int (-i))
noncomputable def bNeg (m : AM AV) : AM AV := m >>= negV
theorem sim_neg {m : AM AV} {e : Expr} {pos : Pos} (S : SimE G sc hd d m e) : SimE G sc hd d (bNeg m) (.UnaryOp .USub e pos) := by
 intro A fr env own μ st s z st' hA I hm Q E h
 refine wpAny_UnaryOp (sim_bind2 S hA I hm fun x st₁ a s₁ μ₁ hm₁ x₁ I₁ r₁ => ?_)
 obtain ⟨rfl, hv⟩ := see_some hm₁
 apply vrI r₁ hv; intro i t hv
 cases hv
 exact neg_int (h _ _ _ (I.trans x₁ (Ext.tok _)) (I₁.tok _) (.int _ _))
abbrev SimL (G : Glob) (sc : SC) (hd : Bool) (d : Nat) (m : AM (List AV)) (es : List Expr) : Prop := ∀ pos, Sim G sc hd d m (fun env => spliced (backTo pos (starEach es env))) (VRs G)
noncomputable def bCons (m : AM AV) (k : AM (List AV)) : AM (List AV) := do
 let x ← m
 let xs ← k
 pure (x :: xs)
theorem siml_nil : SimL G sc hd d (pure []) [] := by
 intro pos A fr env own μ st s z st' hA I hm Q E h
 cases hm; exact wpAny_items_nil (h _ _ _ Ext.refl I .nil)
theorem siml_cons {m : AM AV} {k : AM (List AV)} {e : Expr} {es : List Expr} (S : SimE G sc hd d m e) (T : SimL G sc hd d k es) (he : autoParam (∀ env, starEach (e :: es) env = (false, eval e env) :: starEach es env) aR) : SimL G sc hd d (bCons m k) (e :: es) := by
 intro pos A fr env own μ st s z st' hA I hm Q E h
 refine wpAny_items_cons (sim_bind2 S hA I hm fun x st₁ a s₁ μ₁ hm₁ x₁ I₁ r₁ => sim_bind2 (T pos) hA I₁ hm₁ fun y st₂ b s₂ μ₂ hm₂ x₂ I₂ r₂ => ?_) (he env)
 cases hm₂
 exact h _ _ _ (I.trans x₁ x₂) I₂ (.cons (I₁.vr x₂ r₁) r₂)
noncomputable def small (n : Nat) : AM Unit := ⟨fun st => if n ≤ 1000000 then some ((), st) else none, fun Q st => n ≤ 1000000 ∧ Q () st, fun h => ⟨(), _, if_pos h.1, h.2⟩, fun h k => ⟨h.1, k _ _ h.2⟩⟩
theorem small_some {n : Nat} {st st' : AS} {u : Unit} (h : small n st = some (u, st')) : st' = st ∧ n ≤ 1000000 := by
 dsimp only [small] at h
 split at h
 ·cases h; exact ⟨rfl, by assumption⟩
 ·cases h
noncomputable def bList (m : AM (List AV)) : AM AV := do
 let xs ← m
 small xs.length
 lift (aNew (.list xs))
noncomputable def bTup (m : AM (List AV)) : AM AV := do
 let xs ← m
 small xs.length
 pure (.tup xs)
theorem alloc_list {fr : List Env} {μ : List Addr} {hp : AH} {s : Shared} {xs : List AV} {vs : List Value} {n : Nat} {tk : Nat} (H : HInv G fr μ hp s) (k : VRs G μ s.heap xs vs) :
  HInv G fr (μ ++ [s.heap.objs.size]) (hp ++ [(.list xs, 0)]) { s with heap := s.heap.push ⟨.type "list", none, .seq vs.toArray n, #[]⟩, toks := tk } ∧ Ext [] fr μ hp s (μ ++ [s.heap.objs.size]) (hp ++ [(.list xs, 0)]) { s with heap := s.heap.push ⟨.type "list", none, .seq vs.toArray n, #[]⟩, toks := tk } :=
 H.alloc (fun b o e => Heap.get?_push_of_some _ e) (Heap.get?_none_of_le (Nat.le_refl _)) (Heap.get?_push_size _ rfl) (.list k)
theorem ref_new {μ : List Addr} {hp : AH} {h : Heap} {a : Addr} (hl : μ.length = hp.length) : VR G (μ ++ [a]) h (.ref hp.length) (.ref a) := .ref (by rw [← hl, List.getElem?_append_right (Nat.le_refl _), Nat.sub_self]; rfl)
theorem sim_list {m : AM (List AV)} {es : List Expr} {pos : Pos} (S : SimL G sc hd d m es) : SimE G sc hd d (bList m) (.List es pos) := by
 intro A fr env own μ st s z st' hA I hm Q E h
 refine wpAny_List (sim_bind2 (S pos) hA I hm fun xs st₁ vs s₁ μ₁ hm₁ x₁ I₁ r₁ => ?_)
 refine Mine.hold fun gL bk => ?_
 obtain ⟨u, st₂, h2, h3⟩ := am_bind_some hm₁
 obtain ⟨rfl, hlen⟩ := small_some h2
 obtain ⟨hp', h4, rfl⟩ := lift_some h3
 cases h4
 refine bk ?_; clear bk gL
 have hn := alloc_list (tk := s₁.toks) (n := 0) I₁.h r₁
 exact ⟨by rw [← r₁.length, sizeLine_eq]; omega, h _ _ _ (I.trans x₁ hn.2.weaken) (I₁.heap hn.2 hn.1) (ref_new I₁.h.len)⟩
theorem sim_tup {m : AM (List AV)} {es : List Expr} {kk : Nat} {pos : Pos} (S : SimL G sc hd d m es) : SimE G sc hd d (bTup m) (.Tuple es kk pos) := by
 intro A fr env own μ st s z st' hA I hm Q E h
 refine wpAny_Tuple (sim_bind2 (S pos) hA I hm fun xs st₁ vs s₁ μ₁ hm₁ x₁ I₁ r₁ => ?_)
 refine Mine.hold fun gL bk => ?_
 obtain ⟨u, st₂, h2, h3⟩ := am_bind_some hm₁
 obtain ⟨rfl, hlen⟩ := small_some h2
 cases h3
 refine bk ?_; clear bk gL
 have hn := I₁.h.grow (h' := s₁.heap.push { cls := .type "tuple", data := .seq vs.toArray }) (tk := s₁.toks) (fun b o e => Heap.get?_push_of_some _ e)
 exact ⟨by rw [← r₁.length, sizeLine_eq]; omega, h _ _ _ (I.trans x₁ hn.2.weaken) (I₁.heap hn.2 hn.1) (.tup (Heap.get?_push_size _ rfl) rfl rfl (fun hm => absurd (I₁.h.lt hm) (Nat.lt_irrefl _)) (I₁.vrs hn.2.weaken r₁))⟩
end
inductive FlySt where
 | new
 | out (fl : Value)
noncomputable def TraceAt (G : Glob) (μ : List Addr) (lo : Heap) (e : Addr) (h : Heap) (vs : Array Value) : FlySt → Prop
 | .new => vs[1]? = some .none
 | .out fl => ∃ T oT ts, vs[1]? = some (.ref T) ∧ T ≠ e ∧ h.get? T = some oT ∧ oT.data = .fields ts ∧ ts[3]? = some fl ∧ T ∉ μ ∧ G.h₀.get? T = none ∧ lo.get? T = none
noncomputable def Fly (G : Glob) (μ : List Addr) (lo : Heap) (e : Addr) (cls : Value) (h : Heap) (st : FlySt) : Prop :=
 ∃ oe vs a0, h.get? e = some oe ∧ oe.cls = cls ∧ oe.data = .fields vs ∧ vs[0]? = some a0 ∧ e ∉ μ ∧ G.h₀.get? e = none ∧ lo.get? e = none ∧ TraceAt G μ lo e h vs st
structure ExtJ (fr : List Env) (μ : List Addr) (lo : Heap) (s s' : Shared) : Prop where
 same : ∃ h' tk, s' = { s with heap := h', toks := tk }
 keep : ∀ b o, s.heap.get? b = some o → b ∈ μ ∨ (lo.get? b).isSome = true ∨ (∀ vs, o.data ≠ .fields vs) → ∃ sl, s'.heap.get? b = some { o with slots := sl } ∧ (b ∉ frA fr → sl = o.slots)
theorem ExtJ.refl {fr : List Env} {μ : List Addr} {lo : Heap} {s : Shared} : ExtJ fr μ lo s s := ⟨⟨s.heap, s.toks, rfl⟩, fun b o h zz => ⟨o.slots, h, fun zz => rfl⟩⟩
theorem ExtJ.trans {fr : List Env} {μ : List Addr} {lo : Heap} {s s₁ s₂ : Shared} (x : ExtJ fr μ lo s s₁) (y : ExtJ fr μ lo s₁ s₂) : ExtJ fr μ lo s s₂ := by
 refine ⟨?_, fun b o h hb => ?_⟩
 ·obtain ⟨h', tk, rfl⟩ := x.same
  obtain ⟨h'', tk', rfl⟩ := y.same
  exact ⟨h'', tk', rfl⟩
 ·obtain ⟨sl, h1, h2⟩ := x.keep b o h hb
  obtain ⟨sl', h3, h4⟩ := y.keep b _ h1 hb
  exact ⟨sl', h3, fun hf => (h4 hf).trans (h2 hf)⟩
section
variable {G : Glob} {sc : SC} {fr : List Env} {env : Env} {own μ : List Addr} {hp : AH} {ρ : List (String × AV)} {lo : Heap} {s s' : Shared}
theorem ExtJ.still (x : ExtJ fr μ lo s s') (H : HInv G fr μ hp s) : Still μ μ s.heap s'.heap := by
 rintro a o ha hc zI4 hm
 obtain ⟨vs, n, hd⟩ := zI4
 have h3 : a ∉ frA fr := fun hm => by
  obtain ⟨e, he, hf⟩ := List.mem_filterMap.mp hm
  obtain ⟨_, L, o', hL, ho', ⟨es, n, q⟩, _⟩ := H.frs e he
  rw [hf] at hL; cases hL
  rw [ha] at ho'; cases ho'
  rw [hd] at q; cases q
 obtain ⟨sl, e, hs⟩ := x.keep a o ha (.inr (.inr fun ws q => by rw [hd] at q; cases q))
 rw [hs h3] at e; exact ⟨hm, e⟩
theorem HInv.junk (H : HInv G fr μ hp s) (hlo : G.h₀.StaysIn lo) (x : ExtJ fr μ lo s s') : HInv G fr μ hp s' := by
 refine ⟨fun b o e => ?_, H.len, H.nod, fun n c a hc ha => ?_, H.low, fun e he => ?_⟩
 ·obtain ⟨sl, h1, h2⟩ := x.keep b o (H.base b o e) (.inr (.inl (by rw [hlo b o e]; rfl)))
  have : b ∉ frA fr := fun hm => by
   obtain ⟨e', he, hf⟩ := List.mem_filterMap.mp hm
   obtain ⟨_, L, o', hL, ho', _, _, hn⟩ := H.frs e' he
   rw [hf] at hL; cases hL
   rw [e] at hn; cases hn
  rw [h2 this] at h1; exact h1
 ·obtain ⟨o, h1, h2⟩ := H.obj n c a hc ha
  obtain ⟨sl, h3, h4⟩ := x.keep a o h1 (.inl (List.mem_of_getElem? ha))
  rw [h4 (H.noFr (List.mem_of_getElem? ha))] at h3
  exact ⟨o, h3, h2.mono (fun zz zz e => e) (x.still H)⟩
 ·obtain ⟨k, L, o, h1, h2, ⟨es, n, h3⟩, h4, h5⟩ := H.frs e he
  obtain ⟨sl, h6, _⟩ := x.keep L o h2 (.inr (.inr fun ws q => by rw [h3] at q; cases q))
  exact ⟨k, L, _, h1, h6, ⟨es, n, h3⟩, h4, h5⟩
theorem EInv.junk (e : EInv G sc env own μ ρ s) (H : HInv G fr μ hp s) (x : ExtJ fr μ lo s s') : EInv G sc env own μ ρ s' where
 ok := e.ok
 ownp := fun a ha => by
  obtain ⟨h1, h2, o, ho, hk⟩ := e.ownp a ha
  obtain ⟨sl, h3, _⟩ := x.keep a o ho (.inr (.inr fun ws q => hk.noFields q))
  exact ⟨h1, h2, _, h3, hk⟩
 lown := e.lown
 loc := by
  obtain ⟨m, hn, hm⟩ := e.loc
  refine ⟨m, Ns_slots hn fun o ho => ?_, fun y v hy hk => ?_⟩
  ·obtain ⟨o', es, ep, ho', hd, _⟩ := hn
   rw [ho] at ho'; cases ho'
   obtain ⟨sl, h3, _⟩ := x.keep _ o ho (.inr (.inr fun ws q => by rw [hd] at q; cases q))
   exact ⟨sl, h3⟩
  ·obtain ⟨w, h1, h2⟩ := hm y v hy hk
   exact ⟨w, h1, h2.mono (fun zz zz e => e) (x.still H)⟩
 cel := fun y v hy => by
  rcases e.cel y v hy with q | ⟨q, c, w, h1, h2, h3⟩
  ·exact .inl q
  ·refine .inr ⟨q, c, w, h1, IsCell_slots h2 fun o ho => ?_, h3.mono (fun zz zz e => e) (x.still H)⟩
   obtain ⟨o', ho', hd⟩ := h2
   rw [ho] at ho'; cases ho'
   obtain ⟨sl, h3, _⟩ := x.keep _ o ho (.inr (.inr fun ws q => by rw [hd] at q; cases q))
   exact ⟨sl, h3⟩
 cells := fun y c hy => by
  obtain ⟨⟨w, o, ho, hd⟩, h2, h3⟩ := e.cells y c hy
  obtain ⟨sl, h4, _⟩ := x.keep _ o ho (.inr (.inr fun ws q => by rw [hd] at q; cases q))
  exact ⟨⟨w, _, h4, hd⟩, h2, h3⟩
 cown := e.cown
 cnot := e.cnot
theorem Ext.junk {μ₀ : List Addr} {hp₀ : AH} {s₀ : Shared} (y : Ext own fr μ₀ hp₀ s₀ μ hp s) (H : HInv G fr μ hp s) (K : OwnK own s) (hlen : μ₀.length = hp₀.length) (x : ExtJ fr μ s₀.heap s s') : Ext own fr μ₀ hp₀ s₀ μ hp s' where
 pre := y.pre
 same := by
  obtain ⟨h', tk, rfl⟩ := y.same
  obtain ⟨h'', tk', rfl⟩ := x.same
  exact ⟨h'', tk', rfl⟩
 alive := fun b o h => by
  obtain ⟨o', h'⟩ := y.alive b o h
  obtain ⟨sl, h1, _⟩ := x.keep b o' h' (.inr (.inl (by rw [h]; rfl)))
  exact ⟨_, h1⟩
 keep := fun b o h hm ho => by
  obtain ⟨sl, h1, h2⟩ := y.keep b o h hm ho
  obtain ⟨sl', h3, h4⟩ := x.keep b _ h1 (.inr (.inl (by rw [h]; rfl)))
  exact ⟨sl', h3, fun hf => (h4 hf).trans (h2 hf)⟩
 vers := fun n c hc => by
  obtain ⟨c', h1, h2, h3⟩ := y.vers n c hc
  refine ⟨c', h1, h2, fun e => ?_⟩
  obtain ⟨r, k⟩ := h3 e
  refine ⟨r, fun a ha => ?_⟩
  obtain ⟨o, ho, hor⟩ := H.obj n c' a h1 (y.mu ha)
  have hm : a ∈ μ := List.mem_of_getElem? (y.mu ha)
  obtain ⟨sl, h4, h5⟩ := x.keep a o ho (.inl hm)
  rw [h5 (H.noFr hm)] at h4
  rw [h4, ← ho]; exact k a ha
theorem hide_keeps {h : Heap} {l : List Addr} {b : Addr} {o : Obj} (e : h.get? b = some o) (hb : b ∉ l) : (hideAll h l).get? b = some o := hideAll_get l e hb
theorem HInv.funFrames (H : HInv G fr μ hp s) {l : List Addr} (hl : ∀ a ∈ frA fr, a ∈ l) : s.heap.FunFrames (hideAll s.heap l) fr := by
 have go : ∀ fr' : List Env, (∀ e ∈ fr', e ∈ fr) → s.heap.FunFrames (hideAll s.heap l) fr' := by
  intro fr'
  induction fr' with
  | nil => intro _; trivial
  | cons e r ih =>
   intro hin
   obtain ⟨k, L, o, h1, h2, ⟨es, n, h3⟩, _⟩ := H.frs e (hin e List.mem_cons_self)
   refine ⟨by rw [k]; decide, ⟨L, o, h1, hideAll_none l (hl L (List.mem_filterMap.mpr ⟨e, hin e List.mem_cons_self, h1⟩)), h2, fun vs q => by rw [h3] at q; cases q⟩, ih fun e' he' => hin e' (List.mem_cons_of_mem _ he')⟩
 exact go fr fun e he => he
theorem extJ_of {e : Addr} {J : List Addr} {h' : Heap} {tk : Nat} (H : HInv G fr μ hp s) (hb : (hideAll s.heap (frA fr ++ J)).StaysIn h') (hu : s.heap.UpToSlots h') (hJ : ∀ j ∈ J, j ∉ μ ∧ lo.get? j = none ∧ ∃ o vs, s.heap.get? j = some o ∧ o.data = .fields vs) :
  ExtJ fr μ lo s { s with heap := h', toks := tk } := by
 refine ⟨⟨h', tk, rfl⟩, fun b o h hk => ?_⟩
 have hbJ : b ∉ J := fun hm => by
  obtain ⟨j1, j2, oj, vs, j3, j4⟩ := hJ b hm
  rcases hk with q | q | q
  ·exact j1 q
  ·rw [j2] at q; cases q
  ·rw [h] at j3; cases j3; exact q _ j4
 by_cases hf : b ∈ frA fr
 ·have hn : ∀ vs, o.data ≠ .fields vs := fun vs q => by
   obtain ⟨e', he, hf'⟩ := List.mem_filterMap.mp hf
   obtain ⟨_, L, o', hL, ho', ⟨es, n, q'⟩, _⟩ := H.frs e' he
   rw [hf'] at hL; cases hL
   rw [h] at ho'; cases ho'
   rw [q] at q'; cases q'
  obtain ⟨sl, hs⟩ := hu b o h hn
  exact ⟨sl, hs, fun q => absurd hf q⟩
 ·exact ⟨o.slots, hb b o (hide_keeps h fun hm => (List.mem_append.mp hm).elim hf hbJ), fun zz => rfl⟩
end
section
variable {G : Glob} {sc : SC} {outer : List Env} {env : Env} {own μ : List Addr} {hp : AH} {ρ : List (String × AV)} {lo : Heap} {s s' : Shared} {M : Model} {A : Around} {E : Value → Shared → Prop} {e L : Addr} {cls : Value}
noncomputable def Alive (lo h : Heap) : Prop := ∀ b o, lo.get? b = some o → ∃ o', h.get? b = some o'
theorem junk_entry {fr : List Env} {J : List Addr} {h' : Heap} {T : Addr} {oT : Obj} {ts : Array Value} (H : HInv G fr μ hp s) (hT : h'.get? T = some oT) (hTd : oT.data = .fields ts) (hbT : (hideAll s.heap (frA fr ++ J)).get? T = none)
  (hu : s.heap.UpToSlots h') (hJ : ∀ j ∈ J, j ∉ μ ∧ G.h₀.get? j = none ∧ lo.get? j = none) (ha : Alive lo s.heap) : T ∉ μ ∧ G.h₀.get? T = none ∧ lo.get? T = none := by
 have key : s.heap.get? T = none ∨ T ∈ J := by
  cases e : s.heap.get? T with
  | none => exact .inl rfl
  | some o =>
   by_cases hj : T ∈ J
   ·exact .inr hj
   ·by_cases hf : T ∈ frA fr
    ·exfalso
     obtain ⟨e', he, hf'⟩ := List.mem_filterMap.mp hf
     obtain ⟨_, L', o', hL, ho', ⟨es, n, q'⟩, _⟩ := H.frs e' he
     rw [hf'] at hL; cases hL
     rw [e] at ho'; cases ho'
     obtain ⟨sl, hs⟩ := hu T o e fun ws q => by rw [q'] at q; cases q
     rw [hT] at hs; cases hs
     simp only at hTd
     rw [q'] at hTd; cases hTd
    ·rw [hideAll_get _ e fun hm => (List.mem_append.mp hm).elim hf hj] at hbT; cases hbT
 rcases key with q | q
 ·refine ⟨fun hm => ?_, ?_, ?_⟩
  ·have := H.lt hm
   obtain ⟨n, hn⟩ := List.getElem?_of_mem hm
   have hlt := (List.getElem?_eq_some_iff.mp hn).1
   rw [H.len] at hlt
   obtain ⟨o', ho', _⟩ := H.obj n hp[n] T (List.getElem?_eq_getElem hlt) hn
   rw [q] at ho'; cases ho'
  ·cases e : G.h₀.get? T with
   | none => rfl
   | some o => have := H.base _ _ e; rw [q] at this; cases this
  ·cases e : lo.get? T with
   | none => rfl
   | some o => obtain ⟨o', h'⟩ := ha _ _ e; rw [q] at h'; cases h'
 ·exact hJ T q
theorem note_step {Q : Unit → Shared → Prop} {st : FlySt} (hfr : A.frames = some (env :: outer)) (hf : env.frame = some L) (H : HInv G (env :: outer) μ hp s) (ha : Alive lo s.heap) (F : Fly G μ lo e cls s.heap st) (hst : st = .new ∨ st = .out .none ∨ st = .out (rawInt L))
  (hQ : ∀ h', ExtJ (env :: outer) μ lo s { s with heap := h' } → Fly G μ lo e cls h' (.out (rawInt L)) → Q () { s with heap := h' }) : wpAny M A (noteFrame (.ref e) env) Q E s := by
 refine Mine.hold fun gL bk => ?_
 obtain ⟨oe, vs, a0, he, hcls, hd, h0, hem, heh, hel, htr⟩ := F
 refine bk ?_; clear bk gL
 have done : ∀ (J : List Addr), e ∈ J → (∀ j ∈ J, j ∉ μ ∧ G.h₀.get? j = none ∧ lo.get? j = none ∧ ∃ o vs, s.heap.get? j = some o ∧ o.data = .fields vs) → ∀ h', Heap.NotedW (hideAll s.heap (frA (env :: outer) ++ J)) (env :: outer) e cls a0 (rawInt L) s.heap h' → Q () { s with heap := h' } := by
  intro J heJ hJ h' hN
  obtain ⟨k1, k2, ⟨oe', vs', T, oT, ts, g1, ⟨g2, g3⟩, g4, g5, g6, g7, g8, g9, g10⟩, k4⟩ := hN
  have x := extJ_of (lo := lo) (e := e) (J := J) (tk := s.toks) H k1 k4 fun j hj => ⟨(hJ j hj).1, (hJ j hj).2.2.1, (hJ j hj).2.2.2⟩
  obtain ⟨t1, t2, t3⟩ := junk_entry H g8 g9 g6 k4 (fun j hj => ⟨(hJ j hj).1, (hJ j hj).2.1, (hJ j hj).2.2.1⟩) ha
  exact hQ h' x ⟨oe', vs', a0, g1, g2, g4, g3, hem, heh, hel, T, oT, ts, g5, g7, g8, g9, g10, t1, t2, t3⟩
 have hJe : ∀ j ∈ [e], j ∉ μ ∧ G.h₀.get? j = none ∧ lo.get? j = none ∧ ∃ o vs, s.heap.get? j = some o ∧ o.data = .fields vs := fun j hj => by
  rw [List.mem_singleton.mp hj]; exact ⟨hem, heh, hel, oe, vs, he, hd⟩
 cases st with
 | new =>
  have h1 : vs[1]? = some .none := htr
  unfold noteFrame
  simp only [hf]
  refine wpAny_bind (wpAny_field he hd h1 ?_)
  rw [if_neg (by decide)]
  subst hcls
  exact wpAny_entryW hfr (H.funFrames fun a ha => List.mem_append_left _ ha) hf he (fun b o q => of_hideAll _ q) (hideAll_none _ (by simp)) hd (Array.getElem?_eq_some_iff.mp h1).1 h0 (done [e] (by simp) hJe)
 | out fl =>
  refine Mine.hold fun gL bk => ?_
  obtain ⟨T, oT, ts, g5, g7, g8, g9, g10, t1, t2, t3⟩ := htr
  refine bk ?_; clear bk gL
  have hJ : ∀ j ∈ [e, T], j ∉ μ ∧ G.h₀.get? j = none ∧ lo.get? j = none ∧ ∃ o vs, s.heap.get? j = some o ∧ o.data = .fields vs := fun j hj => by
   rcases List.mem_cons.mp hj with q | q
   ·rw [q]; exact ⟨hem, heh, hel, oe, vs, he, hd⟩
   ·rw [List.mem_singleton.mp q]; exact ⟨t1, t2, t3, oT, ts, g8, g9⟩
  have tr : s.heap.TracedAtW (hideAll s.heap (frA (env :: outer) ++ [e, T])) e cls a0 fl := ⟨oe, vs, T, oT, ts, he, ⟨hcls, h0⟩, hd, g5, hideAll_none _ (by simp), g7, g8, g9, g10⟩
  rcases hst with q | q | q
  ·cases q
  ·cases q
   exact wpAny_noteFrame_onW hfr (H.funFrames fun a ha => List.mem_append_left _ ha) hf tr (fun b o q => of_hideAll _ q) (hideAll_none _ (by simp)) (done [e, T] (by simp) hJ)
  ·cases q
   refine wpAny_noteFrame_againW hf tr (hQ s.heap ExtJ.refl ⟨oe, vs, a0, he, hcls, hd, h0, hem, heh, hel, T, oT, ts, g5, g7, g8, g9, g10, t1, t2, t3⟩)
theorem flight_step {fr : List Env} {Q : Unit → Shared → Prop} {fl : Value} (x : Option Addr) (H : HInv G fr μ hp s) (F : Fly G μ lo e cls s.heap (.out fl))
  (hQ : ∀ h', ExtJ fr μ lo s { s with heap := h' } → Fly G μ lo e cls h' (.out (x.elim .none fun f => rawInt f)) → Q () { s with heap := h' }) : wpAny M A (setFlight (.ref e) x) Q E s := by
 refine Mine.hold fun gL bk => ?_
 obtain ⟨oe, vs, a0, he, hcls, hd, h0, hem, heh, hel, T, oT, ts, g5, g7, g8, g9, g10, t1, t2, t3⟩ := F
 refine bk ?_; clear bk gL
 unfold setFlight
 refine wpAny_bind (wpAny_field he hd g5 ?_)
 rw [if_pos (show (Value.ref T != Value.none) = true from by simp)]
 have hsz : 3 < ts.size := (Array.getElem?_eq_some_iff.mp g10).1
 have other : ∀ (y : Value) b, b ≠ T → (s.heap.update T (Obj.mapFields (·.setIfInBounds 3 y))).get? b = s.heap.get? b := fun y b hb => Heap.get?_update_other _ _ (Ne.symm hb)
 refine wpAny_setField g8 g9 hsz (hQ _ ⟨⟨_, s.toks, rfl⟩, fun b o h hk => ?_⟩ ?_)
 ·refine ⟨o.slots, (other _ b fun q => ?_).trans h, fun zz => rfl⟩
  subst q
  rcases hk with q | q | q
  ·exact t1 q
  ·rw [t3] at q; cases q
  ·rw [h] at g8; cases g8; exact q _ g9
 ·exact ⟨oe, vs, a0, (other _ e (Ne.symm g7)).trans he, hcls, hd, h0, hem, heh, hel, T, _, _, g5, g7, Heap.get?_update_self _ g8 (Obj.isFreed_of_fields (Obj.data_mapFields g9 _)), Obj.data_mapFields g9 _, by simp [hsz], t1, t2, t3⟩
theorem back_step {Q : Value → Shared → Prop} {fl : Value} {fr : List Env} (hf : env.frame = some L) (H : HInv G fr μ hp s) (F : Fly G μ lo e cls s.heap (.out fl))
  (hQ : ∀ h', ExtJ fr μ lo s { s with heap := h' } → Fly G μ lo e cls h' (.out (rawInt L)) → E (.ref e) { s with heap := h' }) : cameBackBy M A env E (.ref e) s := by
 have F' := F
 refine Mine.hold fun gL bk => ?_
 obtain ⟨oe, vs, a0, he, hcls, hd, h0, hem, heh, hel, T, oT, ts, g5, g7, g8, g9, g10, t1, t2, t3⟩ := F
 refine bk ?_; clear bk gL
 unfold cameBackBy
 refine wpAny_bind (wpAny_field he hd g5 ?_)
 rw [if_neg (show ¬ ((Value.ref T == Value.none) = true) from by simp)]
 have st := flight_step (M := M) (A := A) (E := E) (Q := fun zz s'' => E (.ref e) s'') (some L) H F' fun h' x y => hQ h' x y
 rw [← hf] at st
 first
  | exact wpAny_bind (wpAny_pure st)
  | exact st
theorem leave_step {Q : Unit → Shared → Prop} {st : FlySt} (hfr : A.frames = some (env :: outer)) (hf : env.frame = some L) (H : HInv G (env :: outer) μ hp s) (hh : G.h₀.StaysIn lo) (ha : Alive lo s.heap) (F : Fly G μ lo e cls s.heap st) (hst : st = .new ∨ st = .out .none ∨ st = .out (rawInt L))
  (hQ : ∀ h', ExtJ (env :: outer) μ lo s { s with heap := h' } → Fly G μ lo e cls h' (.out .none) → Q () { s with heap := h' }) : wpAny M A (leaving env (.ref e)) Q E s := by
 unfold leaving
 refine wpAny_bind (note_step hfr hf H ha F hst fun h' x F' => ?_)
 refine flight_step none (H.junk hh x) F' fun h'' x' F'' => ?_
 exact hQ h'' (x.trans x') F''
end
inductive AFlow where
 | next | brk | cont
 | ret (v : AV)
 | exc (k : String)
inductive FlR (G : Glob) (μ : List Addr) (h : Heap) : AFlow → Flow → Prop
 | next : FlR G μ h .next .next
 | brk : FlR G μ h .brk .brk
 | cont : FlR G μ h .cont .cont
 | ret {v : AV} {w : Value} : VR G μ h v w → FlR G μ h (.ret v) (.ret w)
noncomputable def excCls (G : Glob) (k : String) : Value := match G.addr k with
 | some a => .ref a
 | none => .type k
noncomputable def StOk (env : Env) (sf : FlySt) : Prop := sf = .new ∨ sf = .out .none ∨ sf = .out (rawInt env.locals)
noncomputable def SimS (G : Glob) (sc : SC) (hd : Bool) (d : Nat) (m : AM AFlow) (t : Env → Sem Flow) : Prop :=
 ∀ (A : Around) (outer : List Env) (env : Env) (own μ : List Addr) (st : AS) (s : Shared) (fl : AFlow) (st' : AS), AOk A (env :: outer) hd d → env.frame = some env.locals → Inv G sc (env :: outer) env own μ st s → m st = some (fl, st') →
  ∀ (Q : Flow → Shared → Prop) (E : Value → Shared → Prop),
   (∀ f s' μ', XT own (env :: outer) μ st s μ' st' s' → Inv G sc (env :: outer) env own μ' st' s' → FlR G μ' s'.heap fl f → Q f s') →
   (∀ e k s' μ' sf, fl = .exc k → XT own (env :: outer) μ st s μ' st' s' → Inv G sc (env :: outer) env own μ' st' s' → Fly G μ' s.heap e (excCls G k) s'.heap sf → StOk env sf → E (.ref e) s') → wpAny G.M A (t env) Q E s
abbrev SimB (G : Glob) (sc : SC) (hd : Bool) (d : Nat) (m : AM AFlow) (b : List Stmt) : Prop := SimS G sc hd d m (fun env => execs b env)
abbrev Sim1 (G : Glob) (sc : SC) (hd : Bool) (d : Nat) (m : AM AFlow) (b : Stmt) : Prop := SimS G sc hd d m (fun env => exec b env)
noncomputable def SimX (G : Glob) (sc : SC) (hd : Bool) (d : Nat) (m : AM (Except String AV)) (e : Expr) : Prop :=
 ∀ (A : Around) (outer : List Env) (env : Env) (own μ : List Addr) (st : AS) (s : Shared) (r : Except String AV) (st' : AS), AOk A (env :: outer) hd d → env.frame = some env.locals → Inv G sc (env :: outer) env own μ st s → m st = some (r, st') →
  ∀ (Q : Value → Shared → Prop) (E : Value → Shared → Prop),
   (∀ v w s' μ', r = .ok v → XT own (env :: outer) μ st s μ' st' s' → Inv G sc (env :: outer) env own μ' st' s' → VR G μ' s'.heap v w → Q w s') →
   (∀ e k s' μ' sf, r = .error k → XT own (env :: outer) μ st s μ' st' s' → Inv G sc (env :: outer) env own μ' st' s' → Fly G μ' s.heap e (excCls G k) s'.heap sf → StOk env sf → E (.ref e) s') → wpAny G.M A (eval e env) Q E s
section
variable {G : Glob} {sc : SC} {hd : Bool} {d : Nat}
theorem Fly.weaken {μ : List Addr} {lo lo' : Heap} {e : Addr} {cls : Value} {h : Heap} {st : FlySt} (F : Fly G μ lo e cls h st) (k : Alive lo' lo) : Fly G μ lo' e cls h st := by
 have low : ∀ b, lo.get? b = none → lo'.get? b = none := fun b hb => by
  cases q : lo'.get? b with
  | none => rfl
  | some o => obtain ⟨o', h'⟩ := k b o q; rw [hb] at h'; cases h'
 obtain ⟨oe, vs, a0, he, hcls, hd, h0, hem, heh, hel, htr⟩ := F
 refine ⟨oe, vs, a0, he, hcls, hd, h0, hem, heh, low _ hel, ?_⟩
 cases st with
 | new => exact htr
 | out fl =>
  obtain ⟨T, oT, ts, g5, g7, g8, g9, g10, t1, t2, t3⟩ := htr
  exact ⟨T, oT, ts, g5, g7, g8, g9, g10, t1, t2, low _ t3⟩
noncomputable def bSeq (m k : AM AFlow) : AM AFlow := do
 let f ← m
 match f with
 | .next => k
 | f => pure f
theorem simb_nil : SimB G sc hd d (pure .next) [] := by
 intro A outer env own μ st s fl st' hA hf I hm Q E h hE
 cases hm; exact wpAny_execs_nil (h _ _ _ Ext.refl I .next)
theorem simb_cons {m k : AM AFlow} {b : Stmt} {r : List Stmt} (S : Sim1 G sc hd d m b) (T : SimB G sc hd d k r) : SimB G sc hd d (bSeq m k) (b :: r) := by
 intro A outer env own μ st s fl st' hA hf I hm Q E h hE
 obtain ⟨f, st₁, h1, h2⟩ := am_bind_some hm
 refine wpAny_execs_cons (S A outer env own μ st s f st₁ hA hf I h1 _ _ (fun f' s₁ μ₁ x₁ I₁ r₁ => ?_) fun e k s₁ μ₁ sf e1 x₁ I₁ F hs => ?_)
 ·cases r₁ with
  | next => exact T A outer env own μ₁ st₁ s₁ fl st' hA hf I₁ h2 Q E (fun f'' s₂ μ₂ x₂ I₂ r₂ => h _ _ _ (I.trans x₁ x₂) I₂ r₂) fun e k s₂ μ₂ sf e1 x₂ I₂ F hs => hE e k s₂ μ₂ sf e1 (I.trans x₁ x₂) I₂ (F.weaken x₁.alive) hs
  | brk => cases h2; exact h _ _ _ x₁ I₁ .brk
  | cont => cases h2; exact h _ _ _ x₁ I₁ .cont
  | ret r => cases h2; exact h _ _ _ x₁ I₁ (.ret r)
 ·subst e1
  cases h2
  exact hE e k s₁ μ₁ sf rfl x₁ I₁ F hs
theorem simb_one {m : AM AFlow} {b : Stmt} (S : Sim1 G sc hd d m b) : SimB G sc hd d m [b] := by
 intro A outer env own μ st s fl st' hA hf I hm Q E h hE
 refine wpAny_execs_cons (S A outer env own μ st s fl st' hA hf I hm _ _ (fun f' s₁ μ₁ x₁ I₁ r₁ => ?_) hE)
 cases r₁ with
 | next => exact wpAny_execs_nil (h _ _ _ x₁ I₁ .next)
 | brk => exact h _ _ _ x₁ I₁ .brk
 | cont => exact h _ _ _ x₁ I₁ .cont
 | ret r => exact h _ _ _ x₁ I₁ (.ret r)
theorem sims_break {pos : Pos} : Sim1 G sc hd d (pure .brk) (.Break pos) := by
 intro A outer env own μ st s fl st' hA hf I hm Q E h hE
 cases hm; exact wpAny_Break (h _ _ _ Ext.refl I .brk)
theorem sims_continue {pos : Pos} : Sim1 G sc hd d (pure .cont) (.Continue pos) := by
 intro A outer env own μ st s fl st' hA hf I hm Q E h hE
 cases hm; exact wpAny_Continue (h _ _ _ Ext.refl I .cont)
noncomputable def bRet (m : AM AV) : AM AFlow := do
 let v ← m
 pure (.ret v)
theorem sims_ret {m : AM AV} {e : Expr} {pos : Pos} (S : SimE G sc hd d m e) : Sim1 G sc hd d (bRet m) (.Return (some e) pos) := by
 intro A outer env own μ st s fl st' hA hf I hm Q E h hE
 refine wpAny_Return_some (sim_bind2 S hA I hm fun v st₁ w s₁ μ₁ hm₁ x₁ I₁ r₁ => ?_)
 cases hm₁
 exact h _ _ _ x₁ I₁ (.ret r₁)
noncomputable def bIfS (t : AM Bool) (m k : AM AFlow) : AM AFlow := do
 let b ← t
 if b = true then m else k
theorem sims_if {t : AM Bool} {m k : AM AFlow} {e : Expr} {b₁ b₂ : List Stmt} {pos : Pos} (S : SimT G sc hd d t e) (S₁ : SimB G sc hd d m b₁) (S₂ : SimB G sc hd d k b₂) : Sim1 G sc hd d (bIfS t m k) (.If e b₁ b₂ pos) := by
 intro A outer env own μ st s fl st' hA hf I hm Q E h hE
 refine wpAny_If (sim_bind2 S hA I hm fun x st₁ a s₁ μ₁ hm₁ x₁ I₁ r₁ => ?_)
 subst r₁
 cases x with
 | true => exact S₁ A outer env own μ₁ st₁ s₁ fl st' hA hf I₁ hm₁ Q E (fun f'' s₂ μ₂ x₂ I₂ r₂ => h _ _ _ (I.trans x₁ x₂) I₂ r₂) fun e k s₂ μ₂ sf e1 x₂ I₂ F hs => hE e k s₂ μ₂ sf e1 (I.trans x₁ x₂) I₂ (F.weaken x₁.alive) hs
 | false => exact S₂ A outer env own μ₁ st₁ s₁ fl st' hA hf I₁ hm₁ Q E (fun f'' s₂ μ₂ x₂ I₂ r₂ => h _ _ _ (I.trans x₁ x₂) I₂ r₂) fun e k s₂ μ₂ sf e1 x₂ I₂ F hs => hE e k s₂ μ₂ sf e1 (I.trans x₁ x₂) I₂ (F.weaken x₁.alive) hs
theorem notInteractive {env : Env} (ok : EnvOk sc env) : interactive env = false := by
 unfold interactive; rw [ok.fn]; rfl
noncomputable def bExpr (m : AM AV) : AM AFlow := do
 let _ ← m
 pure .next
theorem sims_expr {m : AM AV} {e : Expr} {pos : Pos} (S : SimE G sc hd d m e) (hs : autoParam (∀ env : Env, swapsWith e none pos.line env = pure false) aR) : Sim1 G sc hd d (bExpr m) (.Expr e pos) := by
 intro A outer env own μ st s fl st' hA hf I hm Q E h hE
 refine wpAny_Expr_any (sim_bind2 S hA I hm fun v st₁ w s₁ μ₁ hm₁ x₁ I₁ r₁ => ?_) (notInteractive I.e.ok) (hs env)
 cases hm₁
 exact h _ _ _ x₁ I₁ .next
noncomputable def bExprX (m : AM (Except String AV)) : AM AFlow := do
 let r ← m
 match r with
 | .ok _ => pure .next
 | .error k => pure (.exc k)
theorem sims_exprX {m : AM (Except String AV)} {e : Expr} {pos : Pos} (S : SimX G sc hd d m e) (hs : autoParam (∀ env : Env, swapsWith e none pos.line env = pure false) aR) : Sim1 G sc hd d (bExprX m) (.Expr e pos) := by
 intro A outer env own μ st s fl st' hA hf I hm Q E h hE
 obtain ⟨r, st₁, h1, h2⟩ := am_bind_some hm
 refine wpAny_Expr_any (S A outer env own μ st s r st₁ hA hf I h1 _ _ (fun v w s₁ μ₁ e1 x₁ I₁ r₁ => ?_) fun e k s₁ μ₁ sf e1 x₁ I₁ F hs => ?_) (notInteractive I.e.ok) (hs env)
 ·subst e1; cases h2; exact h _ _ _ x₁ I₁ .next
 ·subst e1; cases h2; exact hE _ _ _ _ _ rfl x₁ I₁ F hs
noncomputable def StoreOk (sc : SC) (x : String) : Prop := sc.scope.names.lookup (Str.ofString x) = some .local ∨ (sc.scope.names.lookup (Str.ofString x) = some .cell ∧ Str.ofString x ∈ sc.wr)
theorem own_write {fr : List Env} {env : Env} {own μ : List Addr} {st : AS} {s : Shared} {a : Addr} {h' : Heap} {tk : Nat} {o' : Obj} (I : Inv G sc fr env own μ st s) (ha : a ∈ own) (hs : Heap.SameBut a s.heap h') (ho : h'.get? a = some o')
  (hk : ∀ o, s.heap.get? a = some o → (∃ es n, o.data = .dict es n) → ∃ es n, o'.data = .dict es n) : HInv G fr μ st.hp { s with heap := h', toks := tk } ∧ Ext own fr μ st.hp s μ st.hp { s with heap := h', toks := tk } ∧ Still μ μ s.heap h' := by
 obtain ⟨h1, h2, oa, hoa, hl⟩ := I.e.ownp a ha
 have still : Still μ μ s.heap h' := by
  rintro b o hb hc zI4 hmm
  obtain ⟨vs, n, hd⟩ := zI4
  refine ⟨hmm, (hs.2 b fun q => ?_).trans hb⟩
  subst q
  rw [hoa] at hb; cases hb
  exact hl.noTup hc ⟨vs, n, hd⟩
 refine ⟨⟨fun b o e => ?_, I.h.len, I.h.nod, fun n c b hc hb => ?_, I.h.low, fun e he => ?_⟩, ⟨⟨[], by simp, by simp⟩, ⟨h', tk, rfl⟩, fun b o e => ?_, fun b o e hm hb => ⟨o.slots, (hs.2 b fun q => hb (q ▸ ha)).trans e, fun zz => rfl⟩, fun n c hc => ⟨c, hc, Nat.le_refl _, fun zz => ⟨rfl, fun b hb => hs.2 b fun q => h1 (q ▸ List.mem_of_getElem? hb)⟩⟩⟩, still⟩
 ·refine (hs.2 b fun q => ?_).trans (I.h.base b o e)
  subst q; rw [h2] at e; cases e
 ·obtain ⟨o, g1, g2⟩ := I.h.obj n c b hc hb
  exact ⟨o, (hs.2 b fun q => h1 (q ▸ List.mem_of_getElem? hb)).trans g1, g2.mono (fun zz zz e => e) still⟩
 ·obtain ⟨k, L, o, g1, g2, g3, g4, g5⟩ := I.h.frs e he
  by_cases q : L = a
  ·subst q
   exact ⟨k, L, o', g1, ho, hk o g2 g3, g4, g5⟩
  ·exact ⟨k, L, o, g1, (hs.2 L q).trans g2, g3, g4, g5⟩
 ·by_cases q : b = a
  ·exact ⟨_, q ▸ ho⟩
  ·exact ⟨_, (hs.2 b q).trans e⟩
theorem lookup_put_some {x y : String} {v w : AV} {ρ : List (String × AV)} (h : (put x v ρ).lookup y = some w) : (y = x ∧ w = v) ∨ (y ≠ x ∧ ρ.lookup y = some w) := by
 rw [lookup_put] at h
 by_cases q : y = x
 ·rw [if_pos q] at h; cases h; exact .inl ⟨q, rfl⟩
 ·rw [if_neg q] at h; exact .inr ⟨q, h⟩
theorem store_is {A : Around} {fr : List Env} {env : Env} {own μ : List Addr} {st : AS} {s : Shared} {x : String} {v : AV} {w : Value} {Q : Unit → Shared → Prop} {E : Value → Shared → Prop} (I : Inv G sc fr env own μ st s) (r : VR G μ s.heap v w) (hx : StoreOk sc x)
  (h : ∀ s', Ext own fr μ st.hp s μ st.hp s' → Inv G sc fr env own μ { st with env := put x v st.env } s' → Q () s') : wpAny G.M A (storeName env (Str.ofString x) w) Q E s := by
 have hko : env.kindOf (Str.ofString x) = sc.scope.names.lookup (Str.ofString x) := by unfold Env.kindOf; rw [I.e.ok.scope]
 have ne : ∀ {y : String}, y ≠ x → Str.ofString y ≠ Str.ofString x := fun q e => q (ofString_inj e)
 rcases hx with hl | ⟨hl, hw⟩
 ·obtain ⟨m, hn, hm⟩ := I.e.loc
  refine wpAny_storeName_local (hko.trans hl) hn (fun h' hn' hs' => ?_) (by rw [I.e.ok.fn]; rfl)
  obtain ⟨o', es', ep', ho', hd', hr'⟩ := id hn'
  obtain ⟨H', x', still⟩ := own_write (tk := s.toks + 1) I I.e.lown hs' ho' fun zz zz zz => ⟨_, _, hd'⟩
  refine h _ x' ⟨H', ?_⟩
  refine ⟨I.e.ok, fun a ha => ?_, I.e.lown, ⟨_, hn', fun y u hy hk => ?_⟩, fun y u hy => ?_, fun y c hy => ?_, I.e.cown, I.e.cnot⟩
  ·obtain ⟨g1, g2, o, g3, g4⟩ := I.e.ownp a ha
   by_cases q : a = env.locals
   ·exact ⟨g1, g2, o', q ▸ ho', .inl ⟨_, _, hd'⟩⟩
   ·exact ⟨g1, g2, o, (hs'.2 a q).trans g3, g4⟩
  ·rcases lookup_put_some hy with ⟨q, rfl⟩ | ⟨q, hy'⟩
   ·subst q; exact ⟨w, by simp, r.mono (fun zz zz e => e) still⟩
   ·obtain ⟨w', g1, g2⟩ := hm y u hy' hk
    exact ⟨w', by simp only [if_neg (ne q)]; exact g1, g2.mono (fun zz zz e => e) still⟩
  ·rcases lookup_put_some hy with ⟨q, rfl⟩ | ⟨q, hy'⟩
   ·subst q; exact .inl (hko.trans hl)
   ·rcases I.e.cel y u hy' with q' | ⟨q', c, w', g1, g2, g3⟩
    ·exact .inl q'
    ·exact .inr ⟨q', c, w', g1, g2.sameBut hs' (I.e.cells _ _ g1).2.2, g3.mono (fun zz zz e => e) still⟩
  ·obtain ⟨⟨w', g1⟩, g2, g3⟩ := I.e.cells y c hy
   exact ⟨⟨w', g1.sameBut hs' g3⟩, g2, g3⟩
 ·obtain ⟨c, hc, hco⟩ := I.e.cown _ hw
  obtain ⟨⟨w₀, hcell⟩, hcm, hcl⟩ := I.e.cells _ c hc
  refine wpAny_storeName_cell I.e.ok.fn (hko.trans hl) hc hcell fun h' hc' hs' => ?_
  obtain ⟨o', ho', hd'⟩ := id hc'
  obtain ⟨H', x', still⟩ := own_write (tk := s.toks) I hco hs' ho' fun o ho ⟨es, n, q⟩ => by
   obtain ⟨o₀, g1, g2⟩ := hcell
   rw [ho] at g1; cases g1; rw [q] at g2; cases g2
  have capart : ∀ {y : PySem.Str} {c' : Addr}, env.cells.lookup y = some c' → y ≠ Str.ofString x → c' ≠ c := fun hy q e => q (name_of_addr I.e.ok.apart (mem_of_lookup hy) (e ▸ mem_of_lookup hc))
  refine h _ x' ⟨H', ?_⟩
  refine ⟨I.e.ok, fun a ha => ?_, I.e.lown, ?_, fun y u hy => ?_, fun y c' hy => ?_, I.e.cown, I.e.cnot⟩
  ·obtain ⟨g1, g2, o, g3, g4⟩ := I.e.ownp a ha
   by_cases q : a = c
   ·exact ⟨g1, g2, o', q ▸ ho', .inr (.inl ⟨_, hd'⟩)⟩
   ·exact ⟨g1, g2, o, (hs'.2 a q).trans g3, g4⟩
  ·obtain ⟨m, hn, hm⟩ := I.e.loc
   refine ⟨m, hn.sameBut hs' (Ne.symm hcl), fun y u hy hk => ?_⟩
   rcases lookup_put_some hy with ⟨q, rfl⟩ | ⟨q, hy'⟩
   ·subst q; rw [hko, hl] at hk; cases hk
   ·obtain ⟨w', g1, g2⟩ := hm y u hy' hk
    exact ⟨w', g1, g2.mono (fun zz zz e => e) still⟩
  ·rcases lookup_put_some hy with ⟨q, rfl⟩ | ⟨q, hy'⟩
   ·subst q; exact .inr ⟨.inl (hko.trans hl), c, w, hc, hc', r.mono (fun zz zz e => e) still⟩
   ·rcases I.e.cel y u hy' with q' | ⟨q', c', w', g1, g2, g3⟩
    ·exact .inl q'
    ·exact .inr ⟨q', c', w', g1, g2.sameBut hs' (capart g1 (ne q)), g3.mono (fun zz zz e => e) still⟩
  ·obtain ⟨⟨w', g1⟩, g2, g3⟩ := I.e.cells y c' hy
   by_cases q : c' = c
   ·subst q; exact ⟨⟨_, hc'⟩, g2, g3⟩
   ·exact ⟨⟨w', g1.sameBut hs' q⟩, g2, g3⟩
noncomputable def setVar (x : String) (v : AV) : AM Unit := ⟨fun st => some ((), { st with env := put x v st.env }), fun Q st => Q () ⟨put x v st.env, st.hp⟩, fun h => ⟨(), _, rfl, h⟩, fun h k => k _ _ h⟩
noncomputable def bSet (x : String) (m : AM AV) : AM AFlow := do
 let v ← m
 setVar x v
 pure .next
theorem sims_set {x : String} {m : AM AV} {e : Expr} {p pos : Pos} (S : SimE G sc hd d m e) (hx : StoreOk sc x) (hs : autoParam (∀ env : Env, swapsWith e (some (.Name (Str.ofString x) p)) pos.line env = pure false) aR) : Sim1 G sc hd d (bSet x m) (.Assign [.Name (Str.ofString x) p] e pos) := by
 intro A outer env own μ st s fl st' hA hf I hm Q E h hE
 refine wpAny_Assign_Name (sim_bind2 S hA I hm fun v st₁ w s₁ μ₁ hm₁ x₁ I₁ r₁ => ?_) (hs env)
 cases hm₁
 exact store_is I₁ r₁ hx fun s₂ x₂ I₂ => h _ _ _ (I.trans x₁ x₂) I₂ .next
noncomputable def bSetX (x : String) (m : AM (Except String AV)) : AM AFlow := do
 let r ← m
 match r with
 | .ok v => do
  setVar x v
  pure .next
 | .error k => pure (.exc k)
theorem sims_setX {x : String} {m : AM (Except String AV)} {e : Expr} {p pos : Pos} (S : SimX G sc hd d m e) (hx : StoreOk sc x) (hs : autoParam (∀ env : Env, swapsWith e (some (.Name (Str.ofString x) p)) pos.line env = pure false) aR) : Sim1 G sc hd d (bSetX x m) (.Assign [.Name (Str.ofString x) p] e pos) := by
 intro A outer env own μ st s fl st' hA hf I hm Q E h hE
 obtain ⟨r, st₁, h1, h2⟩ := am_bind_some hm
 refine wpAny_Assign_Name (S A outer env own μ st s r st₁ hA hf I h1 _ _ (fun v w s₁ μ₁ e1 x₁ I₁ r₁ => ?_) fun e k s₁ μ₁ sf e1 x₁ I₁ F hs => ?_) (hs env)
 ·subst e1; cases h2
  exact store_is I₁ r₁ hx fun s₂ x₂ I₂ => h _ _ _ (I.trans x₁ x₂) I₂ .next
 ·subst e1; cases h2; exact hE _ _ _ _ _ rfl x₁ I₁ F hs
end
noncomputable def aftF (k : AM AFlow) (f : AFlow) : AM AFlow := f.casesOn k (pure .next) k (fun v => pure (.ret v)) fun k => pure (.exc k)
noncomputable def bWhileN (t : AM Bool) (b e : AM AFlow) : Nat → AM AFlow := Nat.rec AM.bad fun zz k => t >>= fun c => if c = true then b >>= aftF k else e
theorem bWhileN_succ (t : AM Bool) (b e : AM AFlow) (n : Nat) : bWhileN t b e (n + 1) = (t >>= fun c => if c = true then b >>= aftF (bWhileN t b e n) else e) := rfl
theorem bWhileN_mono {t : AM Bool} {b e : AM AFlow} : ∀ {n : Nat} {st : AS} {r : AFlow × AS}, bWhileN t b e n st = some r → bWhileN t b e (n + 1) st = some r
 | 0, _, _, h => by cases h
 | n + 1, st, r, h => by
  rw [bWhileN_succ] at h ⊢
  obtain ⟨c, s₁, h1, h2⟩ := am_bind_some (b := r.1) (s'' := r.2) h
  refine (AM.bindR_ok h1).trans ?_
  cases c with
  | false => exact h2
  | true =>
   rw [if_pos rfl] at h2 ⊢
   obtain ⟨f, s₂, h3, h4⟩ := am_bind_some h2
   refine (AM.bindR_ok h3).trans ?_
   cases f with
   | next => exact bWhileN_mono h4
   | cont => exact bWhileN_mono h4
   | brk => exact h4
   | ret v => exact h4
   | exc k => exact h4
theorem bWhileN_le {t : AM Bool} {b e : AM AFlow} {n m : Nat} {st : AS} {r : AFlow × AS} (h : bWhileN t b e n st = some r) (hnm : n ≤ m) : bWhileN t b e m st = some r := by
 induction hnm with
 | refl => exact h
 | step _ ih => exact bWhileN_mono ih
open Classical in
noncomputable def whileR (t : AM Bool) (b e : AM AFlow) (st : AS) : Option (AFlow × AS) := if h : ∃ n r, bWhileN t b e n st = some r then bWhileN t b e h.choose st else none
noncomputable def bWhile (t : AM Bool) (b e : AM AFlow) : AM AFlow := ⟨whileR t b e, fun Q st => ∃ a st', whileR t b e st = some (a, st') ∧ Q a st', id, fun h k => by
 obtain ⟨a, st', e, q⟩ := h
 exact ⟨a, st', e, k _ _ q⟩⟩
theorem bWhile_some {t : AM Bool} {b e : AM AFlow} {st : AS} {r : AFlow × AS} : bWhile t b e st = some r ↔ ∃ n, bWhileN t b e n st = some r := by
 constructor
 ·intro h
  change whileR t b e st = _ at h
  unfold whileR at h
  split at h
  ·exact ⟨_, h⟩
  ·cases h
 ·rintro ⟨n, hn⟩
  have hex : ∃ n r, bWhileN t b e n st = some r := ⟨n, r, hn⟩
  refine (dif_pos hex).trans ?_
  obtain ⟨r', hr'⟩ := hex.choose_spec
  have h1 := bWhileN_le hr' (Nat.le_max_left _ n)
  have h2 := bWhileN_le hn (Nat.le_max_right hex.choose n)
  rw [h2] at h1; cases h1
  exact hr'
section
variable {G : Glob} {sc : SC} {hd : Bool} {d : Nat}
theorem loop_back {A : Around} {outer : List Env} {env : Env} {own μ₀ μ : List Addr} {st₀ st : AS} {s₀ s : Shared} {e : Addr} {k : String} {sf : FlySt} {E : Value → Shared → Prop} (hA : A.frames = some (env :: outer)) (hf : env.frame = some env.locals)
  (I₀ : Inv G sc (env :: outer) env own μ₀ st₀ s₀) (x : XT own (env :: outer) μ₀ st₀ s₀ μ st s) (I : Inv G sc (env :: outer) env own μ st s) (F : Fly G μ s₀.heap e (excCls G k) s.heap sf) (hs : StOk env sf)
  (h : ∀ s', XT own (env :: outer) μ₀ st₀ s₀ μ st s' → Inv G sc (env :: outer) env own μ st s' → Fly G μ s₀.heap e (excCls G k) s'.heap (.out (rawInt env.locals)) → E (.ref e) s') :
  notedBy G.M A env (cameBackBy G.M A env E) (.ref e) s := by
 unfold notedBy
 refine note_step hA hf I.h x.alive F hs fun h' j F' => ?_
 have H' := I.h.junk I₀.h.base j
 refine back_step (Q := fun zz zz => True) hf H' F' fun h'' j' F'' => ?_
 have J := j.trans j'
 exact h _ (Ext.junk x I.h I.e.ownK I₀.h.len J) ⟨I.h.junk I₀.h.base J, I.e.junk I.h J⟩ F''
theorem sims_while {t : AM Bool} {m k : AM AFlow} {e : Expr} {b₁ b₂ : List Stmt} {pos : Pos} (S : SimT G sc hd d t e) (S₁ : SimB G sc hd d m b₁) (S₂ : SimB G sc hd d k b₂) : Sim1 G sc hd d (bWhile t m k) (.While e b₁ b₂ pos) := by
 intro A outer env own μ st s fl st' hA hf I hm Q E h hE
 obtain ⟨n, hn⟩ := bWhile_some.mp hm
 have fin : ∀ {μ₁ : List Addr} {st₁ : AS} {s₁ s₂ : Shared} {μ₂ : List Addr} {st₂ : AS} {ee : Addr} {kk : String} {sf : FlySt}, XT own (env :: outer) μ st s μ₁ st₁ s₁ → Inv G sc (env :: outer) env own μ₁ st₁ s₁ → fl = .exc kk → st₂ = st' → XT own (env :: outer) μ₁ st₁ s₁ μ₂ st₂ s₂ → Inv G sc (env :: outer) env own μ₂ st₂ s₂ → Fly G μ₂ s₁.heap ee (excCls G kk) s₂.heap sf → StOk env sf →
   notedBy G.M A env (cameBackBy G.M A env E) (.ref ee) s₂ := by
  intro μ₁ st₁ s₁ s₂ μ₂ st₂ ee kk sf x₁ I₁ e1 e2 x₂ I₂ F hs
  subst e2
  exact loop_back hA.frames hf I (I.trans x₁ x₂) I₂ (F.weaken x₁.alive) hs fun s₃ x₃ I₃ F₃ => hE _ _ _ _ _ e1 x₃ I₃ F₃ (.inr (.inr rfl))
 refine wpAny_While (codeAny_whileLoop (fun n s₁ => ∃ μ₁ st₁, XT own (env :: outer) μ st s μ₁ st₁ s₁ ∧ Inv G sc (env :: outer) env own μ₁ st₁ s₁ ∧ bWhileN t m k n st₁ = some (fl, st')) ?_ n ⟨μ, st, Ext.refl, I, hn⟩)
 rintro n s₁ zI2
 obtain ⟨μ₁, st₁, x₁, I₁, hn⟩ := zI2
 cases n with
 | zero => cases hn
 | succ n =>
  rw [bWhileN_succ] at hn
  refine sim_bind2 S hA I₁ hn fun c st₂ cb s₂ μ₂ hn₂ x₂ I₂ r₂ => ?_
  subst r₂
  cases c with
  | true =>
   simp only [if_true] at hn₂ ⊢
   obtain ⟨f, st₃, h3, h4⟩ := am_bind_some hn₂
   refine S₁ A outer env own μ₂ st₂ s₂ f st₃ hA hf I₂ h3 _ _ (fun f' s₃ μ₃ x₃ I₃ r₃ => ?_) fun ee kk s₃ μ₃ sf e1 x₃ I₃ F hs => ?_
   ·cases r₃ with
    | next => exact ⟨n, Nat.lt_succ_self _, μ₃, st₃, I.trans x₁ (I₁.trans x₂ x₃), I₃, h4⟩
    | cont => exact ⟨n, Nat.lt_succ_self _, μ₃, st₃, I.trans x₁ (I₁.trans x₂ x₃), I₃, h4⟩
    | brk => cases h4; exact h _ _ _ (I.trans x₁ (I₁.trans x₂ x₃)) I₃ .next
    | ret r => cases h4; exact h _ _ _ (I.trans x₁ (I₁.trans x₂ x₃)) I₃ (.ret r)
   ·subst e1
    cases h4
    exact fin (I.trans x₁ x₂) I₂ rfl rfl x₃ I₃ F hs
  | false =>
   simp only [Bool.false_eq_true, if_false] at hn₂ ⊢
   exact S₂ A outer env own μ₂ st₂ s₂ fl st' hA hf I₂ hn₂ _ _ (fun f' s₃ μ₃ x₃ I₃ r₃ => h _ _ _ (I.trans x₁ (I₁.trans x₂ x₃)) I₃ r₃) fun ee kk s₃ μ₃ sf e1 x₃ I₃ F hs => fin (I.trans x₁ x₂) I₂ e1 rfl x₃ I₃ F hs
structure WalkG (G : Glob) (A : Around) (tgt : Expr) (I : Addr) (fp wr jk : List Addr) (n : Nat) (P : Nat → Value → Heap → Heap → Prop) (St : Nat → Heap → Prop) : Prop where
 sub : ∀ b ∈ wr, b ∈ fp
 frame : ∀ i h h', St i h → (∀ b ∈ fp, ∀ o, h.get? b = some o → h'.get? b = some o) → St i h'
 item : ∀ i (s : Shared) (Q : Option Value → Shared → Prop) (E : Value → Shared → Prop), i < n → St i s.heap →
  (∀ v h' tk, (∀ b o, b ∉ wr → s.heap.get? b = some o → h'.get? b = some o) →
   (∀ (R : Unit → Shared → Prop) (E' : Value → Shared → Prop), (∀ h'', P i v s.heap h'' → St (i + 1) h'' → (∀ b o, b ∉ wr → h'.get? b = some o → h''.get? b = some o) → R () { s with heap := h'', toks := tk }) → wpAny G.M A (letOwnedTupleGo tgt (.ref I) v) R E' { s with heap := h', toks := tk }) →
   Q (some v) { s with heap := h', toks := tk }) → wpAny G.M A (pyNext (.ref I)) Q E s
 done : ∀ (s : Shared) (Q : Option Value → Shared → Prop) (E : Value → Shared → Prop), St n s.heap →
  (∀ h' tk, (∀ b o, b ∉ wr → s.heap.get? b = some o → h'.get? b = some o) → (∀ b ∈ jk, ∃ o, h'.get? b = some o) → Q none { s with heap := h', toks := tk }) → wpAny G.M A (pyNext (.ref I)) Q E s
 self : ∀ i (s : Shared) (Q : Value → Shared → Prop) (E : Value → Shared → Prop), St i s.heap → Q (.ref I) s → wpAny G.M A (pyIter (.ref I)) Q E s
theorem WalkG.ofWalksT {A : Around} {es : List Expr} {kk : Nat} {pos : Pos} {I : Addr} {fp wr : List Addr} {n : Nat} {Pt : Nat → Array Value → Prop} {St : Nat → Heap → Prop} {Mid : Nat → Addr → Heap → Prop} (W : WalksT G.prog G.w A I fp wr n Pt St Mid) :
  WalkG G A (.Tuple es kk pos) I fp wr [] n (fun i v h₁ h => ∃ T vals, v = .ref T ∧ h₁.get? T = none ∧ h.IsTuple T vals ∧ Pt i vals) St where
 sub := W.sub
 frame := W.frame
 item := fun i s Q E hi st hQ => W.item i s Q E hi st fun T vals h' tk hP hsz hT hm hk => hQ (.ref T) h' tk hk fun R E' hR => W.go es kk pos i T _ R E' hm fun h'' hst hk' =>
  hR h'' ⟨T, vals, rfl, Heap.get?_none_of_le hsz, (by obtain ⟨o, ho, r⟩ := hT; exact ⟨o, hk' _ _ (W.apart i T h' hm) ho, r⟩), hP⟩ hst hk'
 done := fun s Q E hst hQ => W.done s Q E hst fun h' tk hk => hQ h' tk hk (by simp)
 self := W.self
end
section
variable {G : Glob} {A : Around}
theorem forLoop_G {R : Result → Shared → Prop} {target : Expr} {it : Value} {body : List Stmt} {env : Env} (I : Nat → Shared → Prop) {s : Shared}
  (turn : ∀ n s, I n s → wpAny G.M A (pyNext it) (fun r s₁ => match r with
   | none => R (.ok .next) s₁
   | some v => wpAny G.M A (letOwnedTupleGo target it v) (fun zz s₂ => wpAny G.M A (assign target env v) (fun zz s₂ => wpAny G.M A (execs body env) (fun f s₃ => match f with
     | .next | .cont => ∃ m, m < n ∧ I m s₃
     | .brk => R (.ok .next) s₃
     | .ret v => R (.ok (.ret v)) s₃) (notedBy G.M A env fun e s' => R (.error e) s') s₂) (fun zz zz => False) s₂) (fun zz zz => False) s₁) (fun zz zz => False) s)
  (n : Nat) (h : I n s) : codeAny G.M A (.forLoop target it body [] env) R s := by
 refine codeAny_loop' rfl I (fun n s hI => ?_) n h
 show wpAny _ _ ((forTurn target it body [] env).onRaise (fun x => do noteFrame x env; theTreesLotGoes x)) _ _ s
 refine wpAny_noted ?_
 simp only [forTurn]
 refine wpAny_bind (wpAny_standAt (wpAny_bind (wpAny_onRaise (wpAny_mono (turn n s hI) (fun r s₁ h₁ => ?_) fun zz zz h' => h'.elim))))
 cases r with
 | none => exact wpAny_pure (.inr ⟨rfl, codeAny_block (wpAny_execs_nil h₁)⟩)
 | some v =>
  refine wpAny_bind (wpAny_mono h₁ (fun zz s₂ h₂ => ?_) fun zz zz h' => h'.elim)
  refine wpAny_bind (wpAny_mono h₂ (fun zz s₂ h₂ => wpAny_bind (wpAny_mono h₂ (fun f s₃ h₃ => ?_) fun zz zz h' => h')) fun zz zz h' => h'.elim)
  cases f with
  | next => exact wpAny_pure (.inl ⟨rfl, h₃⟩)
  | cont => exact wpAny_pure (.inl ⟨rfl, h₃⟩)
  | brk => exact wpAny_pure h₃
  | ret v => exact wpAny_pure h₃
end
structure AIt where
 gs : List (Nat × (AObj × Nat))
 items : List AV
noncomputable def IsJunk (ai : AIt) (μ : List Addr) (b : Addr) : Prop := ∃ g ∈ ai.gs, g.2 = (AObj.junk, 0) ∧ μ[g.1]? = some b
structure ItOk (G : Glob) (A : Around) (tgt : Expr) (μ : List Addr) (hp : AH) (lo : Heap) (s : Shared) (ai : AIt) (I : Addr) (fp wr jk : List Addr) (P : Nat → Value → Heap → Heap → Prop) (St : Nat → Heap → Prop) (xs : List AV) (vs : List Value) : Prop where
 walk : WalkG G A tgt I fp wr jk ai.items.length P St
 st0 : St 0 s.heap
 gsp : ∀ g ∈ ai.gs, hp[g.1]? = some g.2
 fpp : ∀ b ∈ fp, (∃ g ∈ ai.gs, μ[g.1]? = some b) ∨ (b ∉ μ ∧ ∃ o, s.heap.get? b = some o ∧ (¬ LocK o ∨ (G.h₀.get? b).isSome = true))
 wrp : ∀ b ∈ wr, lo.get? b = none ∧ G.h₀.get? b = none ∧ (IsJunk ai μ b ∨ b ∉ μ)
 kind : ∀ i h, St i h → ∀ b ∈ wr, (b ∈ jk → ∃ o, h.get? b = some o) ∧ (IsJunk ai μ b ∨ ∃ o fs, h.get? b = some o ∧ o.data = .fields fs)
 jkp : ∀ b ∈ wr, IsJunk ai μ b → b ∈ jk
 jkw : ∀ b ∈ jk, b ∈ wr
 vals : VRs G μ s.heap xs vs
 item : ∀ i v h₁ h μ', i < ai.items.length → P i v h₁ h → VRs G μ' h xs vs → (∀ a ∈ μ', ∃ o, h₁.get? a = some o) → ∃ x, ai.items[i]? = some x ∧ VR G μ' h x v
noncomputable def Priv (ai : AIt) (fp μ μ₁ : List Addr) (s₁ : Shared) : Prop := ∀ b ∈ fp, (∃ g ∈ ai.gs, μ[g.1]? = some b) ∨ (b ∉ μ₁ ∧ ∃ o, s₁.heap.get? b = some o)
section
variable {G : Glob} {sc : SC} {hd : Bool} {d : Nat}
theorem ItOk.apart {A : Around} {tgt : Expr} {fr : List Env} {μ : List Addr} {hp : AH} {lo : Heap} {s : Shared} {ai : AIt} {I : Addr} {fp wr jk : List Addr} {P : Nat → Value → Heap → Heap → Prop} {St : Nat → Heap → Prop} {xs : List AV} {vs : List Value}
  (O : ItOk G A tgt μ hp lo s ai I fp wr jk P St xs vs) (H : HInv G fr μ hp s) {b : Addr} (hb : b ∈ fp) : (∀ o, b ∉ μ → G.h₀.get? b = none → s.heap.get? b = some o → LocK o → False) ∧ b ∉ frA fr := by
 have h1 : ∀ o, b ∉ μ → G.h₀.get? b = none → s.heap.get? b = some o → LocK o → False := fun o hm hg ho hl => by
  rcases O.fpp b hb with ⟨g, _, q⟩ | ⟨_, o', q1, q2⟩
  ·exact hm (List.mem_of_getElem? q)
  ·rw [ho] at q1; cases q1
   rcases q2 with q | q
   ·exact q hl
   ·rw [hg] at q; cases q
 refine ⟨h1, fun hm => ?_⟩
 obtain ⟨e, he, hf⟩ := List.mem_filterMap.mp hm
 obtain ⟨_, L, o, hL, ho, hd, hn, hg⟩ := H.frs e he
 rw [hf] at hL; cases hL
 exact h1 o hn hg ho (.inl hd)
noncomputable def KeptF (μ : List Addr) (h h' : Heap) : Prop := ∀ b o, h.get? b = some o → (∀ fs, o.data ≠ .fields fs) → b ∉ μ → h'.get? b = some o
theorem KeptF.still {μ : List Addr} {h h' : Heap} (k : KeptF μ h h') : Still μ μ h h' := fun a o ha _ ⟨vs, n, hd⟩ hm => ⟨hm, k a o ha (fun fs q => by rw [hd] at q; cases q) hm⟩
theorem EInv.kept {env : Env} {own μ : List Addr} {ρ : List (String × AV)} {s s' : Shared} (e : EInv G sc env own μ ρ s) (k : KeptF μ s.heap s'.heap) : EInv G sc env own μ ρ s' where
 ok := e.ok
 ownp := fun a ha => by
  obtain ⟨h1, h2, o, ho, hkk⟩ := e.ownp a ha
  exact ⟨h1, h2, o, k a o ho (fun fs => hkk.noFields) h1, hkk⟩
 lown := e.lown
 loc := by
  obtain ⟨m, hn, hm⟩ := e.loc
  refine ⟨m, hn.at' fun o ho => ?_, fun y v hy hkk => ?_⟩
  ·obtain ⟨h1, h2, o', ho', hkk⟩ := e.ownp _ e.lown
   rw [ho] at ho'; cases ho'
   exact k _ o ho (fun fs => hkk.noFields) h1
  ·obtain ⟨w, g1, g2⟩ := hm y v hy hkk
   exact ⟨w, g1, g2.mono (fun zz zz e => e) k.still⟩
 cel := fun y v hy => by
  rcases e.cel y v hy with q | ⟨q, c, w, g1, g2, g3⟩
  ·exact .inl q
  ·obtain ⟨o, ho, hdd⟩ := id g2
   exact .inr ⟨q, c, w, g1, ⟨o, k c o ho (fun fs q => by rw [hdd] at q; cases q) (e.cells _ _ g1).2.1, hdd⟩, g3.mono (fun zz zz e => e) k.still⟩
 cells := fun y c hy => by
  obtain ⟨⟨w, g1⟩, g2, g3⟩ := e.cells y c hy
  obtain ⟨o, ho, hdd⟩ := id g1
  exact ⟨⟨w, o, k c o ho (fun fs q => by rw [hdd] at q; cases q) g2, hdd⟩, g2, g3⟩
 cown := e.cown
 cnot := e.cnot
theorem priv_step {A : Around} {tgt : Expr} {fr : List Env} {env : Env} {own own₂ μ₀ μ μ₁ : List Addr} {st st₁ : AS} {hp₀ hpI : AH} {s₀ s s₁ : Shared} {ai : AIt} {I : Addr} {fp wr jk : List Addr} {P : Nat → Value → Heap → Heap → Prop} {St : Nat → Heap → Prop} {xs : List AV} {vs : List Value} {i : Nat}
  (O : ItOk G A tgt μ hpI s₀.heap s ai I fp wr jk P St xs vs) (hfp : ∀ b ∈ fp, b ∉ frA fr) (H₀ : HInv G fr μ₀ hp₀ s₀) (x₀ : Ext own₂ fr μ₀ hp₀ s₀ μ₁ st₁.hp s₁) (hμ : ∀ (n : Nat) (a : Addr), μ[n]? = some a → μ₁[n]? = some a) (hp : Priv ai fp μ μ₁ s₁) (I₁ : Inv G sc fr env own μ₁ st₁ s₁)
  (hg : ∀ g ∈ ai.gs, st₁.hp[g.1]? = some g.2) (hst : St i s₁.heap) {h' : Heap} {tk : Nat} (hk : ∀ b o, b ∉ wr → s₁.heap.get? b = some o → h'.get? b = some o) (hal : ∀ b ∈ jk, ∃ o, h'.get? b = some o) :
  Ext own₂ fr μ₀ hp₀ s₀ μ₁ st₁.hp { s₁ with heap := h', toks := tk } ∧ Inv G sc fr env own μ₁ st₁ { s₁ with heap := h', toks := tk } ∧ KeptF μ₁ s₁.heap h' := by
 have junk₁ : ∀ {b : Addr}, IsJunk ai μ b → b ∈ μ₁ := fun ⟨g, _, _, hj⟩ => List.mem_of_getElem? (hμ _ _ hj)
 have inμ : ∀ {b : Addr}, b ∈ wr → b ∈ μ₁ → IsJunk ai μ b := fun {b} hw hm => by
  rcases hp b (O.walk.sub b hw) with ⟨g, hg, e⟩ | ⟨q, _⟩
  ·rcases (O.wrp b hw).2.2 with q | q
   ·exact q
   ·exact absurd (List.mem_of_getElem? e) q
  ·exact absurd hm q
 have kept : KeptF μ₁ s₁.heap h' := fun b o ho hd hm => by
  refine hk b o (fun hw => ?_) ho
  rcases (O.kind i _ hst _ hw).2 with q | ⟨o', fs, q1, q2⟩
  ·exact hm (junk₁ q)
  ·rw [ho] at q1; cases q1; exact hd _ q2
 have still := kept.still
 have H' : HInv G fr μ₁ st₁.hp { s₁ with heap := h', toks := tk } := by
  refine ⟨fun b o e => ?_, I₁.h.len, I₁.h.nod, fun n c a hc ha => ?_, I₁.h.low, fun e he => ?_⟩
  ·exact hk b o (fun hw => by have := (O.wrp b hw).2.1; rw [e] at this; cases this) (I₁.h.base b o e)
  ·by_cases hw : a ∈ wr
   ·obtain ⟨g, hgm, hgj, hga⟩ := inμ hw (List.mem_of_getElem? ha)
    have := I₁.h.inj ha (hμ _ _ hga)
    subst this
    have h2 := hg g hgm
    rw [hc] at h2; cases h2
    obtain ⟨o, ho⟩ := hal a (O.jkp a hw ⟨g, hgm, hgj, hga⟩)
    rw [hgj]
    exact ⟨o, ho, .junk (Heap.get?_some_iff.mp ho).2⟩
   ·obtain ⟨o, h1, h2⟩ := I₁.h.obj n c a hc ha
    exact ⟨o, hk a o hw h1, h2.mono (fun zz zz e => e) still⟩
  ·obtain ⟨k, L, o, h1, h2, h3, h4, h5⟩ := I₁.h.frs e he
   refine ⟨k, L, o, h1, hk L o (fun hw => ?_) h2, h3, h4, h5⟩
   exact hfp _ (O.walk.sub _ hw) (List.mem_filterMap.mpr ⟨e, he, h1⟩)
 refine ⟨⟨x₀.pre, ?_, fun b o h => ?_, fun b o h hm ho => ?_, fun n c hc => ?_⟩, ⟨H', I₁.e.kept kept⟩, kept⟩
 ·obtain ⟨h1, t1, e⟩ := x₀.same
  exact ⟨h', tk, by rw [e]⟩
 ·obtain ⟨o', h1⟩ := x₀.alive b o h
  exact ⟨o', hk b o' (fun hw => by have := (O.wrp b hw).1; rw [h] at this; cases this) h1⟩
 ·obtain ⟨sl, h1, h2⟩ := x₀.keep b o h hm ho
  exact ⟨sl, hk b _ (fun hw => by have := (O.wrp b hw).1; rw [h] at this; cases this) h1, h2⟩
 ·obtain ⟨c', h1, h2, h3⟩ := x₀.vers n c hc
  refine ⟨c', h1, h2, fun e => ?_⟩
  obtain ⟨r, k⟩ := h3 e
  refine ⟨r, fun a ha => ?_⟩
  obtain ⟨o, ho, _⟩ := H₀.obj n c a hc ha
  have hw : a ∉ wr := fun hw => by have := (O.wrp a hw).1; rw [ho] at this; cases this
  obtain ⟨o₁, ho₁, _⟩ := I₁.h.obj n c' a h1 (x₀.mu ha)
  rw [show ({ s₁ with heap := h', toks := tk } : Shared).heap.get? a = some o₁ from hk a o₁ hw ho₁, ← ho₁]; exact k a ha
noncomputable def SimTgt (G : Glob) (sc : SC) (d : Nat) (f : AV → AM Unit) (tgt : Expr) : Prop :=
 ∀ (A : Around) (fr : List Env) (env : Env) (own μ : List Addr) (st : AS) (s : Shared) (x : AV) (v : Value) (st' : AS), AOk A fr true d → Inv G sc fr env own μ st s → VR G μ s.heap x v → f x st = some ((), st') →
  ∀ (Q : Unit → Shared → Prop) (E : Value → Shared → Prop), (∀ s' μ', XT own fr μ st s μ' st' s' → Inv G sc fr env own μ' st' s' → Q () s') → wpAny G.M A (assign tgt env v) Q E s
theorem tgt_name {x : String} {p : Pos} (hx : StoreOk sc x) : SimTgt G sc d (fun v => setVar x v) (.Name (Str.ofString x) p) := by
 intro A fr env own μ st s y v st' hA I r hm Q E h
 cases hm
 exact wpAny_assign_Name (store_is I r hx fun s' x' I' => h s' μ x' I')
noncomputable def setVars : List String → List AV → AM Unit
 | [], [] => pure ()
 | x :: xs, v :: vs => do
  setVar x v
  setVars xs vs
 | _, _ => AM.bad
noncomputable def tgtNames (xs : List String) (v : AV) : AM Unit := match v with
 | .tup ys => setVars xs ys
 | _ => AM.bad
theorem setVars_length : ∀ {xs : List String} {ys : List AV} {st st' : AS}, setVars xs ys st = some ((), st') → xs.length = ys.length
 | [], [], _, _, _ => rfl
 | [], _ :: _, _, _, h => by cases h
 | _ :: _, [], _, _, h => by cases h
 | x :: xs, y :: ys, st, st', h => by
  obtain ⟨u, s₁, h1, h2⟩ := am_bind_some h
  rw [List.length_cons, List.length_cons, setVars_length h2]
theorem names_in_order {A : Around} {fr : List Env} {env : Env} {own : List Addr} {Q : Unit → Shared → Prop} {E : Value → Shared → Prop} : ∀ (xs : List String) (ps : List Pos) (ys : List AV) (vs : List Value) (μ : List Addr) (st st' : AS) (s : Shared), xs.length = ps.length → (∀ x ∈ xs, StoreOk sc x) → Inv G sc fr env own μ st s → VRs G μ s.heap ys vs → setVars xs ys st = some ((), st') →
  (∀ s' μ', XT own fr μ st s μ' st' s' → Inv G sc fr env own μ' st' s' → Q () s') → wpAny G.M A (assignInOrder ((assignEach ((xs.zip ps).map fun q => Expr.Name (Str.ofString q.1) q.2) env).map (·.2)) vs) Q E s := by
 intro xs
 induction xs with
 | nil =>
  intro ps ys vs μ st st' s hl hx I rs hm h
  cases ys with
  | cons => cases hm
  | nil => cases hm; cases rs; exact wpAny_pure (h _ _ Ext.refl I)
 | cons x xs ih =>
  intro ps ys vs μ st st' s hl hx I rs hm h
  cases ps with
  | nil => cases hl
  | cons p ps =>
  cases ys with
  | nil => cases hm
  | cons y ys =>
   cases rs with
   | cons r rs =>
    obtain ⟨u, st₁, h1, h2⟩ := am_bind_some hm
    cases h1
    show wpAny G.M A (holding _ (assign (Expr.Name (Str.ofString x) p) env _) >>= fun zz => assignInOrder ((assignEach ((xs.zip ps).map fun q => Expr.Name (Str.ofString q.1) q.2) env).map (·.2)) _) Q E s
    refine wpAny_bind (wpAny_holding (wpAny_assign_Name (store_is I r (hx x List.mem_cons_self) fun s₁ x₁ I₁ => ?_)))
    exact ih ps ys _ μ _ st' s₁ (by simpa using hl) (fun z hz => hx z (List.mem_cons_of_mem _ hz)) I₁ (I.vrs x₁ rs) h2 fun s' μ' x' I' => h s' μ' (I.trans x₁ x') I'
theorem assignEach_names (xs : List String) (ps : List Pos) (env : Env) : ∀ (l : List (String × Pos)), (assignEach (l.map fun q => Expr.Name (Str.ofString q.1) q.2) env).findIdx? (·.1) = none ∧ (assignEach (l.map fun q => Expr.Name (Str.ofString q.1) q.2) env).length = l.length
 | [] => ⟨rfl, rfl⟩
 | q :: r => by
  obtain ⟨h1, h2⟩ := assignEach_names xs ps env r
  refine ⟨?_, ?_⟩
  ·show ((false, _) :: assignEach (r.map fun q => Expr.Name (Str.ofString q.1) q.2) env).findIdx? (·.1) = none
   rw [List.findIdx?_cons]
   simp only [Bool.false_eq_true, if_false, Option.map_eq_none_iff]
   exact h1
  ·show ((false, _) :: assignEach (r.map fun q => Expr.Name (Str.ofString q.1) q.2) env).length = _
   rw [List.length_cons, List.length_cons, h2]
theorem tgt_names {xs : List String} {ps : List Pos} {es : List Expr} {kk : Nat} {p : Pos} (hx : ∀ x ∈ xs, StoreOk sc x) (he : es = (xs.zip ps).map fun q => Expr.Name (Str.ofString q.1) q.2) (hl : xs.length = ps.length) : SimTgt G sc d (tgtNames xs) (.Tuple es kk p) := by
 subst he
 intro A fr env own μ st s y v st' hA I r hm Q E h
 unfold tgtNames at hm
 cases r with
 | tup h1 h2 h3 h4 rs =>
  rename_i ys vs a o n
  dsimp only at hm
  rw [arm_assign_Tuple]
  refine wpAny_bind (wpAny_standAt ?_)
  have hlen := setVars_length hm
  obtain ⟨e1, e2⟩ := assignEach_names xs ps env (xs.zip ps)
  refine wpAny_unpack_tuple (hA.hnd rfl) ⟨o, h1, h2, n, h3⟩ ?_ e1 fun h' hk => ?_
  ·rw [e2, List.length_zip, ← hl, Nat.min_self, List.size_toArray, hlen, rs.length]
  ·have hn := I.h.grow (h' := h') (tk := s.toks) fun b o e => hk b o (Nat.ne_of_lt (Heap.lt_size e)) e
   have I' := I.heap hn.2 hn.1
   refine names_in_order xs ps ys vs μ st st' _ hl hx I' (I.vrs hn.2.weaken rs) hm fun s' μ' x' I'' => h s' μ' (I.trans hn.2.weaken x') I''
 | _ => cases hm
end
open Classical in
noncomputable def guard (gs : List (Nat × (AObj × Nat))) : AM Unit := ⟨fun st => if ∀ g ∈ gs, st.hp[g.1]? = some g.2 then some ((), st) else none, fun Q st => (∀ g ∈ gs, st.hp[g.1]? = some g.2) ∧ Q () st, fun h => ⟨(), _, if_pos h.1, h.2⟩, fun h k => ⟨h.1, k _ _ h.2⟩⟩
theorem guard_some {gs : List (Nat × (AObj × Nat))} {st st' : AS} {u : Unit} (h : guard gs st = some (u, st')) : st' = st ∧ ∀ g ∈ gs, st.hp[g.1]? = some g.2 := by
 dsimp only [guard] at h
 split at h
 ·rename_i q; cases h; exact ⟨rfl, q⟩
 ·cases h
noncomputable def forLoop (gs : List (Nat × (AObj × Nat))) (tgt : AV → AM Unit) (body : AM AFlow) : List AV → AM AFlow :=
 List.rec (do guard gs; pure .next) fun x zz k => do
  guard gs
  tgt x
  let f ← body
  aftF k f
theorem forLoop_nil (gs : List (Nat × (AObj × Nat))) (tgt : AV → AM Unit) (body : AM AFlow) : forLoop gs tgt body [] = (do guard gs; pure .next) := rfl
theorem forLoop_cons (gs : List (Nat × (AObj × Nat))) (tgt : AV → AM Unit) (body : AM AFlow) (x : AV) (xs : List AV) : forLoop gs tgt body (x :: xs) = (do guard gs; tgt x; let f ← body; aftF (forLoop gs tgt body xs) f) := rfl
noncomputable def bFor (it : AM AIt) (tgt : AV → AM Unit) (body : AM AFlow) : AM AFlow := do
 let ai ← it
 forLoop ai.gs tgt body ai.items
section
variable {G : Glob} {sc : SC} {hd : Bool} {d : Nat}
noncomputable def SimI (G : Glob) (sc : SC) (d : Nat) (tgt : Expr) (m : AM AIt) (e : Expr) : Prop :=
 ∀ (A : Around) (fr : List Env) (env : Env) (own μ : List Addr) (st : AS) (s : Shared) (ai : AIt) (st' : AS), AOk A fr true d → Inv G sc fr env own μ st s → m st = some (ai, st') →
  ∀ (Q : Value → Shared → Prop) (E : Value → Shared → Prop),
   (∀ I s' μ' fp wr jk P St xs vs, XT own fr μ st s μ' st' s' → Inv G sc fr env own μ' st' s' → ItOk G A tgt μ' st'.hp s.heap s' ai I fp wr jk P St xs vs → Q (.ref I) s') →
   wpAny G.M A (eval e env) (fun x s₁ => wpAny G.M A (pyIter x) Q E s₁) E s
noncomputable def TgtPure (f : AV → AM Unit) : Prop := ∀ x st st', f x st = some ((), st') → st'.hp = st.hp
theorem tgtPure_name {x : String} : TgtPure fun v => setVar x v := by
 intro v st st' h; cases h; rfl
theorem tgtPure_names {xs : List String} : TgtPure (tgtNames xs) := by
 have go : ∀ (xs : List String) (ys : List AV) (st st' : AS), setVars xs ys st = some ((), st') → st'.hp = st.hp := by
  intro xs
  induction xs with
  | nil => intro ys st st' h; cases ys with
   | nil => cases h; rfl
   | cons => cases h
  | cons x xs ih => intro ys st st' h; cases ys with
   | nil => cases h
   | cons y ys =>
    obtain ⟨u, s₁, h1, h2⟩ := am_bind_some h
    cases h1
    exact (ih ys _ _ h2).trans rfl
 intro v st st' h
 unfold tgtNames at h
 split at h
 ·exact go _ _ _ _ h
 ·cases h
theorem st_kept {A : Around} {tgt : Expr} {fr : List Env} {own μ μ₁ μ₂ : List Addr} {hp : AH} {st₁ st₂ : AS} {lo : Heap} {s s₁ s₂ : Shared} {ai : AIt} {I : Addr} {fp wr jk : List Addr} {P : Nat → Value → Heap → Heap → Prop} {St : Nat → Heap → Prop} {xs : List AV} {vs : List Value} {i : Nat}
  (O : ItOk G A tgt μ hp lo s ai I fp wr jk P St xs vs) (hfp : ∀ b ∈ fp, b ∉ own ∧ b ∉ frA fr) (hμ : ∀ (n : Nat) (a : Addr), μ[n]? = some a → μ₁[n]? = some a) (hp₁ : Priv ai fp μ μ₁ s₁) (x : Ext own fr μ₁ st₁.hp s₁ μ₂ st₂.hp s₂)
  (hg₁ : ∀ g ∈ ai.gs, st₁.hp[g.1]? = some g.2) (hg₂ : ∀ g ∈ ai.gs, st₂.hp[g.1]? = some g.2) (hst : St i s₁.heap) : St i s₂.heap := by
 refine O.walk.frame i _ _ hst fun b hb o ho => ?_
 obtain ⟨h1, h2⟩ := hfp b hb
 rcases hp₁ b hb with ⟨g, hgm, e⟩ | ⟨q, _⟩
 ·obtain ⟨c', g1, g2, g3⟩ := x.vers g.1 g.2 (hg₁ g hgm)
  rw [hg₂ g hgm] at g1; cases g1
  rw [(g3 rfl).2 b (hμ _ _ e)]; exact ho
 ·obtain ⟨sl, k1, k2⟩ := x.keep b o ho q h1
  rw [k2 h2] at k1; exact k1
theorem Priv.ext {ai : AIt} {fr : List Env} {own fp μ μ₁ μ₂ : List Addr} {st₁ st₂ : AS} {s₁ s₂ : Shared} (p : Priv ai fp μ μ₁ s₁) (x : Ext own fr μ₁ st₁.hp s₁ μ₂ st₂.hp s₂) : Priv ai fp μ μ₂ s₂ := fun b hb => by
 rcases p b hb with q | ⟨q, o, ho⟩
 ·exact .inl q
 ·exact .inr ⟨x.mem ho q, x.alive b o ho⟩
theorem sims_for {it : AM AIt} {f : AV → AM Unit} {m : AM AFlow} {tgt e : Expr} {body : List Stmt} {pos : Pos} (SI : SimI G sc d tgt it e) (ST : SimTgt G sc d f tgt) (hT : TgtPure f) (SB : SimB G sc true d m body)
  (hfs : autoParam (∀ (env : Env) (x : Value), foldedSetIterable e env x = pure x) aR) : Sim1 G sc true d (bFor it f m) (.For tgt e body [] pos) := by
 intro A outer env own μ st s fl st' hA hf I hm Q E h hE
 refine Mine.hold fun gL bk => ?_
 obtain ⟨ai, st₀, h1, h2⟩ := am_bind_some hm
 refine bk ?_; clear bk gL
 refine wpAny_For (SI A (env :: outer) env own μ st s ai st₀ hA I h1 _ _ fun Ia s₀ μ₀ fp wr jk P St xs vs x₀ I₀ O => ?_) (hfs env)
 have hfp : ∀ b ∈ fp, b ∉ own ∧ b ∉ frA (env :: outer) := fun b hb => ⟨fun hm => by
  obtain ⟨g1, g2, o, g3, g4⟩ := I₀.e.ownp b hm
  exact (O.apart I₀.h hb).1 o g1 g2 g3 g4, (O.apart I₀.h hb).2⟩
 have hfp' : ∀ b ∈ fp, b ∉ frA (env :: outer) := fun b hb => (hfp b hb).2
 have fin : ∀ {μ₁ : List Addr} {st₁ : AS} {s₁ s₂ : Shared} {μ₂ : List Addr} {ee : Addr} {kk : String} {sf : FlySt}, XT own (env :: outer) μ st s μ₁ st₁ s₁ → fl = .exc kk → XT own (env :: outer) μ₁ st₁ s₁ μ₂ st' s₂ → Inv G sc (env :: outer) env own μ₂ st' s₂ → Fly G μ₂ s₁.heap ee (excCls G kk) s₂.heap sf → StOk env sf →
   notedBy G.M A env (cameBackBy G.M A env E) (.ref ee) s₂ := by
  intro μ₁ st₁ s₁ s₂ μ₂ ee kk sf x₁ e1 x₂ I₂ F hs
  exact loop_back hA.frames hf I (I.trans x₁ x₂) I₂ (F.weaken x₁.alive) hs fun s₃ x₃ I₃ F₃ => hE _ _ _ _ _ e1 x₃ I₃ F₃ (.inr (.inr rfl))
 refine forLoop_G (fun k s₁ => ∃ i μ₁ st₁, k + i = ai.items.length + 1 ∧ i ≤ ai.items.length ∧ XT own (env :: outer) μ st s μ₁ st₁ s₁ ∧ Inv G sc (env :: outer) env own μ₁ st₁ s₁ ∧ (∀ (n : Nat) (a : Addr), μ₀[n]? = some a → μ₁[n]? = some a) ∧ Priv ai fp μ₀ μ₁ s₁ ∧
  ((∀ g ∈ ai.gs, st₁.hp[g.1]? = some g.2) → St i s₁.heap) ∧ VRs G μ₁ s₁.heap xs vs ∧ forLoop ai.gs f m (ai.items.drop i) st₁ = some (fl, st')) ?_ (ai.items.length + 1)
  ⟨0, μ₀, st₀, by omega, Nat.zero_le _, x₀, I₀, fun zz zz e => e, fun b hb => (O.fpp b hb).imp id fun q => ⟨q.1, q.2.choose, q.2.choose_spec.1⟩, fun zz => O.st0, O.vals, by simpa using h2⟩
 rintro k s₁ zI2
 refine Mine.hold fun gL bk => ?_
 obtain ⟨i, μ₁, st₁, hk, hi, x₁, I₁, hμ, hp₁, hSt, hvs, hrun⟩ := zI2
 refine bk ?_; clear bk gL
 by_cases hlt : i < ai.items.length
 ·rw [List.drop_eq_getElem_cons hlt] at hrun
  rw [forLoop_cons] at hrun
  refine Mine.hold fun gL bk => ?_
  obtain ⟨u, sg, hgd, hrun1⟩ := am_bind_some hrun
  obtain ⟨eg, hg⟩ := guard_some hgd
  rw [eg] at hrun1
  obtain ⟨u', st₂, htg, hrun2⟩ := am_bind_some hrun1
  refine bk ?_; clear bk gL
  refine O.walk.item i s₁ _ _ hlt (hSt hg) fun v h' tk hk1 hgo => ?_
  refine hgo _ _ fun h'' hP hst hk2 => ?_
  have hkk : ∀ b o, b ∉ wr → s₁.heap.get? b = some o → h''.get? b = some o := fun b o hb e => hk2 b o hb (hk1 b o hb e)
  refine Mine.hold fun gL bk => ?_
  obtain ⟨x₂, I₂, kept⟩ := priv_step (st := st) (tk := tk) O hfp' I.h x₁ hμ hp₁ I₁ hg (hSt hg) hkk fun b hb => (O.kind _ _ hst b (O.jkw b hb)).1 hb
  have hp₂ : Priv ai fp μ₀ μ₁ { s₁ with heap := h'', toks := tk } := fun b hb => by
   rcases hp₁ b hb with q | ⟨q, o, ho⟩
   ·exact .inl q
   ·by_cases hw : b ∈ wr
    ·rcases (O.kind _ _ hst b hw).2 with ⟨g, hgm, _, e⟩ | ⟨o', fs, e, _⟩
     ·exact .inl ⟨g, hgm, e⟩
     ·exact .inr ⟨q, o', e⟩
    ·exact .inr ⟨q, o, hkk b o hw ho⟩
  have hvs₂ : VRs G μ₁ h'' xs vs := hvs.mono (fun zz zz e => e) kept.still
  obtain ⟨y, hy, hr⟩ := O.item i v s₁.heap h'' μ₁ hlt hP hvs₂ fun a ha => by
   obtain ⟨n, hn⟩ := List.getElem?_of_mem ha
   have hl := (List.getElem?_eq_some_iff.mp hn).1
   rw [I₁.h.len] at hl
   obtain ⟨o, ho, _⟩ := I₁.h.obj n _ a (List.getElem?_eq_getElem hl) hn
   exact ⟨o, ho⟩
  rw [List.getElem?_eq_getElem hlt] at hy
  cases hy
  refine bk ?_; clear bk gL
  refine ST A (env :: outer) env own μ₁ st₁ _ _ v st₂ hA I₂ hr htg _ _ fun s₃ μ₃ x₃ I₃ => ?_
  have hhp := hT _ _ _ htg
  refine Mine.hold fun gL bk => ?_
  obtain ⟨fb, st₄, hb, hrun3⟩ := am_bind_some hrun2
  refine bk ?_; clear bk gL
  have hst₃ : St (i + 1) s₃.heap := st_kept O hfp hμ hp₂ x₃ hg (by rw [hhp]; exact hg) hst
  refine SB A outer env own μ₃ st₂ s₃ fb st₄ hA hf I₃ hb _ _ (fun f' s₄ μ₄ x₄ I₄ r₄ => ?_) fun ee kk s₄ μ₄ sf e1 x₄ I₄ F hs => ?_
  ·have X := I.trans x₂ (I₂.trans x₃ x₄)
   have again : forLoop ai.gs f m (ai.items.drop (i + 1)) st₄ = some (fl, st') → ∃ m_1, m_1 < k ∧ ∃ i μ₁ st₁, m_1 + i = ai.items.length + 1 ∧ i ≤ ai.items.length ∧ XT own (env :: outer) μ st s μ₁ st₁ s₄ ∧ Inv G sc (env :: outer) env own μ₁ st₁ s₄ ∧ (∀ (n : Nat) (a : Addr), μ₀[n]? = some a → μ₁[n]? = some a) ∧ Priv ai fp μ₀ μ₁ s₄ ∧
     ((∀ g ∈ ai.gs, st₁.hp[g.1]? = some g.2) → St i s₄.heap) ∧ VRs G μ₁ s₄.heap xs vs ∧ forLoop ai.gs f m (ai.items.drop i) st₁ = some (fl, st') := fun hr' => by
    have hp₃ := hp₂.ext x₃
    exact ⟨k - 1, by omega, i + 1, μ₄, st₄, by omega, hlt, X, I₄, fun n a e => x₄.mu (x₃.mu (hμ n a e)), hp₃.ext x₄, fun hg₄ => st_kept O hfp (fun n a e => x₃.mu (hμ n a e)) hp₃ x₄ (by rw [hhp]; exact hg) hg₄ hst₃, I₃.vrs x₄ (I₂.vrs x₃ hvs₂), hr'⟩
   cases r₄ with
   | next => exact again hrun3
   | cont => exact again hrun3
   | brk => cases hrun3; exact h _ _ _ X I₄ .next
   | ret r => cases hrun3; exact h _ _ _ X I₄ (.ret r)
  ·subst e1
   cases hrun3
   exact fin (I.trans x₂ x₃) rfl x₄ I₄ F hs
 ·have hin : i = ai.items.length := Nat.le_antisymm hi (Nat.le_of_not_lt hlt)
  refine Mine.hold fun gL bk => ?_
  subst hin
  rw [List.drop_length] at hrun
  rw [forLoop_nil] at hrun
  obtain ⟨u, sg, hgd, hrun1⟩ := am_bind_some hrun
  obtain ⟨eg, hg⟩ := guard_some hgd
  rw [eg] at hrun1
  cases hrun1
  refine bk ?_; clear bk gL
  refine O.walk.done s₁ _ _ (hSt hg) fun h' tk hk1 hal => ?_
  refine Mine.hold fun gL bk => ?_
  obtain ⟨x₂, I₂, kept⟩ := priv_step (st := st) (tk := tk) O hfp' I.h x₁ hμ hp₁ I₁ hg (hSt hg) hk1 hal
  refine bk ?_; clear bk gL
  exact h _ _ _ x₂ I₂ .next
end
theorem Ext.more {own own' : List Addr} {fr : List Env} {μ μ' : List Addr} {hp hp' : AH} {s s' : Shared} (x : Ext own fr μ hp s μ' hp' s') (h : ∀ a ∈ own, a ∈ own') : Ext own' fr μ hp s μ' hp' s' :=
 ⟨x.pre, x.same, x.alive, fun b o h1 h2 h3 => x.keep b o h1 h2 fun q => h3 (h b q), x.vers⟩
structure AccOk (G : Glob) (own μ : List Addr) (D : Addr) (h : Heap) (xs : List AV) : Prop where
 row : ∃ vs : List Value, h.PlainList D vs.toArray ∧ VRs G μ h xs vs
 nμ : D ∉ μ
 nown : D ∉ own
 low : G.h₀.get? D = none
noncomputable def compLoop (gs : List (Nat × (AObj × Nat))) (tgt : AV → AM Unit) (test : AM Bool) (body : AM (List AV)) : List AV → AM (List AV) :=
 List.rec (do guard gs; pure []) fun x zz k => do
  guard gs
  tgt x
  let b ← test
  if b = true then do
   let ys ← body
   let zs ← k
   pure (ys ++ zs)
  else k
theorem compLoop_nil (gs : List (Nat × (AObj × Nat))) (tgt : AV → AM Unit) (test : AM Bool) (body : AM (List AV)) : compLoop gs tgt test body [] = (do guard gs; pure []) := rfl
theorem compLoop_cons (gs : List (Nat × (AObj × Nat))) (tgt : AV → AM Unit) (test : AM Bool) (body : AM (List AV)) (x : AV) (xs : List AV) : compLoop gs tgt test body (x :: xs) = (do guard gs; tgt x; let b ← test; if b = true then (do let ys ← body; let zs ← compLoop gs tgt test body xs; pure (ys ++ zs)) else compLoop gs tgt test body xs) := rfl
section
variable {G : Glob} {sc : SC} {d : Nat}
noncomputable def SimEm (G : Glob) (sc : SC) (d : Nat) (m : AM (List AV)) (t : Env → Value → Sem Unit) : Prop :=
 ∀ (A : Around) (fr : List Env) (env : Env) (own μ : List Addr) (st : AS) (s : Shared) (ys : List AV) (st' : AS) (D : Addr) (pre : List AV), AOk A fr true d → Inv G sc fr env own μ st s → AccOk G own μ D s.heap pre → m st = some (ys, st') → (pre ++ ys).length ≤ 1000000 →
  ∀ (Q : Unit → Shared → Prop) (E : Value → Shared → Prop), (∀ s' μ', Ext (D :: own) fr μ st.hp s μ' st'.hp s' → Inv G sc fr env own μ' st' s' → AccOk G own μ' D s'.heap (pre ++ ys) → Q () s') → wpAny G.M A (t env (.ref D)) Q E s
abbrev testsOf (ifs : List Expr) (env : Env) : Sem Bool := forIn ifs true fun c r => if r = true then do let ok ← isTrue c env (eval c env); pure (ForInStep.yield ok) else pure (ForInStep.yield r)
abbrev SimTs (G : Glob) (sc : SC) (d : Nat) (m : AM Bool) (ifs : List Expr) : Prop := Sim G sc true d m (testsOf ifs) (fun zz zz a b => a = b)
theorem simts_nil : SimTs G sc d (pure true) [] := by
 intro A fr env own μ st s z st' hA I hm Q E h
 cases hm; exact wpAny_tests_nil (h _ _ _ Ext.refl I rfl)
theorem simts_one {m : AM Bool} {c : Expr} (S : SimT G sc true d m c) : SimTs G sc d m [c] := by
 intro A fr env own μ st s z st' hA I hm Q E h
 exact wpAny_tests_one (S A fr env own μ st s z st' hA I hm Q E h)
theorem AccOk.ext {fr : List Env} {env : Env} {own μ μ' : List Addr} {st st' : AS} {s s' : Shared} {D : Addr} {xs : List AV} (a : AccOk G own μ D s.heap xs) (I : Inv G sc fr env own μ st s) (x : XT own fr μ st s μ' st' s') : AccOk G own μ' D s'.heap xs := by
 refine Mine.hold fun gL bk => ?_
 obtain ⟨⟨vs, ⟨n, ho⟩, hr⟩, h1, h2, h3⟩ := a
 have hf : D ∉ frA fr := fun hm => by
  obtain ⟨e, he, hf⟩ := List.mem_filterMap.mp hm
  obtain ⟨_, L, o, hL, ho', ⟨es, n, q⟩, _⟩ := I.h.frs e he
  rw [hf] at hL; cases hL
  rw [ho] at ho'; cases ho'; cases q
 obtain ⟨sl, e, hs⟩ := x.keep D _ ho h1 h2
 refine bk ?_; clear bk gL
 rw [hs hf] at e
 exact ⟨⟨vs, ⟨n, e⟩, I.vrs x hr⟩, x.mem ho h1, h2, h3⟩
theorem AccOk.kept {own μ : List Addr} {h h' : Heap} {D : Addr} {xs : List AV} (a : AccOk G own μ D h xs) (k : KeptF μ h h') : AccOk G own μ D h' xs := by
 refine Mine.hold fun gL bk => ?_
 obtain ⟨⟨vs, ⟨n, ho⟩, hr⟩, h1, h2, h3⟩ := a
 refine bk ?_; clear bk gL
 exact ⟨⟨vs, ⟨n, k D _ ho (fun fs q => by cases q) h1⟩, hr.mono (fun zz zz e => e) k.still⟩, h1, h2, h3⟩
noncomputable def emElt (elt : Expr) (env : Env) (acc : Value) : Sem Unit := do let _ ← call (.builtin "list.append") [acc, ← eval elt env]
noncomputable def bEmit (m : AM AV) : AM (List AV) := do
 let v ← m
 pure [v]
theorem em_elt {m : AM AV} {elt : Expr} (S : SimE G sc true d m elt) : SimEm G sc d (bEmit m) (emElt elt) := by
 intro A fr env own μ st s ys st' D pre hA I a hm hl Q E h
 refine wpAny_bind (sim_bind2 S hA I hm fun v st₁ w s₁ μ₁ hm₁ x₁ I₁ r₁ => wpAny_bind ?_)
 refine Mine.hold fun gL bk => ?_
 cases hm₁
 obtain ⟨⟨vs, hp, hr⟩, h1, h2, h3⟩ := a.ext I x₁
 refine bk ?_; clear bk gL
 have hlen := hr.length
 refine wpAny_list_append_plain hp (fun h' hp' hs => wpAny_pure ?_) (by rw [List.size_toArray, sizeLine_eq]; simp at hl; omega)
 obtain ⟨n, hD⟩ := id hp
 have notD : ∀ {b : Addr} {o : Obj}, s₁.heap.get? b = some o → (∀ q, o.data = .seq vs.toArray q → False) → h'.get? b = some o := fun {b o} e k => (hs.2 b fun q => by subst q; rw [hD] at e; cases e; exact k _ rfl).trans e
 have inμ : ∀ {b : Addr}, b ∈ μ₁ → b ≠ D := fun hb q => h1 (q ▸ hb)
 have still : Still μ₁ μ₁ s₁.heap h' := by
  rintro b o hb hc zI4 hmm
  obtain ⟨ws, nn, hd⟩ := zI4
  refine ⟨hmm, (hs.2 b fun q => ?_).trans hb⟩
  subst q; rw [hD] at hb; cases hb; simp at hc
 obtain ⟨n', hD'⟩ := id hp'
 have H' : HInv G fr μ₁ st'.hp { s₁ with heap := h' } := by
  refine ⟨fun b o e => (hs.2 b fun q => by subst q; rw [h3] at e; cases e).trans (I₁.h.base b o e), I₁.h.len, I₁.h.nod, fun n c b hc hb => ?_, I₁.h.low, fun e he => ?_⟩
  ·obtain ⟨o, g1, g2⟩ := I₁.h.obj n c b hc hb
   exact ⟨o, (hs.2 b (inμ (List.mem_of_getElem? hb))).trans g1, g2.mono (fun zz zz e => e) still⟩
  ·obtain ⟨k, L, o, g1, g2, ⟨es, nn, g3⟩, g4, g5⟩ := I₁.h.frs e he
   exact ⟨k, L, o, g1, notD g2 (fun q e => by rw [g3] at e; cases e), ⟨es, nn, g3⟩, g4, g5⟩
 have e1 := I₁.e
 have hne : ∀ {b : Addr}, b ∈ own → b ≠ D := fun hb q => h2 (q ▸ hb)
 have E' : EInv G sc env own μ₁ st'.env { s₁ with heap := h' } := by
  refine ⟨e1.ok, fun b hb => ?_, e1.lown, ?_, fun y u hy => ?_, fun y c hy => ?_, e1.cown, e1.cnot⟩
  ·obtain ⟨g1, g2, o, g3, g4⟩ := e1.ownp b hb
   exact ⟨g1, g2, o, (hs.2 b (hne hb)).trans g3, g4⟩
  ·obtain ⟨mm, hn, hmm⟩ := e1.loc
   refine ⟨mm, hn.sameBut hs (hne e1.lown), fun y u hy hk => ?_⟩
   obtain ⟨w', g1, g2⟩ := hmm y u hy hk
   exact ⟨w', g1, g2.mono (fun zz zz e => e) still⟩
  ·rcases e1.cel y u hy with q' | ⟨q', c, w', g1, g2, g3⟩
   ·exact .inl q'
   ·obtain ⟨oc, k1, k2⟩ := id g2
    exact .inr ⟨q', c, w', g1, ⟨oc, notD k1 (fun q e => by rw [k2] at e; cases e), k2⟩, g3.mono (fun zz zz e => e) still⟩
  ·obtain ⟨⟨w', oc, k1, k2⟩, g2, g3⟩ := e1.cells y c hy
   exact ⟨⟨w', oc, notD k1 (fun q e => by rw [k2] at e; cases e), k2⟩, g2, g3⟩
 refine h { s₁ with heap := h' } μ₁ (Ext.trans I.h.len (x₁.more fun b hb => List.mem_cons_of_mem _ hb) ?_) ⟨H', E'⟩ ⟨⟨vs ++ [w], by simpa using hp', ((hr.mono (fun zz zz e => e) still).append (.cons (r₁.mono (fun zz zz e => e) still) .nil))⟩, h1, h2, h3⟩
 refine ⟨⟨[], by simp, by simp⟩, ⟨h', s₁.toks, rfl⟩, fun b o e => ?_, fun b o e hm hb => ⟨o.slots, (hs.2 b fun q => hb (q ▸ List.mem_cons_self)).trans e, fun zz => rfl⟩, fun n c hc => ⟨c, hc, Nat.le_refl _, fun zz => ⟨rfl, fun b hb => hs.2 b (inμ (List.mem_of_getElem? hb))⟩⟩⟩
 by_cases q : b = D
 ·exact ⟨_, q ▸ hD'⟩
 ·exact ⟨_, (hs.2 b q).trans e⟩
noncomputable def turnForm (ipos : Pos) (tgt : Expr) (ifs : List Expr) (K : Env → Value → Sem Unit) (c : Code) (it acc : Value) (env : Env) : Sem Fin := do
 standAt ipos
 match ← pyNext it with
 | none => pure (.done .next)
 | some v =>
  letOwnedTupleGo tgt it v
  assign tgt env v
  let mut ok := true
  for c in ifs do
   if ok then ok ← isTrue c env (eval c env)
  if ok then
   K env acc
  again c
noncomputable def emComp (elt : Expr) (gens : List Comprehension) (scope : Scope) (pos : Pos) (g : Comprehension) (depth : Nat) (env : Env) (acc : Value) : Sem Unit := do
 let x ← eval g.iter env
 standAt g.iter.pos
 let x ← foldedSetIterable g.iter env x
 let _ ← runOwn (.compStart (.ListComp elt gens scope pos) depth (← holding [x] (pyIter x)) acc env) env
theorem turn_one {elt t i : Expr} {ifs : List Expr} {scope : Scope} {pos : Pos} (it acc : Value) (env : Env) : compTurn (.ListComp elt [⟨t, i, ifs, 0⟩] scope pos) 0 it acc env = turnForm i.pos t ifs (emElt elt) (.compLoop (.ListComp elt [⟨t, i, ifs, 0⟩] scope pos) 0 it acc env) it acc env := by rfl
theorem turn_two0 {elt t i t' i' : Expr} {ifs ifs' : List Expr} {scope : Scope} {pos : Pos} (it acc : Value) (env : Env) : compTurn (.ListComp elt [⟨t, i, ifs, 0⟩, ⟨t', i', ifs', 0⟩] scope pos) 0 it acc env =
  turnForm i.pos t ifs (emComp elt [⟨t, i, ifs, 0⟩, ⟨t', i', ifs', 0⟩] scope pos ⟨t', i', ifs', 0⟩ 1) (.compLoop (.ListComp elt [⟨t, i, ifs, 0⟩, ⟨t', i', ifs', 0⟩] scope pos) 0 it acc env) it acc env := by
 unfold compTurn turnForm emComp
 simp only [List.getElem?_cons_zero, bne_self_eq_false, Bool.false_eq_true, if_false, Nat.zero_add, List.getElem?_cons_succ, bind_assoc, pure_bind]
 congr 1
theorem turn_two1 {elt t i t' i' : Expr} {ifs ifs' : List Expr} {scope : Scope} {pos : Pos} (it acc : Value) (env : Env) : compTurn (.ListComp elt [⟨t, i, ifs, 0⟩, ⟨t', i', ifs', 0⟩] scope pos) 1 it acc env =
  turnForm i'.pos t' ifs' (emElt elt) (.compLoop (.ListComp elt [⟨t, i, ifs, 0⟩, ⟨t', i', ifs', 0⟩] scope pos) 1 it acc env) it acc env := by rfl
theorem compLoop_sound {elt : Expr} {gens : List Comprehension} {scope : Scope} {pos ipos : Pos} {depth : Nat} {tgt : Expr} {ifs : List Expr} {K : Env → Value → Sem Unit} {f : AV → AM Unit} {tst : AM Bool} {m : AM (List AV)}
  (ST : SimTgt G sc d f tgt) (hT : TgtPure f) (STs : SimTs G sc d tst ifs) (SK : SimEm G sc d m K)
  (hturn : ∀ (it acc : Value) (env : Env), compTurn (.ListComp elt gens scope pos) depth it acc env = turnForm ipos tgt ifs K (.compLoop (.ListComp elt gens scope pos) depth it acc env) it acc env)
  {A : Around} {fr : List Env} {env : Env} {own own₂ μs μ₀ : List Addr} {hps hpI : AH} {ss sI s₀ : Shared} {st₀ st' : AS} {ai : AIt} {I D : Addr} {fp wr jk : List Addr} {P : Nat → Value → Heap → Heap → Prop} {St : Nat → Heap → Prop} {xs : List AV} {vs : List Value} {pre ys : List AV}
  (hA : AOk A fr true d) (Hs : HInv G fr μs hps ss) (x₀ : Ext own₂ fr μs hps ss μ₀ st₀.hp s₀) (hown : ∀ a ∈ D :: own, a ∈ own₂) (I₀ : Inv G sc fr env own μ₀ st₀ s₀)
  (O : ItOk G A tgt μ₀ hpI ss.heap sI ai I fp wr jk P St xs vs) (hfp : ∀ b ∈ fp, b ∉ D :: own ∧ b ∉ frA fr) (hst : (∀ g ∈ ai.gs, st₀.hp[g.1]? = some g.2) → St 0 s₀.heap) (hvs : VRs G μ₀ s₀.heap xs vs) (hpr : Priv ai fp μ₀ μ₀ s₀)
  (acc : AccOk G own μ₀ D s₀.heap pre) (hm : compLoop ai.gs f tst m ai.items st₀ = some (ys, st')) (hl : (pre ++ ys).length ≤ 1000000)
  (Z : List Addr → Shared → Prop) (hZe : ∀ {μ μ' : List Addr} {hp hp' : AH} {s s' : Shared}, HInv G fr μ hp s → OwnK (D :: own) s → Ext (D :: own) fr μ hp s μ' hp' s' → Z μ s → Z μ' s') (hZk : ∀ {μ : List Addr} {s : Shared} {h' : Heap} {tk : Nat}, KeptF μ s.heap h' → Z μ s → Z μ { s with heap := h', toks := tk }) (hZ : Z μ₀ s₀)
  {R : Result → Shared → Prop} (hR : ∀ s' μ', Ext own₂ fr μs hps ss μ' st'.hp s' → Inv G sc fr env own μ' st' s' → AccOk G own μ' D s'.heap (pre ++ ys) → Z μ' s' → R (.ok .next) s') :
  codeAny G.M A (.compLoop (.ListComp elt gens scope pos) depth (.ref I) (.ref D) env) R s₀ := by
 have hfp' : ∀ b ∈ fp, b ∉ frA fr := fun b hb => (hfp b hb).2
 have hfo : ∀ b ∈ fp, b ∉ own ∧ b ∉ frA fr := fun b hb => ⟨fun q => (hfp b hb).1 (List.mem_cons_of_mem _ q), (hfp b hb).2⟩
 have ownD : ∀ {μ : List Addr} {st : AS} {s : Shared} {zs : List AV}, Inv G sc fr env own μ st s → AccOk G own μ D s.heap zs → OwnK (D :: own) s := fun {μ st s zs} I a b hb o ho => by
  rcases List.mem_cons.mp hb with q | q
  ·subst q
   obtain ⟨ws, ⟨n, hw⟩, _⟩ := a.row
   rw [ho] at hw; cases hw
   exact .inr (.inr ⟨rfl, _, _, rfl⟩)
  ·exact I.e.ownK b q o ho
 have up : ∀ {μ μ' : List Addr} {hp hp' : AH} {s s' : Shared}, Ext own fr μ hp s μ' hp' s' → Ext (D :: own) fr μ hp s μ' hp' s' := fun x => x.more fun b hb => List.mem_cons_of_mem _ hb
 refine codeAny_loop rfl (fun k s₁ => ∃ i μ₁ st₁ zs zr, k + i = ai.items.length + 1 ∧ i ≤ ai.items.length ∧ Ext own₂ fr μs hps ss μ₁ st₁.hp s₁ ∧ Inv G sc fr env own μ₁ st₁ s₁ ∧ (∀ (n : Nat) (a : Addr), μ₀[n]? = some a → μ₁[n]? = some a) ∧ Priv ai fp μ₀ μ₁ s₁ ∧
  ((∀ g ∈ ai.gs, st₁.hp[g.1]? = some g.2) → St i s₁.heap) ∧ VRs G μ₁ s₁.heap xs vs ∧ AccOk G own μ₁ D s₁.heap zs ∧ zs ++ zr = pre ++ ys ∧ compLoop ai.gs f tst m (ai.items.drop i) st₁ = some (zr, st') ∧ Z μ₁ s₁) ?_ (ai.items.length + 1)
  ⟨0, μ₀, st₀, pre, ys, by omega, Nat.zero_le _, x₀, I₀, fun zz zz e => e, hpr, hst, hvs, acc, rfl, by simpa using hm, hZ⟩
 rintro k s₁ zI2
 refine Mine.hold fun gL bk => ?_
 obtain ⟨i, μ₁, st₁, zs, zr, hk, hi, x₁, I₁, hμ, hp₁, hSt, hvs₁, acc₁, hzz, hrun, hZ₁⟩ := zI2
 refine bk ?_; clear bk gL
 show wpAny _ A ((compTurn (.ListComp elt gens scope pos) depth (.ref I) (.ref D) env).onRaise (fun x => do noteFrame x env; theTreesLotGoes x)) _ _ s₁
 refine wpAny_noted ?_
 rw [hturn]
 unfold turnForm
 refine wpAny_bind (wpAny_standAt (wpAny_bind ?_))
 by_cases hlt : i < ai.items.length
 ·rw [List.drop_eq_getElem_cons hlt] at hrun
  rw [compLoop_cons] at hrun
  refine Mine.hold fun gL bk => ?_
  obtain ⟨u, sg, hgd, hrun1⟩ := am_bind_some hrun
  obtain ⟨eg, hg⟩ := guard_some hgd
  rw [eg] at hrun1
  obtain ⟨u', st₂, htg, hrun2⟩ := am_bind_some hrun1
  refine bk ?_; clear bk gL
  refine O.walk.item i s₁ _ _ hlt (hSt hg) fun v h' tk hk1 hgo => ?_
  refine wpAny_bind (hgo _ _ fun h'' hP hst' hk2 => ?_)
  have hkk : ∀ b o, b ∉ wr → s₁.heap.get? b = some o → h''.get? b = some o := fun b o hb e => hk2 b o hb (hk1 b o hb e)
  refine Mine.hold fun gL bk => ?_
  obtain ⟨x₂, I₂, kept⟩ := priv_step (st := st₁) (tk := tk) O hfp' Hs x₁ hμ hp₁ I₁ hg (hSt hg) hkk fun b hb => (O.kind _ _ hst' b (O.jkw b hb)).1 hb
  have hp₂ : Priv ai fp μ₀ μ₁ { s₁ with heap := h'', toks := tk } := fun b hb => by
   rcases hp₁ b hb with q | ⟨q, o, ho⟩
   ·exact .inl q
   ·by_cases hw : b ∈ wr
    ·rcases (O.kind _ _ hst' b hw).2 with ⟨g, hgm, _, e⟩ | ⟨o', fs, e, _⟩
     ·exact .inl ⟨g, hgm, e⟩
     ·exact .inr ⟨q, o', e⟩
    ·exact .inr ⟨q, o, hkk b o hw ho⟩
  have hvs₂ : VRs G μ₁ h'' xs vs := hvs₁.mono (fun zz zz e => e) kept.still
  have acc₂ := acc₁.kept kept
  have hZ₂ := hZk (tk := tk) kept hZ₁
  obtain ⟨y, hy, hr⟩ := O.item i v s₁.heap h'' μ₁ hlt hP hvs₂ fun a ha => by
   obtain ⟨n, hn⟩ := List.getElem?_of_mem ha
   have hl := (List.getElem?_eq_some_iff.mp hn).1
   rw [I₁.h.len] at hl
   obtain ⟨o, ho, _⟩ := I₁.h.obj n _ a (List.getElem?_eq_getElem hl) hn
   exact ⟨o, ho⟩
  rw [List.getElem?_eq_getElem hlt] at hy
  cases hy
  refine bk ?_; clear bk gL
  refine wpAny_bind (ST A fr env own μ₁ st₁ _ _ v st₂ hA I₂ hr htg _ _ fun s₃ μ₃ x₃ I₃ => wpAny_bind ?_)
  have hhp := hT _ _ _ htg
  have hst₃ : St (i + 1) s₃.heap := st_kept (st₁ := st₁) (st₂ := st₂) O hfo hμ hp₂ x₃ hg (by rw [hhp]; exact hg) hst'
  refine Mine.hold fun gL bk => ?_
  obtain ⟨b, st₄, hb, hrun3⟩ := am_bind_some hrun2
  refine bk ?_; clear bk gL
  refine STs A fr env own μ₃ st₂ s₃ b st₄ hA I₃ hb _ _ fun b' s₄ μ₄ x₄ I₄ r₄ => ?_
  subst r₄
  have acc₃ := acc₂.ext I₂ x₃
  have acc₄ := acc₃.ext I₃ x₄
  have hZ₃ := hZe I₂.h (ownD I₂ acc₂) (up x₃) hZ₂
  have hZ₄ := hZe I₃.h (ownD I₃ acc₃) (up x₄) hZ₃
  have hp₃ : Priv ai fp μ₀ μ₃ s₃ := hp₂.ext (st₁ := st₁) (st₂ := st₂) x₃
  have again : ∀ {st₅ : AS} {s₅ : Shared} {μ₅ : List Addr} {zs' zr' : List AV}, Ext (D :: own) fr μ₃ st₂.hp s₃ μ₅ st₅.hp s₅ → Inv G sc fr env own μ₅ st₅ s₅ → AccOk G own μ₅ D s₅.heap zs' → zs' ++ zr' = pre ++ ys → Z μ₅ s₅ → compLoop ai.gs f tst m (ai.items.drop (i + 1)) st₅ = some (zr', st') →
    ∃ m_1, m_1 < k ∧ ∃ i μ₁ st₁ zs zr, m_1 + i = ai.items.length + 1 ∧ i ≤ ai.items.length ∧ Ext own₂ fr μs hps ss μ₁ st₁.hp s₅ ∧ Inv G sc fr env own μ₁ st₁ s₅ ∧ (∀ (n : Nat) (a : Addr), μ₀[n]? = some a → μ₁[n]? = some a) ∧ Priv ai fp μ₀ μ₁ s₅ ∧
    ((∀ g ∈ ai.gs, st₁.hp[g.1]? = some g.2) → St i s₅.heap) ∧ VRs G μ₁ s₅.heap xs vs ∧ AccOk G own μ₁ D s₅.heap zs ∧ zs ++ zr = pre ++ ys ∧ compLoop ai.gs f tst m (ai.items.drop i) st₁ = some (zr, st') ∧ Z μ₁ s₅ := fun {st₅ s₅ μ₅ zs' zr'} x₅ I₅ a₅ hz₅ hZ₅ hr₅ => by
   refine ⟨k - 1, by omega, i + 1, μ₅, st₅, zs', zr', by omega, hlt, Ext.trans Hs.len x₂ (Ext.trans I₂.h.len ((up x₃).more hown) (x₅.more hown)), I₅, fun n a e => x₅.mu (x₃.mu (hμ n a e)), hp₃.ext (st₁ := st₂) (st₂ := st₅) x₅, fun hg₅ => ?_, ?_, a₅, hz₅, hr₅, hZ₅⟩
   ·exact st_kept (st₁ := st₂) (st₂ := st₅) O hfp (fun n a e => x₃.mu (hμ n a e)) hp₃ x₅ (by rw [hhp]; exact hg) hg₅ hst₃
   ·exact (I₂.vrs (st₁ := st₂) x₃ hvs₂).ext I₃.h (ownD I₃ acc₃) x₅
  cases b with
  | false =>
   simp only [Bool.false_eq_true, if_false] at hrun3 ⊢
   exact wpAny_pure ⟨rfl, again (up x₄) I₄ acc₄ hzz hZ₄ hrun3⟩
  | true =>
   simp only [if_true] at hrun3 ⊢
   refine Mine.hold fun gL bk => ?_
   obtain ⟨ye, st₅, hye, hrun4⟩ := am_bind_some hrun3
   obtain ⟨zr', st₆, hzr, hfin⟩ := am_bind_some hrun4
   cases hfin
   refine bk ?_; clear bk gL
   refine wpAny_bind (SK A fr env own μ₄ st₄ s₄ ye st₅ D zs hA I₄ acc₄ hye ?_ _ _ fun s₅ μ₅ x₅ I₅ a₅ => wpAny_pure ⟨rfl, ?_⟩)
   ·have := congrArg List.length hzz
    simp only [List.length_append] at this hl ⊢
    omega
   ·exact again (Ext.trans I₃.h.len (up x₄) x₅) I₅ a₅ (by rw [List.append_assoc]; exact hzz) (hZe I₄.h (ownD I₄ acc₄) x₅ hZ₄) hzr
 ·have hin : i = ai.items.length := Nat.le_antisymm hi (Nat.le_of_not_lt hlt)
  refine Mine.hold fun gL bk => ?_
  subst hin
  rw [List.drop_length] at hrun
  rw [compLoop_nil] at hrun
  obtain ⟨u, sg, hgd, hrun1⟩ := am_bind_some hrun
  obtain ⟨eg, hg⟩ := guard_some hgd
  rw [eg] at hrun1
  cases hrun1
  refine bk ?_; clear bk gL
  refine O.walk.done s₁ _ _ (hSt hg) fun h' tk hk1 hal => wpAny_pure ?_
  refine Mine.hold fun gL bk => ?_
  obtain ⟨x₂, I₂, kept⟩ := priv_step (st := st') (tk := tk) O hfp' Hs x₁ hμ hp₁ I₁ hg (hSt hg) hk1 hal
  refine bk ?_; clear bk gL
  exact hR _ _ x₂ I₂ (hzz ▸ (by simpa using acc₁.kept kept)) (hZk kept hZ₁)
end
noncomputable def closL (cells : List (PySem.Str × Addr)) : List (PySem.Str × NameKind) → List (PySem.Str × Addr) → List (PySem.Str × Addr)
 | [], acc => acc
 | (n, k) :: r, acc => if k == .free then closL cells r ((n, (cells.lookup n).getD 0) :: acc) else closL cells r acc
theorem closL_mem {cells : List (PySem.Str × Addr)} {x : PySem.Str} {c : Addr} : ∀ {names : List (PySem.Str × NameKind)} {acc : List (PySem.Str × Addr)}, (x, c) ∈ closL cells names acc → (x, c) ∈ acc ∨ ((x, NameKind.free) ∈ names ∧ c = (cells.lookup x).getD 0)
 | [], acc, h => .inl h
 | (n, k) :: r, acc, h => by
  unfold closL at h
  split at h
  ·rename_i hk
   rcases closL_mem h with q | ⟨q, e⟩
   ·rcases List.mem_cons.mp q with q | q
    ·cases q
     have : k = .free := by simpa using hk
     subst this
     exact .inr ⟨List.mem_cons_self, rfl⟩
    ·exact .inl q
   ·exact .inr ⟨List.mem_cons_of_mem _ q, e⟩
  ·rcases closL_mem h with q | ⟨q, e⟩
   ·exact .inl q
   ·exact .inr ⟨List.mem_cons_of_mem _ q, e⟩
theorem closL_acc {cells : List (PySem.Str × Addr)} {x : PySem.Str × Addr} : ∀ {names : List (PySem.Str × NameKind)} {acc : List (PySem.Str × Addr)}, x ∈ acc → x ∈ closL cells names acc
 | [], acc, h => h
 | (n, k) :: r, acc, h => by
  unfold closL
  split
  ·exact closL_acc (List.mem_cons_of_mem _ h)
  ·exact closL_acc h
theorem closL_has {cells : List (PySem.Str × Addr)} {x : PySem.Str} : ∀ {names : List (PySem.Str × NameKind)} {acc : List (PySem.Str × Addr)}, (x, NameKind.free) ∈ names → ∃ c, (x, c) ∈ closL cells names acc
 | (n, k) :: r, acc, h => by
  unfold closL
  rcases List.mem_cons.mp h with q | q
  ·cases q
   rw [if_pos (by rfl)]
   exact ⟨_, closL_acc List.mem_cons_self⟩
  ·split
   ·exact closL_has q
   ·exact closL_has q
theorem closL_nodup {cells : List (PySem.Str × Addr)} : ∀ {names : List (PySem.Str × NameKind)} {acc : List (PySem.Str × Addr)}, (names.map (·.1)).Nodup → (acc.map (·.1)).Nodup → (∀ x ∈ names.map (·.1), x ∉ acc.map (·.1)) → ((closL cells names acc).map (·.1)).Nodup
 | [], acc, _, h, _ => h
 | (n, k) :: r, acc, h1, h2, h3 => by
  unfold closL
  rw [List.map_cons, List.nodup_cons] at h1
  split
  ·refine closL_nodup h1.2 ?_ fun x hx hm => ?_
   ·rw [List.map_cons, List.nodup_cons]
    exact ⟨h3 n (by simp), h2⟩
   ·rw [List.map_cons] at hm
    rcases List.mem_cons.mp hm with q | q
    ·subst q; exact h1.1 hx
    ·exact h3 x (by rw [List.map_cons]; exact List.mem_cons_of_mem _ hx) q
  ·exact closL_nodup h1.2 h2 fun x hx => h3 x (by rw [List.map_cons]; exact List.mem_cons_of_mem _ hx)
theorem lookup_of_mem {α : Type} {x : PySem.Str} {c : α} : ∀ {l : List (PySem.Str × α)}, (x, c) ∈ l → ∃ c', l.lookup x = some c'
 | (n, v) :: r, h => by
  rw [List.lookup_cons]
  cases hb : x == n with
  | true => exact ⟨v, rfl⟩
  | false =>
   rcases List.mem_cons.mp h with q | q
   ·cases q; simp at hb
   ·exact lookup_of_mem q
theorem lookup_uniq {α : Type} {x : PySem.Str} {c : α} : ∀ {l : List (PySem.Str × α)}, (l.map (·.1)).Nodup → (x, c) ∈ l → l.lookup x = some c
 | (n, v) :: r, hn, h => by
  rw [List.map_cons, List.nodup_cons] at hn
  rw [List.lookup_cons]
  rcases List.mem_cons.mp h with q | q
  ·cases q; simp
  ·have : (x == n) = false := by
    cases hb : x == n with
    | false => rfl
    | true => exact absurd (List.mem_map.mpr ⟨_, q, beq_iff_eq.mp hb⟩) hn.1
   rw [this]
   exact lookup_uniq hn.2 q
theorem cellsFrom_app : ∀ {names : List (PySem.Str × NameKind)} {n : Nat} {acc : List (PySem.Str × Addr)}, cellsFrom n names acc = cellsFrom n names [] ++ acc
 | [], n, acc => rfl
 | (x, k) :: r, n, acc => by
  unfold cellsFrom
  split
  ·rw [cellsFrom_app, cellsFrom_app (acc := [(x, n)])]; simp
  ·exact cellsFrom_app
theorem cellsFrom_name {x : PySem.Str} {c : Addr} : ∀ {names : List (PySem.Str × NameKind)} {n : Nat}, (x, c) ∈ cellsFrom n names [] → (x, NameKind.cell) ∈ names
 | (y, k) :: r, n, h => by
  unfold cellsFrom at h
  split at h
  ·rename_i hk
   rw [cellsFrom_app] at h
   rcases List.mem_append.mp h with q | q
   ·exact List.mem_cons_of_mem _ (cellsFrom_name q)
   ·simp at q
    have : k = .cell := by simpa using hk
    rw [q.1, this]; exact List.mem_cons_self
  ·exact List.mem_cons_of_mem _ (cellsFrom_name h)
theorem cellsFrom_has {x : PySem.Str} : ∀ {names : List (PySem.Str × NameKind)} {n : Nat}, (x, NameKind.cell) ∈ names → ∃ c, (x, c) ∈ cellsFrom n names []
 | (y, k) :: r, n, h => by
  unfold cellsFrom
  rcases List.mem_cons.mp h with q | q
  ·cases q
   rw [if_pos (by rfl), cellsFrom_app]
   exact ⟨n, List.mem_append_right _ (by simp)⟩
  ·split
   ·rw [cellsFrom_app]
    obtain ⟨c, hc⟩ := cellsFrom_has (n := n + 1) q
    exact ⟨c, List.mem_append_left _ hc⟩
   ·exact cellsFrom_has q
theorem closureFor_is {env : Env} {cs : Scope} (h : ∀ x ∈ cs.names, x.2 = NameKind.free → ∃ c, env.cells.lookup x.1 = some c) : closureFor cs env = pure (closL env.cells cs.names []) := by
 unfold closureFor
 have go : ∀ (names : List (PySem.Str × NameKind)) (acc : List (PySem.Str × Addr)), (∀ x ∈ names, x.2 = NameKind.free → ∃ c, env.cells.lookup x.1 = some c) →
   (forIn names acc fun x r => if (x.2 == NameKind.free) = true then do let a ← cellOf env x.1; pure (ForInStep.yield ((x.1, a) :: r)) else pure (ForInStep.yield r) : Sem _) = pure (closL env.cells names acc) := by
  intro names
  induction names with
  | nil => intro acc _; rfl
  | cons x r ih =>
   intro acc hx
   obtain ⟨n, k⟩ := x
   rw [List.forIn_cons]
   unfold closL
   by_cases hk : (k == NameKind.free) = true
   ·obtain ⟨c, hc⟩ := hx (n, k) List.mem_cons_self (by simpa using hk)
    simp only at hc
    rw [if_pos hk]
    simp only [hk, if_true, cellOf, hc, Option.getD_some, pure_bind]
    exact ih _ fun y hy => hx y (List.mem_cons_of_mem _ hy)
   ·rw [if_neg hk]
    simp only [hk, if_false, pure_bind, Bool.false_eq_true]
    exact ih _ fun y hy => hx y (List.mem_cons_of_mem _ hy)
 have := go cs.names [] h
 first
  | exact this
  | (simp only [bind_pure]; exact this)
structure CompOk (sc : SC) (cs : Scope) : Prop where
 kind : cs.kind = .function
 nodup : (cs.names.map (·.1)).Nodup
 frees : ∀ x, (x, NameKind.free) ∈ cs.names → sc.scope.names.lookup x = some .cell ∨ sc.scope.names.lookup x = some .free
noncomputable def nodupB : List PySem.Str → Bool
 | [] => true
 | x :: r => !r.contains x && nodupB r
theorem nodupB_is : ∀ {l : List PySem.Str}, nodupB l = true → l.Nodup
 | [], _ => List.nodup_nil
 | x :: r, h => by
  simp only [nodupB, Bool.and_eq_true, Bool.not_eq_true', List.contains_eq_mem, decide_eq_false_iff_not] at h
  exact List.nodup_cons.mpr ⟨h.1, nodupB_is h.2⟩
noncomputable def compOkB (sc : SC) (cs : Scope) : Bool := cs.kind == .function && nodupB (cs.names.map (·.1)) && cs.names.all fun x => x.2 != NameKind.free || (sc.scope.names.lookup x.1 == some NameKind.cell || sc.scope.names.lookup x.1 == some NameKind.free)
theorem compOk_of {sc : SC} {cs : Scope} (h : compOkB sc cs = true) : CompOk sc cs := by
 simp only [compOkB, Bool.and_eq_true, List.all_eq_true] at h
 obtain ⟨⟨h1, h2⟩, h3⟩ := h
 refine ⟨by simpa using h1, nodupB_is h2, fun x hx => ?_⟩
 have := h3 _ hx
 simpa using this
noncomputable def relabelS (sc : SC) (cs : Scope) : Scope := { cs with names := cs.names.map fun x => if (x.2 == NameKind.free && sc.scope.kind == .function && sc.scope.names.lookup x.1 == some NameKind.cell) = true then (x.1, NameKind.cell) else x }
noncomputable def compSC (sc : SC) (cs : Scope) : SC := ⟨relabelS sc cs, (cs.names.filter (·.2 == NameKind.cell)).map (·.1)⟩
theorem relabel_is {sc : SC} {cs : Scope} {env : Env} (h : env.scope = sc.scope) : relabel cs env = relabelS sc cs := by
 unfold relabel relabelS Env.kindOf
 rw [h]
noncomputable def restrict (xs : List String) (ρ : List (String × AV)) : List (String × AV) := ρ.filter fun e => xs.contains e.1
theorem restrict_some {xs : List String} {x : String} {v : AV} : ∀ {ρ : List (String × AV)}, (restrict xs ρ).lookup x = some v → x ∈ xs ∧ ρ.lookup x = some v
 | [], h => by simp [restrict] at h
 | (y, w) :: r, h => by
  unfold restrict at h
  rw [List.filter_cons] at h
  by_cases hy : x = y
  ·subst hy
   split at h
   ·rename_i hc
    simp at h; subst h
    exact ⟨by simpa using hc, by simp⟩
   ·rename_i hc
    have := (restrict_some (ρ := r) h).1
    simp at hc; exact absurd this hc
  ·have hb : (x == y) = false := by simp [hy]
   split at h
   ·rw [List.lookup_cons, hb] at h
    have := restrict_some (ρ := r) h
    rw [List.lookup_cons, hb]; exact this
   ·have := restrict_some (ρ := r) h
    rw [List.lookup_cons, hb]; exact this
section
variable {G : Glob} {sc : SC} {d : Nat}
noncomputable def compEnvOf (cs : Scope) (C : Addr) (env : Env) : Env :=
 { scope := relabel cs env, locals := C, globals := env.globals, cells := cellsFrom (C + 1) cs.names (closL env.cells cs.names []), qual := env.qual, func := none, code := env.code, frame := env.frame, builtins := env.builtins }
noncomputable def compHeap (cs : Scope) (h : Heap) : Heap := pushCells (h.push { cls := .type "dict", data := .dict #[] }) cs.names
noncomputable def compOwn (cs : Scope) (C : Addr) : List Addr := C :: (cellsFrom (C + 1) cs.names []).map (·.2)
theorem newComp_is {A : Around} {E : Value → Shared → Prop} {s : Shared} {cs : Scope} {env : Env} {Q : Env → Shared → Prop} (h : ∀ cenv, { cenv with scope := relabel cs env } = compEnvOf cs s.heap.objs.size env → cenv.locals = s.heap.objs.size → Q cenv { s with heap := compHeap cs s.heap }) :
  wpAny G.M A (newFunctionEnv cs env.globals (closL env.cells cs.names []) [] env.qual none .none (some env)) Q E s := by
 simp only [newFunctionEnv, Option.isSome_some, if_true]
 refine wpAny_bind (wpAny_alloc ?_)
 refine wpAny_bind (wpAny_layCells _ (fun name kind cells => by cases hkc : kind == NameKind.cell <;> simp [hkc]) _ _ _ _ ?_)
 rw [show ({ s with heap := s.heap.push { cls := .type "dict", data := .dict #[] } } : Shared).heap.objs.size = s.heap.objs.size + 1 from Heap.size_push ..]
 refine wpAny_bind ?_
 rw [List.forIn_nil]
 exact wpAny_pure (wpAny_pure (h _ rfl rfl))
theorem compHeap_keeps {cs : Scope} {h : Heap} {b : Addr} {o : Obj} (e : h.get? b = some o) : (compHeap cs h).get? b = some o := pushCells_keeps _ _ b o (Heap.get?_push_of_some _ e)
theorem compOwn_fresh {cs : Scope} {h : Heap} {a : Addr} (ha : a ∈ compOwn cs h.objs.size) : h.get? a = none := by
 have ok := cellsFrom_ok cs.names (h.push { cls := .type "dict", data := .dict #[] }) (h.objs.size + 1) [] ⟨fun zz zz hm => (nomatch hm), List.Pairwise.nil⟩ (by rw [Heap.size_push]; exact Nat.le_refl _)
 rw [Heap.size_push] at ok
 rcases List.mem_cons.mp ha with q | q
 ·subst q; exact Heap.get?_none_of_le (Nat.le_refl _)
 ·obtain ⟨⟨n, c⟩, hc, rfl⟩ := List.mem_map.mp q
  exact Heap.get?_none_of_le (Nat.le_of_succ_le (ok.empty n c hc).2)
theorem comp_env {cs : Scope} {fr : List Env} {env : Env} {own μ : List Addr} {st : AS} {s : Shared} {frees : List String} (ck : CompOk sc cs) (hfr : ∀ x ∈ frees, (Str.ofString x, NameKind.free) ∈ cs.names) (I : Inv G sc fr env own μ st s) (tk : Nat) :
  Inv G (compSC sc cs) fr (compEnvOf cs s.heap.objs.size env) (compOwn cs s.heap.objs.size) μ { st with env := restrict frees st.env } { s with heap := compHeap cs s.heap, toks := tk } := by
 have ok := cellsFrom_ok cs.names (s.heap.push { cls := .type "dict", data := .dict #[] }) (s.heap.objs.size + 1) [] ⟨fun zz zz hm => (nomatch hm), List.Pairwise.nil⟩ (by rw [Heap.size_push]; exact Nat.le_refl _)
 rw [Heap.size_push] at ok
 have hk : ∀ b o, s.heap.get? b = some o → (compHeap cs s.heap).get? b = some o := fun b o e => compHeap_keeps e
 have hC : (compHeap cs s.heap).get? s.heap.objs.size = some { cls := .type "dict", data := .dict #[] } := pushCells_keeps _ _ _ _ (Heap.get?_push_size _ rfl)
 have low : ∀ {a : Addr}, s.heap.get? a = none → a ∉ μ ∧ G.h₀.get? a = none := fun {a} h => by
  refine ⟨fun hm => ?_, ?_⟩
  ·obtain ⟨n, hn⟩ := List.getElem?_of_mem hm
   have hl := (List.getElem?_eq_some_iff.mp hn).1
   rw [I.h.len] at hl
   obtain ⟨o, ho, _⟩ := I.h.obj n _ a (List.getElem?_eq_getElem hl) hn
   rw [h] at ho; cases ho
  cases e : G.h₀.get? a with
  | none => rfl
  | some o => have := I.h.base _ _ e; rw [h] at this; cases this
 have still : Still μ μ s.heap (compHeap cs s.heap) := Still.of_keeps hk
 have hes : env.scope = sc.scope := I.e.ok.scope
 have hfn : sc.scope.kind = .function := hes ▸ I.e.ok.fn
 have clo : ∀ {x : PySem.Str}, (x, NameKind.free) ∈ cs.names → ∃ c, env.cells.lookup x = some c := fun {x} hx => by
  rcases ck.frees x hx with q | q
  ·exact I.e.ok.cellok x _ q (.inl rfl)
  ·exact I.e.ok.cellok x _ q (.inr rfl)
 have clm : ∀ {x : PySem.Str} {c : Addr}, (x, c) ∈ closL env.cells cs.names [] → (x, NameKind.free) ∈ cs.names ∧ env.cells.lookup x = some c := fun {x c} h => by
  rcases closL_mem h with q | ⟨q, e⟩
  ·cases q
  ·obtain ⟨c', hc'⟩ := clo q
   rw [hc'] at e; simp at e; subst e
   exact ⟨q, hc'⟩
 have names_uniq : ∀ {x : PySem.Str} {k k' : NameKind}, (x, k) ∈ cs.names → (x, k') ∈ cs.names → k = k' := fun h h' => by
  have e1 := lookup_uniq ck.nodup h
  have e2 := lookup_uniq ck.nodup h'
  rw [e1] at e2; cases e2
 have cells_split : ∀ {x : PySem.Str} {c : Addr}, (x, c) ∈ (compEnvOf cs s.heap.objs.size env).cells → ((x, NameKind.cell) ∈ cs.names ∧ (x, c) ∈ cellsFrom (s.heap.objs.size + 1) cs.names []) ∨ ((x, NameKind.free) ∈ cs.names ∧ env.cells.lookup x = some c) := fun {x c} h => by
  have h : (x, c) ∈ cellsFrom (s.heap.objs.size + 1) cs.names (closL env.cells cs.names []) := h
  rw [cellsFrom_app] at h
  rcases List.mem_append.mp h with q | q
  ·exact .inl ⟨cellsFrom_name q, q⟩
  ·exact .inr (clm q)
 have look_free : ∀ {x : PySem.Str}, (x, NameKind.free) ∈ cs.names → ∃ c, (compEnvOf cs s.heap.objs.size env).cells.lookup x = some c ∧ env.cells.lookup x = some c := fun {x} hx => by
  obtain ⟨c, hc⟩ := closL_has (cells := env.cells) (acc := []) hx
  have : (x, c) ∈ (compEnvOf cs s.heap.objs.size env).cells := by
   show (x, c) ∈ cellsFrom (s.heap.objs.size + 1) cs.names (closL env.cells cs.names [])
   rw [cellsFrom_app]; exact List.mem_append_right _ hc
  obtain ⟨c', hc'⟩ := lookup_of_mem this
  rcases cells_split (mem_of_lookup hc') with ⟨q, _⟩ | ⟨_, q⟩
  ·cases names_uniq hx q
  ·exact ⟨c', hc', q⟩
 have look_cell : ∀ {x : PySem.Str}, (x, NameKind.cell) ∈ cs.names → ∃ c, (compEnvOf cs s.heap.objs.size env).cells.lookup x = some c ∧ (x, c) ∈ cellsFrom (s.heap.objs.size + 1) cs.names [] := fun {x} hx => by
  obtain ⟨c, hc⟩ := cellsFrom_has (n := s.heap.objs.size + 1) hx
  have : (x, c) ∈ (compEnvOf cs s.heap.objs.size env).cells := by
   show (x, c) ∈ cellsFrom (s.heap.objs.size + 1) cs.names (closL env.cells cs.names [])
   rw [cellsFrom_app]; exact List.mem_append_left _ hc
  obtain ⟨c', hc'⟩ := lookup_of_mem this
  rcases cells_split (mem_of_lookup hc') with ⟨_, q⟩ | ⟨q, _⟩
  ·exact ⟨c', hc', q⟩
  ·cases names_uniq hx q
 have kmem : ∀ {x : PySem.Str} {k : NameKind}, (x, k) ∈ (relabelS sc cs).names → ((x, k) ∈ cs.names ∧ ¬ (k = .free ∧ sc.scope.names.lookup x = some .cell)) ∨ (k = .cell ∧ (x, NameKind.free) ∈ cs.names ∧ sc.scope.names.lookup x = some .cell) := fun {x k} h => by
  obtain ⟨⟨y, k'⟩, hy, e⟩ := List.mem_map.mp h
  simp only [hfn] at e
  split at e
  ·rename_i hc
   cases e
   simp at hc
   rw [hc.1] at hy
   exact .inr ⟨rfl, hy, hc.2⟩
  ·rename_i hc
   cases e
   refine .inl ⟨hy, fun ⟨q1, q2⟩ => hc ?_⟩
   simp [q1, q2]
 have rnodup : ((relabelS sc cs).names.map (·.1)).Nodup := by
  have : (relabelS sc cs).names.map (·.1) = cs.names.map (·.1) := by
   unfold relabelS
   rw [List.map_map]
   refine List.map_congr_left fun x zz => ?_
   simp only [Function.comp]
   split <;> rfl
  rw [this]; exact ck.nodup
 have hkind : ∀ x, (compEnvOf cs s.heap.objs.size env).kindOf x = (relabelS sc cs).names.lookup x := fun x => by
  show (relabel cs env).names.lookup x = _
  rw [relabel_is hes]
 have free_kind : ∀ {x : PySem.Str}, (x, NameKind.free) ∈ cs.names → (relabelS sc cs).names.lookup x = some .cell ∨ (relabelS sc cs).names.lookup x = some .free := fun {x} hx => by
  by_cases q : sc.scope.names.lookup x = some .cell
  ·refine .inl (lookup_uniq rnodup (List.mem_map.mpr ⟨_, hx, ?_⟩))
   simp [q, hfn]
  ·refine .inr (lookup_uniq rnodup (List.mem_map.mpr ⟨_, hx, ?_⟩))
   simp [q]
 have apart : (compEnvOf cs s.heap.objs.size env).cells.Pairwise fun x y => x.2 ≠ y.2 := by
  show (cellsFrom (s.heap.objs.size + 1) cs.names (closL env.cells cs.names [])).Pairwise _
  rw [cellsFrom_app, List.pairwise_append]
  refine ⟨ok.apart, ?_, fun x hx y hy e => ?_⟩
  ·have hn := closL_nodup (cells := env.cells) (acc := []) ck.nodup (by simp) (by simp)
   refine (List.pairwise_map.mp hn).imp_of_mem fun {x y} hx hy hne e => hne ?_
   obtain ⟨x1, x2⟩ := x
   obtain ⟨y1, y2⟩ := y
   have e1 := (clm hx).2
   have e2 := (clm hy).2
   simp only at e; subst e
   exact name_of_addr I.e.ok.apart (mem_of_lookup e1) (mem_of_lookup e2)
  ·have h1 := (ok.empty x.1 x.2 hx).2
   obtain ⟨⟨w, g1⟩, _⟩ := I.e.cells _ _ (clm hy).2
   have h2 := g1.lt
   rw [← e] at h2
   exact Nat.lt_irrefl _ (Nat.lt_of_lt_of_le h2 (Nat.le_of_succ_le h1))
 refine ⟨⟨fun b o e => hk b o (I.h.base b o e), I.h.len, I.h.nod, fun n c a hc ha => ?_, I.h.low, fun e he => ?_⟩, ⟨⟨?_, ?_, I.e.ok.globals, I.e.ok.builtins, apart, fun x k hx hkk => ?_⟩, fun a ha => ?_, List.mem_cons_self, ?_, fun x v hx => ?_, fun x c hx => ?_, fun x hx => ?_, fun x c hx hn hm => ?_⟩⟩
 ·obtain ⟨o, g1, g2⟩ := I.h.obj n c a hc ha
  exact ⟨o, hk a o g1, g2.mono (fun zz zz e => e) still⟩
 ·obtain ⟨k, L, o, g1, g2, g3⟩ := I.h.frs e he
  exact ⟨k, L, o, g1, hk L o g2, g3⟩
 ·exact relabel_is hes
 ·show (relabel cs env).kind = _
  exact ck.kind
 ·rcases kmem (mem_of_lookup hx) with ⟨q, _⟩ | ⟨q, q', _⟩
  ·rcases hkk with rfl | rfl
   ·obtain ⟨c, h1, _⟩ := look_cell q; exact ⟨c, h1⟩
   ·obtain ⟨c, h1, _⟩ := look_free q; exact ⟨c, h1⟩
  ·obtain ⟨c, h1, _⟩ := look_free q'; exact ⟨c, h1⟩
 ·obtain ⟨h1, h2⟩ := low (compOwn_fresh ha)
  refine ⟨h1, h2, ?_⟩
  rcases List.mem_cons.mp ha with q | q
  ·subst q; exact ⟨_, hC, .inl ⟨_, _, rfl⟩⟩
  ·obtain ⟨⟨n, c⟩, hc, rfl⟩ := List.mem_map.mp q
   obtain ⟨o, ho, hd⟩ := (ok.empty n c hc).1
   exact ⟨o, ho, .inr (.inl ⟨_, hd⟩)⟩
 ·refine ⟨_, (Heap.Ns.new s.heap (.type "dict")).keeps (pushCells_keeps _ _), fun x v hx hkk => ?_⟩
  obtain ⟨h1, _⟩ := restrict_some hx
  rw [hkind] at hkk
  rcases free_kind (hfr x h1) with q | q <;> (rw [q] at hkk; cases hkk)
 ·obtain ⟨h1, h2⟩ := restrict_some hx
  have hf := hfr x h1
  obtain ⟨c, hc1, hc2⟩ := look_free hf
  have hko : env.kindOf (Str.ofString x) = sc.scope.names.lookup (Str.ofString x) := by unfold Env.kindOf; rw [hes]
  refine .inr ⟨by rw [hkind]; exact free_kind hf, ?_⟩
  rcases I.e.cel x v h2 with q | ⟨_, c', w, g1, g2, g3⟩
  ·rw [hko] at q
   rcases ck.frees _ hf with q' | q' <;> (rw [q] at q'; cases q')
  ·rw [hc2] at g1; cases g1
   exact ⟨c, w, hc1, g2.keeps hk, g3.mono (fun zz zz e => e) still⟩
 ·rcases cells_split (mem_of_lookup hx) with ⟨_, q⟩ | ⟨_, q⟩
  ·obtain ⟨h1, h2⟩ := ok.empty _ _ q
   exact ⟨⟨_, h1⟩, (low (Heap.get?_none_of_le (Nat.le_of_succ_le h2))).1, fun e => by
    have e : c = s.heap.objs.size := e
    rw [e] at h2
    exact Nat.not_succ_le_self _ h2⟩
  ·obtain ⟨⟨w, g1⟩, g2, g3⟩ := I.e.cells _ _ q
   exact ⟨⟨w, g1.keeps hk⟩, g2, fun e => by
    have e : c = s.heap.objs.size := e
    have := g1.lt
    rw [e] at this
    exact Nat.lt_irrefl _ this⟩
 ·obtain ⟨⟨y, k⟩, hy, e⟩ := List.mem_map.mp hx
  obtain ⟨hy1, hy2⟩ := List.mem_filter.mp hy
  simp at hy2 e
  subst e; rw [hy2] at hy1
  obtain ⟨c, h1, h2⟩ := look_cell hy1
  exact ⟨c, h1, List.mem_cons_of_mem _ (List.mem_map.mpr ⟨_, h2, rfl⟩)⟩
 ·rcases cells_split (mem_of_lookup hx) with ⟨q, _⟩ | ⟨_, q⟩
  ·exact hn (List.mem_map.mpr ⟨(x, NameKind.cell), List.mem_filter.mpr ⟨q, by rfl⟩, rfl⟩)
  ·obtain ⟨⟨w, o, g1, _⟩, _⟩ := I.e.cells _ _ q
   rw [compOwn_fresh hm] at g1; cases g1
end
section
variable {prog : Program} {w : World} {A : Around} {R : Result → Shared → Prop} {s : Shared}
theorem compStart_two1 {elt t i t' i' : Expr} {ifs ifs' : List Expr} {scope : Scope} {pos : Pos} {it acc : Value} {env : Env}
  (h0 : codeAny (model prog w) A (.compLoop (.ListComp elt [⟨t, i, ifs, 0⟩, ⟨t', i', ifs', 0⟩] scope pos) 1 it acc env) R s)
  (h : wpAny (model prog w) A (pyIter it) (fun it' s' => codeAny (model prog w) A (.compLoop (.ListComp elt [⟨t, i, ifs, 0⟩, ⟨t', i', ifs', 0⟩] scope pos) 1 it' acc env) R s')
   (notedBy (model prog w) A env fun x s' => R (.error x) s') s) :
  codeAny (model prog w) A (.compStart (.ListComp elt [⟨t, i, ifs, 0⟩, ⟨t', i', ifs', 0⟩] scope pos) 1 it acc env) R s := by
 refine codeAny_of_tree ?_
 show wpAny _ _ ((compStart (.ListComp elt [⟨t, i, ifs, 0⟩, ⟨t', i', ifs', 0⟩] scope pos) 1 it acc env).onRaise (fun x => do noteFrame x env; standAt theWindowsPlace)) _ _ s
 refine wpAny_notedAt ?_
 unfold compStart
 show wpAny _ _ (ask >>= _) _ _ s
 refine wpAny_bind (wpAny_askSetting (wpAny_ite ?_))
 split
 ·first
   | exact wpAny_bind (wpAny_pure (wpAny_pure (And.intro rfl h0)))
   | exact wpAny_pure (And.intro rfl h0)
 ·first
   | exact wpAny_bind (wpAny_rule (wpAny_bind (wpAny_standAt (wpAny_bind (wpAny_mono h (fun it' s' h' => wpAny_pure (And.intro rfl h')) fun zz zz x => x)))))
   | (refine wpAny_bind (wpAny_rule ?_); show wpAny _ _ (standAt i'.pos >>= _) _ _ s; exact wpAny_bind (wpAny_standAt (wpAny_bind (wpAny_mono h (fun it' s' h' => wpAny_pure (And.intro rfl h')) fun zz zz x => x))))
end
section
variable {G : Glob} {sc : SC} {d : Nat}
noncomputable def bComp1 (it : AM AIt) (f : AV → AM Unit) (tst : AM Bool) (m : AM (List AV)) : AM (List AV) := do
 let ai ← it
 compLoop ai.gs f tst m ai.items
theorem acc_fp {A : Around} {tgt : Expr} {fr : List Env} {env : Env} {own μ : List Addr} {hp : AH} {ρ : List (String × AV)} {lo : Heap} {s : Shared} {ai : AIt} {I D : Addr} {fp wr jk : List Addr} {P : Nat → Value → Heap → Heap → Prop} {St : Nat → Heap → Prop} {xs pre : List AV} {vs : List Value}
  (O : ItOk G A tgt μ hp lo s ai I fp wr jk P St xs vs) (H : HInv G fr μ hp s) (e : EInv G sc env own μ ρ s) (acc : AccOk G own μ D s.heap pre) : ∀ b ∈ fp, b ∉ D :: own ∧ b ∉ frA fr := fun b hb => ⟨fun hm => by
  rcases List.mem_cons.mp hm with q | q
  ·subst q
   obtain ⟨ws, ⟨n, hw⟩, _⟩ := acc.row
   exact (O.apart H hb).1 _ acc.nμ acc.low hw (.inr (.inr ⟨rfl, _, _, rfl⟩))
  ·obtain ⟨g1, g2, o, g3, g4⟩ := e.ownp b q
   exact (O.apart H hb).1 o g1 g2 g3 g4, (O.apart H hb).2⟩
theorem em_comp {elt t i t' i' : Expr} {ifs ifs' : List Expr} {scope : Scope} {pos : Pos} {it : AM AIt} {f : AV → AM Unit} {tst : AM Bool} {m : AM (List AV)}
  (SI : SimI G sc d t' it i') (ST : SimTgt G sc d f t') (hT : TgtPure f) (STs : SimTs G sc d tst ifs') (SK : SimEm G sc d m (emElt elt))
  (hfs : autoParam (∀ (env : Env) (x : Value), foldedSetIterable i' env x = pure x) aR) :
  SimEm G sc d (bComp1 it f tst m) (emComp elt [⟨t, i, ifs, 0⟩, ⟨t', i', ifs', 0⟩] scope pos ⟨t', i', ifs', 0⟩ 1) := by
 intro A fr env own μ st s ys st' D pre hA I acc hm hl Q E h
 obtain ⟨ai, st₀, h1, h2⟩ := am_bind_some hm
 unfold emComp
 dsimp only
 refine wpAny_bind ?_
 refine wpAny_mono (SI A fr env own μ st s ai st₀ hA I h1 (fun ita s₁ => codeAny G.M A (.compStart (.ListComp elt [⟨t, i, ifs, 0⟩, ⟨t', i', ifs', 0⟩] scope pos) 1 ita (.ref D) env) (fun r s' => match r with | .ok f => Q () s' | .error e => cameBackBy G.M A env E e s') s₁) E fun Ia s₀ μ₀ fp wr jk P St xs vs x₀ I₀ O => ?_)
  (fun x s₁ h₁ => wpAny_bind (wpAny_standAt (wpAny_bind (wpAny_of_eq (hfs env x) (wpAny_bind (wpAny_holding (wpAny_mono h₁ (fun ita s₂ h₂ => wpAny_bind (wpAny_runOwn (codeAny_mono h₂ fun r s' hr => by cases r with | ok f => exact wpAny_pure hr | error e => exact hr))) fun zz zz e => e))))))) fun zz zz e => e
 have hacc := acc.ext (st' := st₀) I x₀
 have up : ∀ {μ μ' : List Addr} {hp hp' : AH} {s s' : Shared}, Ext own fr μ hp s μ' hp' s' → Ext (D :: own) fr μ hp s μ' hp' s' := fun x => x.more fun b hb => List.mem_cons_of_mem _ hb
 have loop : codeAny G.M A (.compLoop (.ListComp elt [⟨t, i, ifs, 0⟩, ⟨t', i', ifs', 0⟩] scope pos) 1 (.ref Ia) (.ref D) env) (fun r s' => match r with | .ok f => Q () s' | .error e => cameBackBy G.M A env E e s') s₀ :=
  compLoop_sound (own₂ := D :: own) ST hT STs SK turn_two1 hA I.h (up x₀) (fun zz q => q) I₀ O (acc_fp O I₀.h I₀.e hacc) (fun zz => O.st0) O.vals
   (fun b hb => (O.fpp b hb).imp id fun q => ⟨q.1, q.2.choose, q.2.choose_spec.1⟩) hacc h2 hl (fun zz zz => True) (fun zz zz zz zz => trivial) (fun zz zz => trivial) trivial fun s' μ' x' I' a' _ => h s' μ' x' I' a'
 exact compStart_two1 loop (O.walk.self 0 _ _ _ O.st0 loop)
theorem HInv.adopt {fr : List Env} {μ : List Addr} {hp : AH} {s : Shared} {D : Addr} {xs : List AV} {vs : List Value} (H : HInv G fr μ hp s) (hD : s.heap.PlainList D vs.toArray) (hr : VRs G μ s.heap xs vs) (hn : D ∉ μ) (hl : G.h₀.get? D = none) :
  HInv G fr (μ ++ [D]) (hp ++ [(.list xs, 0)]) s ∧ Still μ (μ ++ [D]) s.heap s.heap := by
 obtain ⟨n, ho⟩ := hD
 have hμ : ∀ (n : Nat) (b : Addr), μ[n]? = some b → (μ ++ [D])[n]? = some b := fun n b e => by
  rw [List.getElem?_append_left (List.getElem?_eq_some_iff.mp e).1]; exact e
 have still : Still μ (μ ++ [D]) s.heap s.heap := by
  rintro a o ha hc _ hm
  refine ⟨fun q => ?_, ha⟩
  rcases List.mem_append.mp q with q | q
  ·exact hm q
  ·simp at q; subst q; rw [ho] at ha; cases ha; simp at hc
 refine ⟨⟨H.base, by simp [H.len], ?_, fun n' c b hc hb => ?_, fun b hb => ?_, fun e he => ?_⟩, still⟩
 ·rw [List.nodup_append]
  exact ⟨H.nod, by simp, fun b hb c hc e => hn (by simp at hc; rw [← hc, ← e]; exact hb)⟩
 ·by_cases hlt : n' < hp.length
  ·rw [List.getElem?_append_left hlt] at hc
   rw [List.getElem?_append_left (by rw [H.len]; exact hlt)] at hb
   obtain ⟨o, h1, h2⟩ := H.obj n' c b hc hb
   exact ⟨o, h1, h2.mono hμ still⟩
  ·have hge : hp.length ≤ n' := Nat.le_of_not_lt hlt
   rw [List.getElem?_append_right hge] at hc
   rw [List.getElem?_append_right (by rw [H.len]; exact hge), H.len] at hb
   have hz : n' - hp.length = 0 := by
    have := (List.getElem?_eq_some_iff.mp hc).1
    simp at this; omega
   rw [hz] at hc hb
   simp at hc hb
   subst hc hb
   exact ⟨_, ho, (OR.list hr).mono hμ still⟩
 ·rcases List.mem_append.mp hb with q | q
  ·exact H.low b q
  ·simp at q; subst q; exact hl
 ·obtain ⟨k, L, o', h1, h2, ⟨es, m, h3⟩, h4, h5⟩ := H.frs e he
  refine ⟨k, L, o', h1, h2, ⟨es, m, h3⟩, fun hm => ?_, h5⟩
  rcases List.mem_append.mp hm with q | q
  ·exact h4 q
  ·simp at q; subst q; rw [ho] at h2; cases h2; cases h3
theorem EInv.adopt {env : Env} {own μ : List Addr} {ρ : List (String × AV)} {s : Shared} {D : Addr} {vs : List Value} (e : EInv G sc env own μ ρ s) (hD : s.heap.PlainList D vs.toArray) (hs : Still μ (μ ++ [D]) s.heap s.heap) (ho : D ∉ own) : EInv G sc env own (μ ++ [D]) ρ s where
 ok := e.ok
 ownp := fun a ha => by
  obtain ⟨h1, h2⟩ := e.ownp a ha
  refine ⟨fun q => ?_, h2⟩
  rcases List.mem_append.mp q with q | q
  ·exact h1 q
  ·simp at q; subst q; exact ho ha
 lown := e.lown
 loc := by
  obtain ⟨m, hn, hm⟩ := e.loc
  refine ⟨m, hn, fun y v hy hk => ?_⟩
  obtain ⟨w, g1, g2⟩ := hm y v hy hk
  exact ⟨w, g1, g2.mono (fun n b e => by rw [List.getElem?_append_left (List.getElem?_eq_some_iff.mp e).1]; exact e) hs⟩
 cel := fun y v hy => by
  rcases e.cel y v hy with q | ⟨q, c, w, g1, g2, g3⟩
  ·exact .inl q
  ·exact .inr ⟨q, c, w, g1, g2, g3.mono (fun n b e => by rw [List.getElem?_append_left (List.getElem?_eq_some_iff.mp e).1]; exact e) hs⟩
 cells := fun y c hy => by
  obtain ⟨⟨w, o, g1, g1'⟩, g2, g3⟩ := e.cells y c hy
  refine ⟨⟨w, o, g1, g1'⟩, fun q => ?_, g3⟩
  rcases List.mem_append.mp q with q | q
  ·exact g2 q
  ·simp at q; subst q
   obtain ⟨n, hn⟩ := hD
   rw [hn] at g1; cases g1; cases g1'
 cown := e.cown
 cnot := e.cnot
theorem Inv.sameBut {fr : List Env} {env : Env} {own μ : List Addr} {st : AS} {s : Shared} {C : Addr} {h' : Heap} {m : PySem.Str → Option Value} (I : Inv G sc fr env own μ st s) (hs : Heap.SameBut C s.heap h') (hn : s.heap.Ns C m) (h1 : C ∉ μ) (h2 : C ∉ own) (h3 : G.h₀.get? C = none) (h4 : C ∉ frA fr) :
  Inv G sc fr env own μ st { s with heap := h' } := by
 obtain ⟨oc, es, ep, hoc, hdc, _⟩ := hn
 have ne : ∀ {b : Addr} {o : Obj}, s.heap.get? b = some o → (∀ es n, o.data ≠ .dict es n) → h'.get? b = some o := fun {b o} e k => (hs.2 b fun q => by subst q; rw [hoc] at e; cases e; exact k _ _ hdc).trans e
 have still : Still μ μ s.heap h' := by
  rintro a o ha hc zI4 hm
  obtain ⟨ws, n, hd⟩ := zI4
  exact ⟨hm, ne ha fun es n q => by rw [hd] at q; cases q⟩
 have inμ : ∀ {b : Addr}, b ∈ μ → b ≠ C := fun hb q => h1 (q ▸ hb)
 have inown : ∀ {b : Addr}, b ∈ own → b ≠ C := fun hb q => h2 (q ▸ hb)
 refine ⟨⟨fun b o e => (hs.2 b fun q => by subst q; rw [h3] at e; cases e).trans (I.h.base b o e), I.h.len, I.h.nod, fun n c b hc hb => ?_, I.h.low, fun e he => ?_⟩, ⟨I.e.ok, fun b hb => ?_, I.e.lown, ?_, fun y u hy => ?_, fun y c hy => ?_, I.e.cown, I.e.cnot⟩⟩
 ·obtain ⟨o, g1, g2⟩ := I.h.obj n c b hc hb
  exact ⟨o, (hs.2 b (inμ (List.mem_of_getElem? hb))).trans g1, g2.mono (fun zz zz e => e) still⟩
 ·obtain ⟨k, L, o, g1, g2, g3⟩ := I.h.frs e he
  exact ⟨k, L, o, g1, (hs.2 L fun q => h4 (q ▸ List.mem_filterMap.mpr ⟨e, he, g1⟩)).trans g2, g3⟩
 ·obtain ⟨g1, g2, o, g3, g4⟩ := I.e.ownp b hb
  exact ⟨g1, g2, o, (hs.2 b (inown hb)).trans g3, g4⟩
 ·obtain ⟨mm, hn, hmm⟩ := I.e.loc
  refine ⟨mm, hn.sameBut hs (inown I.e.lown), fun y u hy hk => ?_⟩
  obtain ⟨w', g1, g2⟩ := hmm y u hy hk
  exact ⟨w', g1, g2.mono (fun zz zz e => e) still⟩
 ·rcases I.e.cel y u hy with q' | ⟨q', c, w', g1, ⟨oo, g2, g2'⟩, g3⟩
  ·exact .inl q'
  ·exact .inr ⟨q', c, w', g1, ⟨oo, ne g2 (fun es n q => by rw [g2'] at q; cases q), g2'⟩, g3.mono (fun zz zz e => e) still⟩
 ·obtain ⟨⟨w', oo, g1, g1'⟩, g2, g3⟩ := I.e.cells y c hy
  exact ⟨⟨w', oo, ne g1 (fun es n q => by rw [g1'] at q; cases q), g1'⟩, g2, g3⟩
noncomputable def kCompEnd (e : List (String × AV)) (Q : AV → AS → Prop) : List AV → AS → Prop := fun ys st => ys.length ≤ 1000000 ∧ Q (.ref st.hp.length) ⟨e, st.hp ++ [(.list ys, 0)]⟩
noncomputable def kComp (frees : List String) (f : AV → AM Unit) (tst : AM Bool) (m : AM (List AV)) (Q : AV → AS → Prop) : AIt → AS → Prop := fun ai st => (compLoop ai.gs f tst m ai.items).wp (kCompEnd st.env Q) ⟨restrict frees st.env, st.hp⟩
noncomputable def compR (frees : List String) (it : AM AIt) (f : AV → AM Unit) (tst : AM Bool) (m : AM (List AV)) (st : AS) : Option (AV × AS) := match it st with
 | some (ai, st₁) => (match compLoop ai.gs f tst m ai.items { env := restrict frees st₁.env, hp := st₁.hp } with
  | some (ys, st₂) => if ys.length ≤ 1000000 then some (.ref st₂.hp.length, { env := st₁.env, hp := st₂.hp ++ [(.list ys, 0)] }) else none
  | none => none)
 | none => none
noncomputable def bComp (frees : List String) (it : AM AIt) (f : AV → AM Unit) (tst : AM Bool) (m : AM (List AV)) : AM AV := ⟨compR frees it f tst m, fun Q st => it.wp (kComp frees f tst m Q) st, fun h => by
 obtain ⟨ai, s₁, e, k⟩ := it.ok h
 obtain ⟨ys, s₂, e', k'⟩ := (compLoop ai.gs f tst m ai.items).ok k
 refine ⟨_, _, ?_, k'.2⟩
 unfold compR
 simp only [e, e', if_pos k'.1], fun h k => it.mono h fun zz zz h' => (compLoop _ f tst m _).mono h' fun zz zz q => ⟨q.1, k _ _ q.2⟩⟩
structure CompEnd (G : Glob) (sc : SC) (fr : List Env) (env : Env) (own μ : List Addr) (st : AS) (s : Shared) (μ' : List Addr) (st' : AS) (D C : Addr) (s' : Shared) : Prop where
 x : XT own fr μ st s (μ' ++ [D]) st' s'
 i : Inv G sc fr env own (μ' ++ [D]) st' s'
 ns : ∃ m, s'.heap.Ns C m
 cμ : C ∉ μ' ++ [D]
 cown : C ∉ own
 clow : G.h₀.get? C = none
 cfr : C ∉ frA fr
 cs : s.heap.get? C = none
theorem CompEnd.sameBut {fr : List Env} {env : Env} {own μ μ' : List Addr} {st st' : AS} {s s' : Shared} {D C : Addr} {h' : Heap} (e : CompEnd G sc fr env own μ st s μ' st' D C s') (hs : Heap.SameBut C s'.heap h') :
  XT own fr μ st s (μ' ++ [D]) st' { s' with heap := h' } ∧ Inv G sc fr env own (μ' ++ [D]) st' { s' with heap := h' } := by
 obtain ⟨m, hn⟩ := e.ns
 have I' := e.i.sameBut hs hn e.cμ e.cown e.clow e.cfr
 refine ⟨⟨e.x.pre, ?_, fun b o h => ?_, fun b o h hm ho => ?_, fun n c hc => ?_⟩, I'⟩
 ·obtain ⟨h1, tk, q⟩ := e.x.same
  exact ⟨h', tk, by rw [q]⟩
 ·obtain ⟨o', h1⟩ := e.x.alive b o h
  exact ⟨o', (hs.2 b fun q => by subst q; rw [e.cs] at h; cases h).trans h1⟩
 ·obtain ⟨sl, h1, h2⟩ := e.x.keep b o h hm ho
  exact ⟨sl, (hs.2 b fun q => by subst q; rw [e.cs] at h; cases h).trans h1, h2⟩
 ·obtain ⟨c', h1, h2, h3⟩ := e.x.vers n c hc
  refine ⟨c', h1, h2, fun q => ?_⟩
  obtain ⟨r, k⟩ := h3 q
  refine ⟨r, fun a ha => (hs.2 a fun q => ?_).trans (k a ha)⟩
  subst q
  exact e.cμ (List.mem_of_getElem? (e.x.mu ha))
theorem comp_core {elt : Expr} {t i : Expr} {ifs : List Expr} {rest : List Comprehension} {cs : Scope} {pos : Pos} {frees : List String} {it : AM AIt} {f : AV → AM Unit} {tst : AM Bool} {m : AM (List AV)} {K : Env → Value → Sem Unit}
  (ck : CompOk sc cs) (hfr : ∀ x ∈ frees, (Str.ofString x, NameKind.free) ∈ cs.names) (SI : SimI G sc d t it i) (ST : SimTgt G (compSC sc cs) d f t) (hT : TgtPure f) (STs : SimTs G (compSC sc cs) d tst ifs) (SK : SimEm G (compSC sc cs) d m K)
  (hturn : ∀ (ita acc : Value) (env : Env), compTurn (.ListComp elt (⟨t, i, ifs, 0⟩ :: rest) cs pos) 0 ita acc env = turnForm i.pos t ifs K (.compLoop (.ListComp elt (⟨t, i, ifs, 0⟩ :: rest) cs pos) 0 ita acc env) ita acc env)
  {A : Around} {fr : List Env} {env : Env} {own μ : List Addr} {st st' : AS} {s : Shared} {v : AV} (hA : AOk A fr true d) (I : Inv G sc fr env own μ st s) (hm : bComp frees it f tst m st = some (v, st')) {RR : Value → Addr → Result → Shared → Prop} {E : Value → Shared → Prop}
  (hRR : ∀ D C s' μ', CompEnd G sc fr env own μ st s μ' st' D C s' → VR G (μ' ++ [D]) s'.heap v (.ref D) → RR (.ref D) C (.ok .next) s') :
  wpAny G.M A (eval i env) (fun x s₁ => wpAny G.M A (pyIter x) (fun ita s₂ => wpAny G.M A (newList []) (fun acc s₃ =>
   wpAny G.M A (newFunctionEnv cs env.globals (closL env.cells cs.names []) [] env.qual none .none (some env)) (fun cenv s₄ =>
    codeAny G.M A (.compStart (.ListComp elt (⟨t, i, ifs, 0⟩ :: rest) cs pos) 0 ita acc { cenv with scope := relabel cs env }) (RR acc cenv.locals) s₄) E s₃) E s₂) E s₁) E s := by
 change compR frees it f tst m st = _ at hm
 unfold compR at hm
 split at hm
 ·rename_i ai st₁ h1
  split at hm
  ·rename_i ys st₂ h2
   split at hm
   ·rename_i hlen
    cases hm
    refine SI A fr env own μ st s ai st₁ hA I h1 _ _ fun Ia s₁ μ₁ fp wr jk P St xs vs x₁ I₁ O => ?_
    refine wpAny_newObj_type (hd := by size_fits) ?_
    generalize hH2 : s₁.heap.push { cls := .type "list", dict := none, data := .seq ([] : List Value).toArray } = H2
    have kD : ∀ b o, s₁.heap.get? b = some o → H2.get? b = some o := fun b o e => hH2 ▸ Heap.get?_push_of_some _ e
    have hDn : s₁.heap.get? s₁.heap.objs.size = none := Heap.get?_none_of_le (Nat.le_refl _)
    have hDg : H2.get? s₁.heap.objs.size = some { cls := .type "list", data := .seq ([] : List Value).toArray } := hH2 ▸ Heap.get?_push_size _ rfl
    have g2 := I₁.h.grow (h' := H2) (tk := s₁.toks) kD
    have I₂ : Inv G sc fr env own μ₁ st₁ { s₁ with heap := H2 } := I₁.heap g2.2 g2.1
    refine newComp_is fun cenv hce hcl => ?_
    rw [hce, hcl]
    have I₃ := comp_env (frees := frees) ck hfr I₂ s₁.toks
    dsimp only at I₃ ⊢
    have hCn : ∀ {a : Addr}, a ∈ compOwn cs H2.objs.size → H2.get? a = none := fun h => compOwn_fresh h
    have hDC : s₁.heap.objs.size ∉ compOwn cs H2.objs.size := fun q => by have := hCn q; rw [hDg] at this; cases this
    have back : ∀ {a : Addr}, H2.get? a = none → s₁.heap.get? a = none := fun {a} h => by
     cases e : s₁.heap.get? a with
     | none => rfl
     | some o => rw [kD a o e] at h; cases h
    have back0 : ∀ {a : Addr}, s₁.heap.get? a = none → s.heap.get? a = none := fun {a} h => by
     cases e : s.heap.get? a with
     | none => rfl
     | some o => obtain ⟨o', e'⟩ := x₁.alive a o e; rw [h] at e'; cases e'
    have kC : ∀ b o, H2.get? b = some o → (compHeap cs H2).get? b = some o := fun b o e => compHeap_keeps e
    have g3 := I₂.h.grow (h' := compHeap cs H2) (tk := s₁.toks) kC
    dsimp only at g3
    have hDlow : G.h₀.get? s₁.heap.objs.size = none := by
     cases e : G.h₀.get? s₁.heap.objs.size with
     | none => rfl
     | some o => have := I₁.h.base _ _ e; rw [hDn] at this; cases this
    have hDμ : s₁.heap.objs.size ∉ μ₁ := fun hm => Nat.lt_irrefl _ (I₁.h.lt hm)
    have acc : AccOk G (compOwn cs H2.objs.size) μ₁ s₁.heap.objs.size (compHeap cs H2) [] := ⟨⟨[], ⟨_, kC _ _ hDg⟩, .nil⟩, hDμ, hDC, hDlow⟩
    have xA : Ext (s₁.heap.objs.size :: compOwn cs H2.objs.size ++ own) fr μ st.hp s μ₁ st₁.hp { s₁ with heap := compHeap cs H2 } :=
     Ext.trans I.h.len (x₁.more fun b hb => List.mem_append_right _ hb) (Ext.trans I₁.h.len (g2.2.weaken) (g3.2.weaken))
    have kAll : ∀ b o, s₁.heap.get? b = some o → (compHeap cs H2).get? b = some o := fun b o e => kC b o (kD b o e)
    have hst : St 0 (compHeap cs H2) := O.walk.frame 0 _ _ O.st0 fun b zz o e => kAll b o e
    have ownOld : ∀ a ∈ own, a ∉ s₁.heap.objs.size :: compOwn cs H2.objs.size := fun a ha hm => by
     obtain ⟨_, _, o, g3, _⟩ := I₁.e.ownp a ha
     rcases List.mem_cons.mp hm with q | q
     ·subst q; rw [hDn] at g3; cases g3
     ·rw [back (hCn q)] at g3; cases g3
    have cellsOld : ∀ y c, env.cells.lookup y = some c → c ∉ s₁.heap.objs.size :: compOwn cs H2.objs.size := fun y c hy hm => by
     obtain ⟨⟨w, o, g3, _⟩, _⟩ := I₁.e.cells y c hy
     rcases List.mem_cons.mp hm with q | q
     ·subst q; rw [hDn] at g3; cases g3
     ·rw [back (hCn q)] at g3; cases g3
    have hfp : ∀ b ∈ fp, b ∉ s₁.heap.objs.size :: compOwn cs H2.objs.size ∧ b ∉ frA fr := fun b hb => by
     refine ⟨fun hm => ?_, (O.apart I₁.h hb).2⟩
     have ex : ∃ o, s₁.heap.get? b = some o := by
      rcases O.fpp b hb with ⟨g, hg, q⟩ | ⟨_, o, q, _⟩
      ·have hl := (List.getElem?_eq_some_iff.mp q).1
       rw [I₁.h.len] at hl
       obtain ⟨o, ho, _⟩ := I₁.h.obj _ _ b (List.getElem?_eq_getElem hl) q
       exact ⟨o, ho⟩
      ·exact ⟨o, q⟩
     obtain ⟨o, ho⟩ := ex
     rcases List.mem_cons.mp hm with q | q
     ·subst q; rw [hDn] at ho; cases ho
     ·rw [back (hCn q)] at ho; cases ho
    have loop : codeAny G.M A (.compLoop (.ListComp elt (⟨t, i, ifs, 0⟩ :: rest) cs pos) 0 (.ref Ia) (.ref s₁.heap.objs.size) (compEnvOf cs H2.objs.size env)) (RR (.ref s₁.heap.objs.size) H2.objs.size) { s₁ with heap := compHeap cs H2 } := by
     refine compLoop_sound (st₀ := { st₁ with env := restrict frees st₁.env }) (own₂ := s₁.heap.objs.size :: compOwn cs H2.objs.size ++ own) ST hT STs SK hturn hA I.h xA (fun b hb => List.mem_append_left _ hb) I₃ O hfp (fun zz => hst) (O.vals.mono (fun zz zz e => e) (Still.of_keeps kAll))
      (fun b hb => (O.fpp b hb).imp id fun q => ⟨q.1, q.2.choose, kAll _ _ q.2.choose_spec.1⟩) acc h2 (by simpa using hlen) (fun μ' s' => EInv G sc env own μ' st₁.env s') ?_ ?_ (I₂.e.after (fr := fr) (own' := []) I₂.h (by intro a ha; cases ha) g3.2 (by simp) (by simp) (by simp)) ?_
     ·intro μa μb hpa hpb sa sb Ha Ka xa Za
      exact Za.after Ha Ka xa (ownOld _ I₁.e.lown) ownOld cellsOld
     ·intro μa sa ha tka ka Za
      exact Za.kept ka
     ·intro s' μ' x' I' a' Z'
      obtain ⟨⟨ws, hw, hwr⟩, n1, n2, n3⟩ := a'
      simp only [List.nil_append] at hwr
      obtain ⟨HA, hstill⟩ := I'.h.adopt hw hwr n1 n3
      have hCown : H2.objs.size ∈ compOwn cs H2.objs.size := List.mem_cons_self
      obtain ⟨c1, c2, oc, c3, _⟩ := I'.e.ownp _ hCown
      obtain ⟨mm, hns, _⟩ := I'.e.loc
      refine hRR _ _ s' μ' ⟨⟨?_, x'.same, x'.alive, fun b o hb hbm hbo => ?_, fun n c hc => ?_⟩, ⟨HA, Z'.adopt hw hstill fun q => ?_⟩, ⟨mm, hns⟩, fun q => ?_, fun q => ?_, c2, fun q => ?_, back0 (back (hCn hCown))⟩ ?_
      ·obtain ⟨ν, rfl, hν⟩ := x'.pre
       refine ⟨ν ++ [s₁.heap.objs.size], by simp, fun a ha => ?_⟩
       rcases List.mem_append.mp ha with q | q
       ·exact hν a q
       ·simp at q; subst q; exact back0 hDn
      ·refine x'.keep b o hb hbm fun q => ?_
       rcases List.mem_append.mp q with q | q
       ·rcases List.mem_cons.mp q with q | q
        ·subst q; rw [back0 hDn] at hb; cases hb
        ·rw [back0 (back (hCn q))] at hb; cases hb
       ·exact hbo q
      ·obtain ⟨c', q1, q2, q3⟩ := x'.vers n c hc
       exact ⟨c', by rw [List.getElem?_append_left (List.getElem?_eq_some_iff.mp q1).1]; exact q1, q2, q3⟩
      ·exact ownOld _ q List.mem_cons_self
      ·rcases List.mem_append.mp q with q | q
       ·exact c1 q
       ·simp at q; exact hDC (q ▸ hCown)
      ·exact ownOld _ q (List.mem_cons_of_mem _ hCown)
      ·obtain ⟨e, he, hf⟩ := List.mem_filterMap.mp q
       obtain ⟨_, L, o, hL, ho, _⟩ := I.h.frs e he
       rw [hf] at hL; cases hL
       rw [back0 (back (hCn hCown))] at ho; cases ho
      ·exact ref_new I'.h.len
    exact codeAny_compStart_list loop (O.walk.self 0 _ _ _ hst loop)
   ·cases hm
  ·cases hm
 ·cases hm
theorem Inv.clos {fr : List Env} {env : Env} {own μ : List Addr} {st : AS} {s : Shared} {cs : Scope} (ck : CompOk sc cs) (I : Inv G sc fr env own μ st s) : closureFor cs env = pure (closL env.cells cs.names []) :=
 closureFor_is fun x hx hk => by
  obtain ⟨n, k⟩ := x
  simp only at hk; subst hk
  rcases ck.frees n hx with q | q
  ·exact I.e.ok.cellok n _ q (.inl rfl)
  ·exact I.e.ok.cellok n _ q (.inr rfl)
theorem sim_comp {elt : Expr} {t i : Expr} {ifs : List Expr} {rest : List Comprehension} {cs : Scope} {pos : Pos} {frees : List String} {it : AM AIt} {f : AV → AM Unit} {tst : AM Bool} {m : AM (List AV)} {K : Env → Value → Sem Unit}
  (ck : CompOk sc cs) (hfr : ∀ x ∈ frees, (Str.ofString x, NameKind.free) ∈ cs.names) (SI : SimI G sc d t it i) (ST : SimTgt G (compSC sc cs) d f t) (hT : TgtPure f) (STs : SimTs G (compSC sc cs) d tst ifs) (SK : SimEm G (compSC sc cs) d m K)
  (hturn : ∀ (ita acc : Value) (env : Env), compTurn (.ListComp elt (⟨t, i, ifs, 0⟩ :: rest) cs pos) 0 ita acc env = turnForm i.pos t ifs K (.compLoop (.ListComp elt (⟨t, i, ifs, 0⟩ :: rest) cs pos) 0 ita acc env) ita acc env)
  (hfs : autoParam (∀ (env : Env) (x : Value), foldedSetIterable i env x = pure x) aR) :
  SimE G sc true d (bComp frees it f tst m) (.ListComp elt (⟨t, i, ifs, 0⟩ :: rest) cs pos) := by
 intro A fr env own μ st s v st' hA I hm Q E h
 show wpAny _ _ (eval _ env) _ _ _
 rw [eval_ListComp]
 refine wpAny_comprehension_free (use := none) rfl (hfs env) (I.clos ck) ck.kind (fun x hx hl => ?_) (comp_core ck hfr SI ST hT STs SK hturn hA I hm fun D C s' μ' e r => ?_)
 ·obtain ⟨n, k⟩ := x
  simp only at hl; subst hl
  exact lookup_uniq ck.nodup hx
 ·obtain ⟨m', hn⟩ := e.ns
  refine ⟨m', hn, fun h' hs => ?_⟩
  obtain ⟨x', I'⟩ := e.sameBut hs
  refine h _ _ _ x' I' ?_
  cases r with
  | ref k => exact .ref k
  | tup h1 h2 h3 h4 h5 => exact absurd (List.mem_append_right _ (List.mem_singleton.mpr rfl)) h4
  | fn k => exact .fn k
  | script a b c d => exact .script a b c d
noncomputable def swapB (sc : SC) (cs : Scope) (y : PySem.Str) (py pos : Pos) : Bool := sc.scope.names.lookup y == some NameKind.local && py.line == pos.line && !(cs.names.any fun x => x.1 == y && (x.2 == NameKind.local || x.2 == NameKind.cell))
theorem swaps_comp {elt : Expr} {gens : List Comprehension} {cs : Scope} {pos py : Pos} {y : PySem.Str} {line : Nat} {env : Env} (ok : EnvOk sc env) : swapsWith (.ListComp elt gens cs pos) (some (.Name y py)) line env = pure (swapB sc cs y py pos) := by
 have hb : env.blockKind = .function := by unfold Env.blockKind; rw [ok.fn]; rfl
 have hk : env.kindOf y = sc.scope.names.lookup y := by unfold Env.kindOf; rw [ok.scope]
 show pure (env.blockKind == .function && env.kindOf y == some .local && py.line == pos.line && !(cs.names.any fun x => x.1 == y && (x.2 == NameKind.local || x.2 == NameKind.cell))) = _
 rw [hb, hk]; rfl
theorem sims_setC {x : String} {elt : Expr} {t i : Expr} {ifs : List Expr} {rest : List Comprehension} {cs : Scope} {pos p spos : Pos} {frees : List String} {it : AM AIt} {f : AV → AM Unit} {tst : AM Bool} {m : AM (List AV)} {K : Env → Value → Sem Unit}
  (hx : StoreOk sc x) (ck : CompOk sc cs) (hfr : ∀ x ∈ frees, (Str.ofString x, NameKind.free) ∈ cs.names) (SI : SimI G sc d t it i) (ST : SimTgt G (compSC sc cs) d f t) (hT : TgtPure f) (STs : SimTs G (compSC sc cs) d tst ifs) (SK : SimEm G (compSC sc cs) d m K)
  (hturn : ∀ (ita acc : Value) (env : Env), compTurn (.ListComp elt (⟨t, i, ifs, 0⟩ :: rest) cs pos) 0 ita acc env = turnForm i.pos t ifs K (.compLoop (.ListComp elt (⟨t, i, ifs, 0⟩ :: rest) cs pos) 0 ita acc env) ita acc env)
  (hfs : autoParam (∀ (env : Env) (x : Value), foldedSetIterable i env x = pure x) aR) :
  Sim1 G sc true d (bSet x (bComp frees it f tst m)) (.Assign [.Name (Str.ofString x) p] (.ListComp elt (⟨t, i, ifs, 0⟩ :: rest) cs pos) spos) := by
 intro A outer env own μ st s fl st' hA hf I hm Q E h hE
 have sw := swaps_comp (elt := elt) (gens := ⟨t, i, ifs, 0⟩ :: rest) (cs := cs) (pos := pos) (py := p) (y := Str.ofString x) (line := spos.line) I.e.ok
 cases hsw : swapB sc cs (Str.ofString x) p pos with
 | false =>
  rw [hsw] at sw
  refine wpAny_Assign_Name (sim_bind2 (sim_comp ck hfr SI ST hT STs SK hturn hfs) hA I hm fun v st₁ w s₁ μ₁ hm₁ x₁ I₁ r₁ => ?_) sw
  cases hm₁
  exact store_is I₁ r₁ hx fun s₂ x₂ I₂ => h _ _ _ (I.trans x₁ x₂) I₂ .next
 | true =>
  rw [hsw] at sw
  obtain ⟨v, st₁, hm1, hm2⟩ := am_bind_some hm
  cases hm2
  show wpAny _ _ (exec _ env) _ _ _
  rw [exec_Assign_Name_used _ _ _ _ sw]
  refine wpAny_bind (wpAny_standAt (wpAny_bind ?_))
  show wpAny _ A (do let _ ← comprehension (.ListComp elt (⟨t, i, ifs, 0⟩ :: rest) cs pos) cs env _ (newList []) false (eval i env) (some (assign (.Name (Str.ofString x) p) env))) _ _ s
  refine wpAny_bind (wpAny_mono (wpAny_comprehension_free (use := some (assign (.Name (Str.ofString x) p) env)) (Q := fun zz s' => Q .next s') rfl (hfs env) (I.clos ck) ck.kind (fun x hx hl => ?_)
   (comp_core ck hfr SI ST hT STs SK hturn hA I hm1 fun D C s' μ' e r => ?_)) (fun zz s' hq => wpAny_pure (wpAny_pure hq)) fun zz zz e => e)
  ·obtain ⟨n, k⟩ := x
   simp only at hl; subst hl
   exact lookup_uniq ck.nodup hx
  ·show wpAny _ A (assign (.Name (Str.ofString x) p) env (.ref D)) _ _ _
   refine wpAny_assign_Name (store_is e.i r hx fun s₂ x₂ I₂ => ?_)
   obtain ⟨mm, hn⟩ := e.ns
   have hn₂ : s₂.heap.Ns C mm := Ns_slots hn fun o ho => by
    obtain ⟨sl, g, _⟩ := x₂.keep C o ho e.cμ e.cown
    exact ⟨sl, g⟩
   refine ⟨mm, hn₂, fun h' hs => ?_⟩
   have e₂ : CompEnd G sc (env :: outer) env own μ st s μ' { st₁ with env := put x v st₁.env } D C s₂ := ⟨I.trans e.x x₂, I₂, ⟨mm, hn₂⟩, e.cμ, e.cown, e.clow, e.cfr, e.cs⟩
   obtain ⟨x', I'⟩ := e₂.sameBut hs
   exact h _ _ _ x' I' .next
end
inductive TgtShape : Expr → Prop
 | name (x : PySem.Str) (p : Pos) : TgtShape (.Name x p)
 | tup (es : List Expr) (k : Nat) (p : Pos) : TgtShape (.Tuple es k p)
section
variable {G : Glob} {A : Around}
theorem WalkG.ofWalks' {tgt : Expr} {I : Addr} {fp wr : List Addr} {n : Nat} {P : Nat → Value → Prop} {St : Nat → Heap → Prop} (W : Walks G.prog G.w A I fp wr n P St)
  (hgo : ∀ i v (s : Shared) (R : Unit → Shared → Prop) (E : Value → Shared → Prop), P i v → St (i + 1) s.heap → R () s → wpAny G.M A (letOwnedTupleGo tgt (.ref I) v) R E s) : WalkG G A tgt I fp wr [] n (fun i v zz zz => P i v) St where
 sub := W.sub
 frame := W.frame
 item := fun i s Q E hi st hQ => W.item i s Q E hi st fun v h' tk hP hst hk => hQ v h' tk hk fun R E' hR => hgo i v _ R E' hP hst (hR h' hP hst fun zz zz zz e => e)
 done := fun s Q E hst hQ => W.done s Q E hst fun h' tk hk => hQ h' tk hk (by simp)
 self := W.self
theorem go_plain {tgt : Expr} {I : Addr} {o : Obj} {n : String} {v : Value} {s : Shared} {R : Unit → Shared → Prop} {E : Value → Shared → Prop} (ht : TgtShape tgt) (ho : s.heap.get? I = some o) (hc : o.cls = .type n)
  (hn : ["enumerate", "zip", "dict_itemiterator", "dict_reverseitemiterator", "odict_iterator", "itertools.zip_longest", "itertools.pairwise"].contains n = false) (h : R () s) : wpAny G.M A (letOwnedTupleGo tgt (.ref I) v) R E s := by
 cases ht with
 | name => exact wpAny_pure h
 | tup es k p =>
  cases v with
  | ref T =>
   unfold letOwnedTupleGo
   refine wpAny_bind (wpAny_load ho ?_)
   rw [hc]
   cases o.data with
   | fields vs =>
    simp only [hn, Bool.false_and, Bool.false_eq_true, if_false]
    exact wpAny_pure h
   | _ => exact wpAny_pure h
  | _ => exact wpAny_pure h
end
section
variable {G : Glob} {sc : SC} {hd : Bool} {d : Nat}
noncomputable def itemsOf (v : AV) (hp : AH) : Option AIt :=
 bE (bO v.tup? fun xs => some ⟨[], xs⟩) (bE (bL hp v fun r xs k => some ⟨[(r, (.list xs, k))], xs⟩) (bD hp v fun r es k => some ⟨[(r, (.dict es, k))], es.map fun e => .int e.1⟩))
noncomputable def bIter (m : AM AV) : AM AIt := do
 let v ← m
 see (itemsOf v)
theorem KVs.length {μ : List Addr} {h : Heap} {xs : List (Int × AV)} {es : List (Int × Value)} (d : KVs G μ h xs es) : xs.length = es.length := by
 induction d with
 | nil => rfl
 | cons _ _ ih => exact congrArg (· + 1) ih
theorem KVs.get {μ : List Addr} {h : Heap} {xs : List (Int × AV)} {es : List (Int × Value)} (d : KVs G μ h xs es) : ∀ {i : Nat} {k : Int} {v : Value}, es[i]? = some (k, v) → ∃ x, xs[i]? = some (k, x) ∧ VR G μ h x v := by
 induction d with
 | nil => intro i k v e; simp at e
 | cons h1 _ ih =>
  intro i k v e
  cases i with
  | zero => cases e; exact ⟨_, rfl, h1⟩
  | succ i => exact ih e
theorem KVs.vals {μ : List Addr} {h : Heap} {xs : List (Int × AV)} {es : List (Int × Value)} (d : KVs G μ h xs es) : VRs G μ h (xs.map (·.2)) (es.map (·.2)) := by
 induction d with
 | nil => exact .nil
 | cons h1 _ ih => exact .cons h1 ih
theorem VRs.get' {μ : List Addr} {h : Heap} {xs : List AV} {vs : List Value} (k : VRs G μ h xs vs) : ∀ {i : Nat} {v : Value}, vs[i]? = some v → ∃ x, xs[i]? = some x ∧ VR G μ h x v :=
 k.ind (P := fun xs vs => ∀ {i : Nat} {v : Value}, vs[i]? = some v → ∃ x, xs[i]? = some x ∧ VR G μ h x v) (fun e => by simp at e) fun h1 zz ih i x e => by
  cases i with
  | zero => cases e; exact ⟨_, rfl, h1⟩
  | succ i => exact ih e
theorem isInt_VR {μ : List Addr} {h : Heap} {k : Int} {v : Value} (e : (intKind G.prog G.w).is k v = true) : VR G μ h (.int k) v := by
 obtain ⟨t, rfl⟩ := Value.isInt_shape e
 exact .int _ _
structure Fresh (G : Glob) (μ : List Addr) (s : Shared) (I : Addr) : Prop where
 n : s.heap.get? I = none
 μ : I ∉ μ
 low : G.h₀.get? I = none
theorem HInv.fresh {fr : List Env} {μ : List Addr} {hp : AH} {s : Shared} (H : HInv G fr μ hp s) {I : Addr} (h : s.heap.get? I = none) : Fresh G μ s I := by
 refine ⟨h, fun hm => ?_, ?_⟩
 ·obtain ⟨n, hn⟩ := List.getElem?_of_mem hm
  have hl := (List.getElem?_eq_some_iff.mp hn).1
  rw [H.len] at hl
  obtain ⟨o, ho, _⟩ := H.obj n _ I (List.getElem?_eq_getElem hl) hn
  rw [h] at ho; cases ho
 ·cases e : G.h₀.get? I with
  | none => rfl
  | some o => have := H.base _ _ e; rw [h] at this; cases this
theorem fields_not_lock {o : Obj} {fs : Array Value} (h : o.data = .fields fs) : ¬ LocK o := fun k => k.noFields h
theorem itOk_one {A : Around} {tgt : Expr} {μ : List Addr} {hp : AH} {lo : Heap} {s : Shared} {h' : Heap} {tk : Nat} {I : Addr} {src : List Addr} {ai : AIt} {P : Nat → Value → Prop} {St : Nat → Heap → Prop} {xs : List AV} {vs : List Value} {oI : Obj} {fs : Array Value}
  (W : WalkG G A tgt I (I :: src) [I] [] ai.items.length (fun i v zz zz => P i v) St) (F : Fresh G μ s I) (hlo : ∀ b o, lo.get? b = some o → ∃ o', s.heap.get? b = some o') (hI : h'.get? I = some oI) (hf : oI.data = .fields fs) (hst : St 0 h') (hg : ∀ g ∈ ai.gs, hp[g.1]? = some g.2)
  (hsrc : ∀ b ∈ src, (∃ g ∈ ai.gs, μ[g.1]? = some b) ∨ (b ∉ μ ∧ ∃ o, h'.get? b = some o ∧ (¬ LocK o ∨ (G.h₀.get? b).isSome = true))) (hk : ∀ i h, St i h → ∃ o fs, h.get? I = some o ∧ o.data = .fields fs)
  (hj : ∀ g ∈ ai.gs, μ[g.1]? ≠ some I) (hv : VRs G μ h' xs vs) (hit : ∀ i v h μ', i < ai.items.length → P i v → VRs G μ' h xs vs → ∃ x, ai.items[i]? = some x ∧ VR G μ' h x v) :
  ItOk G A tgt μ hp lo { s with heap := h', toks := tk } ai I (I :: src) [I] [] (fun i v zz zz => P i v) St xs vs where
 walk := W
 st0 := hst
 gsp := hg
 fpp := fun b hb => by
  rcases List.mem_cons.mp hb with q | q
  ·subst q; exact .inr ⟨F.μ, oI, hI, .inl (fields_not_lock hf)⟩
  ·exact hsrc b q
 wrp := fun b hb => by
  simp at hb; subst hb
  refine ⟨?_, F.low, .inr F.μ⟩
  cases e : lo.get? b with
  | none => rfl
  | some o => obtain ⟨o', h⟩ := hlo _ _ e; rw [F.n] at h; cases h
 kind := fun i h hs b hb => by
  simp at hb; subst hb
  exact ⟨fun q => by simp at q, .inr (hk i h hs)⟩
 jkp := fun b hb ⟨g, hg, _, q⟩ => by
  simp at hb; subst hb
  exact absurd q (hj g hg)
 jkw := fun b hb => by simp at hb
 vals := hv
 item := fun i v h₁ h μ' hi hP hvs _ => hit i v h μ' hi hP hvs
theorem simi_val {m : AM AV} {e tgt : Expr} (gx : GX G) (S : SimE G sc true d m e) (ht : TgtShape tgt) : SimI G sc d tgt (bIter m) e := by
 intro A fr env own μ st s ai st' hA I hm Q E h
 refine sim_bind2 S hA I hm fun v st₁ w s₁ μ₁ hm₁ x₁ I₁ r₁ => ?_
 obtain ⟨rfl, hv⟩ := see_some hm₁
 have hh := hA.hnd rfl
 have grow : ∀ {o : Obj}, o.isFreed = false → HInv G fr μ₁ st'.hp { s₁ with heap := s₁.heap.push o } ∧ Ext [] fr μ₁ st'.hp s₁ μ₁ st'.hp { s₁ with heap := s₁.heap.push o } := fun {o} ho =>
  I₁.h.grow (tk := s₁.toks) fun b o e => Heap.get?_push_of_some _ e
 have F : Fresh G μ₁ s₁ s₁.heap.objs.size := I₁.h.fresh (Heap.get?_none_of_le (Nat.le_refl _))
 have push : ∀ {o : Obj} {b : Addr} {o' : Obj}, s₁.heap.get? b = some o' → (s₁.heap.push o).get? b = some o' := fun e => Heap.get?_push_of_some _ e
 refine bE_some hv (fun hv => bO_some hv fun ys e hv => ?_) fun hv => bE_some hv (fun hv => ?_) fun hv => ?_
 ·rw [AV.of_tup? e] at r₁
  cases hv
  cases r₁ with
  | @tup _ vs a o n h1 h2 h3 hnm h4 =>
  have hT : s₁.heap.IsTuple a vs.toArray := ⟨o, h1, h2, n, h3⟩
  refine wpAny_pyIter_tuple hT ?_
  have hne : a ≠ s₁.heap.objs.size := fun q => by rw [q, F.n] at h1; cases h1
  have g := grow (o := { cls := .type "tuple_iterator", data := .fields #[.ref a, .int 0 0] }) rfl
  have hlen : ys.length = vs.toArray.size := by rw [h4.length]; simp
  have W := Walks.tuple (prog := G.prog) (w := G.w) hh s₁.heap.objs.size a hne vs.toArray
  rw [← hlen] at W
  have WG := WalkG.ofWalks' (tgt := tgt) W (fun i v s R E hP hst hR => by
    obtain ⟨⟨oi, h5, h6, _⟩, _⟩ := hst
    exact go_plain ht h5 h6 (by decide) hR)
  refine h s₁.heap.objs.size _ μ₁ _ _ _ _ _ _ _ (x₁.trans I.h.len g.2.weaken) (I₁.heap g.2 g.1)
   (itOk_one (ai := ⟨[], ys⟩) (h' := s₁.heap.push { cls := .type "tuple_iterator", data := .fields #[.ref a, .int 0 0] }) (tk := s₁.toks) WG F x₁.alive (Heap.get?_push_size _ rfl) rfl ⟨⟨_, Heap.get?_push_size _ rfl, rfl, rfl⟩, hT.push _⟩ (by simp) (fun b hb => ?_) (fun i hh hs => ?_) (by simp) (h4.ext I₁.h (by intro a ha; cases ha) g.2) (fun i v hh' μ' hi hP hvs => hvs.get' (by simpa using hP)))
  ·simp at hb; subst hb
   exact .inr ⟨hnm, o, push h1, .inl fun q => q.noTup h2 ⟨_, _, h3⟩⟩
  ·obtain ⟨⟨oi, h5, _, h7⟩, _⟩ := hs
   exact ⟨oi, _, h5, h7⟩
 ·revert h
  apply vrL I₁.h r₁ hv; intro r ys k a vs n hr h1 g1 k1 hv h
  cases hv
  have hL : s₁.heap.IsList a vs.toArray := ⟨_, g1, rfl, n, rfl⟩
  refine wpAny_pyIter_list hL ?_
  have hne : a ≠ s₁.heap.objs.size := fun q => by rw [q, F.n] at g1; cases g1
  have g := grow (o := { cls := .type "list_iterator", data := .fields #[.ref a, .int 0 0] }) rfl
  have hlen : ys.length = vs.toArray.size := by rw [k1.length]; simp
  have W := Walks.list (prog := G.prog) (w := G.w) hh s₁.heap.objs.size a hne vs.toArray
  rw [← hlen] at W
  have WG := WalkG.ofWalks' (tgt := tgt) W (fun i v s R E hP hst hR => by
    obtain ⟨⟨oi, h5, h6, _⟩, _⟩ := hst
    exact go_plain ht h5 h6 (by decide) hR)
  refine h s₁.heap.objs.size _ μ₁ _ _ _ _ _ _ _ (x₁.trans I.h.len g.2.weaken) (I₁.heap g.2 g.1)
   (itOk_one (ai := ⟨[(r, (.list ys, k))], ys⟩) (h' := s₁.heap.push { cls := .type "list_iterator", data := .fields #[.ref a, .int 0 0] }) (tk := s₁.toks) WG F x₁.alive (Heap.get?_push_size _ rfl) rfl ⟨⟨_, Heap.get?_push_size _ rfl, rfl, rfl⟩, hL.push _⟩ (by simpa using hr) (fun b hb => ?_) (fun i hh hs => ?_) (fun g hg q => ?_) (k1.ext I₁.h (by intro a ha; cases ha) g.2) (fun i v hh' μ' hi hP hvs => hvs.get' (by simpa using hP)))
  ·simp at hb; subst hb
   exact .inl ⟨_, List.mem_cons_self, h1⟩
  ·obtain ⟨⟨oi, h5, _, h7⟩, _⟩ := hs
   exact ⟨oi, _, h5, h7⟩
  ·exact F.μ (List.mem_of_getElem? q)
 ·revert h
  apply vrD I₁.h r₁ hv; intro r es k a kvs hr h1 hdo hkv hv h
  cases hv
  obtain ⟨ep, hdat⟩ := hdo.dictAt
  have hsys : (a == sysModules) = false := by
   cases hb : a == sysModules with
   | false => rfl
   | true =>
    have := beq_iff_eq.mp hb; subst this
    have := I₁.h.low _ (List.mem_of_getElem? h1)
    have h2 := gx.mods; rw [this] at h2; cases h2
  refine wpAny_pyIter_dict hsys hdat ?_
  have hne : a ≠ s₁.heap.objs.size := fun q => by
   obtain ⟨o, ho, _⟩ := Heap.dictOf_iff.mp hdo
   rw [q, F.n] at ho; cases ho
  have g := grow (o := { cls := .type "dict_keyiterator", data := .fields #[.ref a, .int 0 0, .int kvs.length 0, .int ep 0] }) rfl
  have hlen : (es.map fun e => AV.int e.1).length = kvs.length := by rw [List.length_map, hkv.length]
  have W := Walks.dictKeys (prog := G.prog) (w := G.w) (knd := intKind G.prog G.w) hh s₁.heap.objs.size a hne kvs ep
  have W' : Walks G.prog G.w A s₁.heap.objs.size [s₁.heap.objs.size, a] [s₁.heap.objs.size] (es.map fun e => AV.int e.1).length (fun i v => ∃ k x, kvs[i]? = some (k, x) ∧ (intKind G.prog G.w).is k v = true)
   (fun i h => h.IsKeyIter s₁.heap.objs.size a i kvs.length ep ∧ h.DictAt (intKind G.prog G.w) a kvs ep) := by rw [hlen]; exact W
  have WG := WalkG.ofWalks' (tgt := tgt) W' (fun i v s R E hP hst hR => by
    obtain ⟨⟨oi, h5, h6, _⟩, _⟩ := hst
    exact go_plain ht h5 h6 (by decide) hR)
  refine h s₁.heap.objs.size _ μ₁ _ _ _ _ _ (es.map (·.2)) _ (x₁.trans I.h.len g.2.weaken) (I₁.heap g.2 g.1)
   (itOk_one (ai := ⟨[(r, (.dict es, k))], es.map fun e => .int e.1⟩) (h' := s₁.heap.push { cls := .type "dict_keyiterator", data := .fields #[.ref a, .int 0 0, .int kvs.length 0, .int ep 0] }) (tk := s₁.toks) WG F x₁.alive (Heap.get?_push_size _ rfl) rfl ⟨⟨_, Heap.get?_push_size _ rfl, rfl, rfl⟩, hdat.push _⟩ (by simpa using hr) (fun b hb => ?_) (fun i hh hs => ?_) (fun g hg q => ?_) (hkv.vals.ext I₁.h (by intro a ha; cases ha) g.2) (fun i v hh' μ' hi hP hvs => ?_))
  ·simp at hb; subst hb
   exact .inl ⟨_, List.mem_cons_self, h1⟩
  ·obtain ⟨⟨oi, h5, _, h7⟩, _⟩ := hs
   exact ⟨oi, _, h5, h7⟩
  ·exact F.μ (List.mem_of_getElem? q)
  ·obtain ⟨key, x, e1, e2⟩ := hP
   obtain ⟨y, hy, _⟩ := hkv.get e1
   exact ⟨.int key, by rw [List.getElem?_map, hy]; rfl, isInt_VR e2⟩
end
section
variable {G : Glob} {sc : SC} {hd : Bool} {d : Nat}
structure Starless (es : List Expr) : Prop where
 plain : ∀ (env : Env) (pos : Pos), (backTo pos (starEach es env)).any (·.1) = false
 ev : ∀ (M : Model) (A : Around) (E : Value → Shared → Prop) (Q : Args → Shared → Prop) (s : Shared) (env : Env) (pos : Pos) (f : Value),
  wpAny M A (spliced (backTo pos (starEach es env))) (fun vs s' => Q ⟨vs, []⟩ s') E s → wpAny M A (evalArgs f true (backTo pos (starEach es env)) []) Q E s
structure SimArgs (G : Glob) (sc : SC) (hd : Bool) (d : Nat) (m : AM (List AV)) (es : List Expr) : Prop where
 sim : SimL G sc hd d m es
 less : Starless es
theorem args_nil : SimArgs G sc hd d (pure []) [] where
 sim := siml_nil
 less := ⟨fun zz zz => rfl, fun M A E Q s env pos f h => by
  unfold evalArgs
  show wpAny M A (spliced [] >>= _) Q E s
  refine wpAny_bind (wpAny_mono h (fun vs s' h' => ?_) fun zz zz x => x)
  refine wpAny_bind (wpAny_pure ?_)
  refine wpAny_holding ?_
  exact wpAny_bind (wpAny_pure (wpAny_bind (wpAny_pure (wpAny_pure h'))))⟩
theorem args_cons {m : AM AV} {k : AM (List AV)} {e : Expr} {es : List Expr} (S : SimE G sc hd d m e) (T : SimArgs G sc hd d k es) (he : autoParam (∀ env, starEach (e :: es) env = (false, eval e env) :: starEach es env) aR) : SimArgs G sc hd d (bCons m k) (e :: es) where
 sim := siml_cons S T.sim he
 less := ⟨fun env pos => by
  rw [he]
  show (false || (backTo pos (starEach es env)).any (·.1)) = false
  rw [T.less.plain]; rfl, fun M A E Q s env pos f h => by
  rw [he] at h ⊢
  exact Calls.evalArgs_plain h⟩
noncomputable def CalleeOk (G : Glob) (w : Value) : Prop := ∀ (A : Around) (E : Value → Shared → Prop) (Q : Value → Shared → Prop) (s : Shared) (pos : Pos) (first : List Value) (trees : List (Bool × Sem Value)), trees.any (·.1) = false →
 wpAny G.M A (evalArgs w true trees []) (fun x s₁ => G.h₀.StaysIn s₁.heap ∧ wpAny G.M A (call w (first ++ x.pos) x.kw) Q E s₁) E s → wpAny G.M A (callWith pos w first trees []) Q E s
theorem callee_type {n : String} : CalleeOk G (.type n) := fun A E Q s pos first trees hp h => PySem.callWith_type hp (wpAny_mono h (fun x s₁ h => h.2) fun zz zz e => e)
theorem callee_builtin {n : String} : CalleeOk G (.builtin n) := fun A E Q s pos first trees hp h => Calls.callWith_builtin hp (wpAny_mono h (fun x s₁ h => h.2) fun zz zz e => e)
noncomputable def SimCall (G : Glob) (hd : Bool) (d : Nat) (w : Value) (m : List AV → AHM AV) : Prop := ∀ args, HSim G hd d (m args) (fun μ h tr => ∃ vs, VRs G μ h args vs ∧ tr = call w vs) (VR G)
noncomputable def bCall (m : List AV → AHM AV) (args : AM (List AV)) : AM AV := do
 let vs ← args
 lift (m vs)
noncomputable def GlobV (G : Glob) (x : String) (w : Value) : Prop := G.mg (Str.ofString x) = some w ∨ (G.mg (Str.ofString x) = none ∧ G.mb (Str.ofString x) = some w)
theorem call_name {A : Around} {fr : List Env} {env : Env} {own μ : List Addr} {st st₁ : AS} {s : Shared} {x : String} {p pos : Pos} {w : Value} {m : AM (List AV)} {vs : List AV} {es : List Expr} (gk : GOk G) (hx : sc.scope.names.lookup (Str.ofString x) = some .globalImplicit) (hw : GlobV G x w) (hc : CalleeOk G w)
  (SA : SimArgs G sc hd d m es) (hA : AOk A fr hd d) (I : Inv G sc fr env own μ st s) (hm : m st = some (vs, st₁)) {Q : Value → Shared → Prop} {E : Value → Shared → Prop}
  (k : ∀ ws s₁ μ₁, XT own fr μ st s μ₁ st₁ s₁ → Inv G sc fr env own μ₁ st₁ s₁ → VRs G μ₁ s₁.heap vs ws → wpAny G.M A (call w ws) Q E s₁) (hdb : autoParam ((Str.ofString x == ("__debug__" : PySem.Str)) = false) aR) :
  wpAny G.M A (eval (.Call (.Name (Str.ofString x) p) es [] pos) env) Q E s := by
 refine wpAny_Call_NameR (wpAny_Name (loadGlobal_is gk I.h I.e.ok hx hw ?_) hdb)
 refine hc A E Q s pos [] _ (SA.less.plain env pos) (SA.less.ev _ _ _ _ _ env pos _ ?_)
 exact SA.sim pos A fr env own μ st s vs st₁ hA I hm _ _ fun ws s₁ μ₁ x₁ I₁ r₁ => ⟨I₁.h.base, k ws s₁ μ₁ x₁ I₁ r₁⟩
theorem sim_callN {x : String} {p pos : Pos} {w : Value} {f : List AV → AHM AV} {m : AM (List AV)} {es : List Expr} (gk : GOk G) (hx : sc.scope.names.lookup (Str.ofString x) = some .globalImplicit) (hw : GlobV G x w) (hc : CalleeOk G w) (SC : SimCall G hd d w f)
  (SA : SimArgs G sc hd d m es) (hdb : autoParam ((Str.ofString x == ("__debug__" : PySem.Str)) = false) aR) : SimE G sc hd d (bCall f m) (.Call (.Name (Str.ofString x) p) es [] pos) := by
 intro A fr env own μ st s z st' hA I hm Q E h
 obtain ⟨vs, st₁, h1, h2⟩ := am_bind_some hm
 refine call_name gk hx hw hc SA hA I h1 (fun ws s₁ μ₁ x₁ I₁ r₁ => ?_) hdb
 exact (SC vs).use hA I₁ ⟨ws, r₁, rfl⟩ h2 fun b s₂ μ₂ x₂ I₂ r₂ => h _ _ _ (I.trans x₁ x₂) I₂ r₂
noncomputable def rangeOf (vs : List AV) : Option AIt :=
 bE (bA1 vs fun v => bI v fun n => bG (n.natAbs < 4611686018427387904) (some ⟨[], (List.range n.toNat).map fun (i : Nat) => .int i⟩)) (bA2 vs fun v w => bI v fun a => bI w fun b => bG (a.natAbs < 4611686018427387904 ∧ b.natAbs < 4611686018427387904) (some ⟨[], (List.range (b - a).toNat).map fun (i : Nat) => .int (a + (i : Int))⟩))
noncomputable def bRange (m : AM (List AV)) : AM AIt := do
 let vs ← m
 see fun zz => rangeOf vs
theorem itOk_range {A : Around} {tgt : Expr} {μ : List Addr} {hp : AH} {lo : Heap} {s : Shared} {h' : Heap} {tk : Nat} {I : Addr} {a : Int} {n : Nat} (hh : A.handled = none) (ht : TgtShape tgt) (F : Fresh G μ s I) (hlo : ∀ b o, lo.get? b = some o → ∃ o', s.heap.get? b = some o')
  (hI : IsRangeIter h' I a n 1) : ∃ P St, ItOk G A tgt μ hp lo { s with heap := h', toks := tk } ⟨[], (List.range n).map fun (i : Nat) => .int (a + (i : Int))⟩ I [I] [I] [] P St [] [] := by
 have W := Walks.range (prog := G.prog) (w := G.w) hh I a 1 n
 have hl : n = ((List.range n).map fun (i : Nat) => AV.int (a + (i : Int))).length := by simp
 have W' : Walks G.prog G.w A I [I] [I] ((List.range n).map fun (i : Nat) => AV.int (a + (i : Int))).length (fun i v => ∃ t, v = .int (a + i * 1) t) (fun i h => IsRangeIter h I (a + (i : Nat) * 1) ((n : Int) - (i : Nat)) 1) := by rw [← hl]; exact W
 have WG := WalkG.ofWalks' (tgt := tgt) W' (fun i v s R E hP hst hR => go_plain ht hst rfl (by decide) hR)
 refine ⟨_, _, itOk_one (ai := ⟨[], (List.range n).map fun (i : Nat) => .int (a + (i : Int))⟩) (src := []) WG F hlo hI rfl (by simpa using hI) (by simp) (by simp) (fun i h hs => ⟨_, _, hs, rfl⟩) (by simp) .nil fun i v h μ' hi hP _ => ?_⟩
 obtain ⟨t, rfl⟩ := hP
 have hi' : i < n := by simpa using hi
 exact ⟨.int (a + i), by simp [hi'], by rw [Int.mul_one]; exact .int _ _⟩
theorem simi_range {x : String} {p pos : Pos} {m : AM (List AV)} {es : List Expr} {tgt : Expr} (gk : GOk G) (hx : sc.scope.names.lookup (Str.ofString x) = some .globalImplicit) (hw : GlobV G x (.type "range")) (ht : TgtShape tgt)
  (SA : SimArgs G sc true d m es) (hdb : autoParam ((Str.ofString x == ("__debug__" : PySem.Str)) = false) aR) : SimI G sc d tgt (bRange m) (.Call (.Name (Str.ofString x) p) es [] pos) := by
 intro A fr env own μ st s ai st' hA I hm Q E h
 obtain ⟨vs, st₁, h1, h2⟩ := am_bind_some hm
 obtain ⟨rfl, hv⟩ := see_some h2
 refine call_name gk hx hw callee_type SA hA I h1 (fun ws s₁ μ₁ x₁ I₁ r₁ => ?_) hdb
 have hh := hA.hnd rfl
 refine bE_some hv (fun hv => ?_) fun hv => ?_
 ·revert h
  apply vr1 r₁ hv; intro v w q₁ hv
  apply vrI q₁ hv; intro n t hv h
  refine bG_some hv fun hn hv => ?_
  ·cases hv
   refine call_range_1 ?_
   refine wpAny_pyIter_range (IsRange.new ..) (small_one (by decide) (by decide) (by omega) (by omega)) ?_
   have g₁ := I₁.h.grow (h' := s₁.heap.push { cls := .type "range", data := .fields #[.int 0 s₁.toks, .int n t, .int 1 (s₁.toks + 1)] }) (tk := s₁.toks + 1 + 1) fun b o e => Heap.get?_push_of_some _ e
   have I₂ := I₁.heap g₁.2 g₁.1
   have g₂ := I₂.h.grow (h' := (s₁.heap.push { cls := .type "range", data := .fields #[.int 0 s₁.toks, .int n t, .int 1 (s₁.toks + 1)] }).push { cls := .type "range_iterator", data := .fields #[rawInt 0, rawInt (Builtin.Range.rangeSize 0 n 1), rawInt 1] }) (tk := s₁.toks + 1 + 1) fun b o e => Heap.get?_push_of_some _ e
   have hsz : Builtin.Range.rangeSize 0 n 1 = (n.toNat : Int) := by rw [rangeSize_one]; split <;> omega
   obtain ⟨P, St, O⟩ := itOk_range (G := G) (A := A) (tgt := tgt) (hp := st'.hp) (lo := s.heap) (a := 0) (n := n.toNat) (tk := s₁.toks + 1 + 1) hh ht (I₂.h.fresh (Heap.get?_none_of_le (Nat.le_refl _))) (fun b o e => by
    obtain ⟨o', e'⟩ := x₁.alive b o e
    exact ⟨o', Heap.get?_push_of_some _ e'⟩) (by rw [← hsz]; exact Heap.get?_push_size _ rfl)
   have e0 : ((List.range n.toNat).map fun (i : Nat) => AV.int (0 + (i : Int))) = (List.range n.toNat).map fun (i : Nat) => AV.int i := by simp
   rw [e0] at O
   exact h _ _ μ₁ _ _ _ _ _ _ _ (x₁.trans I.h.len (Ext.trans I₁.h.len g₁.2.weaken g₂.2.weaken)) (I₂.heap g₂.2 g₂.1) O
 ·revert h
  apply vr2 r₁ hv; intro v v' w w' q₁ q₂ hv
  apply vrI q₁ hv; intro a t hv
  apply vrI q₂ hv; intro b u hv h
  refine bG_some hv fun hn hv => ?_
  ·cases hv
   refine call_range_2 ?_
   refine wpAny_pyIter_range (IsRange.new ..) (small_one (by omega) (by omega) (by omega) (by omega)) ?_
   have g₁ := I₁.h.grow (h' := s₁.heap.push { cls := .type "range", data := .fields #[.int a t, .int b u, .int 1 s₁.toks] }) (tk := s₁.toks + 1) fun b o e => Heap.get?_push_of_some _ e
   have I₂ := I₁.heap g₁.2 g₁.1
   have g₂ := I₂.h.grow (h' := (s₁.heap.push { cls := .type "range", data := .fields #[.int a t, .int b u, .int 1 s₁.toks] }).push { cls := .type "range_iterator", data := .fields #[rawInt a, rawInt (Builtin.Range.rangeSize a b 1), rawInt 1] }) (tk := s₁.toks + 1) fun b o e => Heap.get?_push_of_some _ e
   have hsz : Builtin.Range.rangeSize a b 1 = ((b - a).toNat : Int) := by rw [rangeSize_one]; split <;> omega
   obtain ⟨P, St, O⟩ := itOk_range (G := G) (A := A) (tgt := tgt) (hp := st'.hp) (lo := s.heap) (a := a) (n := (b - a).toNat) (tk := s₁.toks + 1) hh ht (I₂.h.fresh (Heap.get?_none_of_le (Nat.le_refl _))) (fun b o e => by
    obtain ⟨o', e'⟩ := x₁.alive b o e
    exact ⟨o', Heap.get?_push_of_some _ e'⟩) (by rw [← hsz]; exact Heap.get?_push_size _ rfl)
   exact h _ _ μ₁ _ _ _ _ _ _ _ (x₁.trans I.h.len (Ext.trans I₁.h.len g₁.2.weaken g₂.2.weaken)) (I₂.heap g₂.2 g₂.1) O
noncomputable def enumOf (hp : AH) (vs : List AV) : Option AIt := bA1 vs fun v => bL hp v fun r xs k => some ⟨[(r, (.list xs, k))], xs.zipIdx.map fun x => .tup [.int x.2, x.1]⟩
noncomputable def bEnum (m : AM (List AV)) : AM AIt := do
 let vs ← m
 see fun hp => enumOf hp vs
theorem simi_enum {x : String} {p pos tp : Pos} {m : AM (List AV)} {es ts : List Expr} {kk : Nat} (gk : GOk G) (hx : sc.scope.names.lookup (Str.ofString x) = some .globalImplicit) (hw : GlobV G x (.type "enumerate"))
  (SA : SimArgs G sc true d m es) (hdb : autoParam ((Str.ofString x == ("__debug__" : PySem.Str)) = false) aR) : SimI G sc d (.Tuple ts kk tp) (bEnum m) (.Call (.Name (Str.ofString x) p) es [] pos) := by
 intro A fr env own μ st s ai st' hA I hm Q E h
 obtain ⟨vs, st₁, h1, h2⟩ := am_bind_some hm
 obtain ⟨rfl, hv⟩ := see_some h2
 refine call_name gk hx hw callee_type SA hA I h1 (fun ws s₁ μ₁ x₁ I₁ r₁ => ?_) hdb
 have hh := hA.hnd rfl
 revert h
 apply vr1 r₁ hv; intro v w q₁ hv
 apply vrL I₁.h q₁ hv; intro r ys k a ws n hr ha g1 k1 hv h
 ··cases hv
   have hL : s₁.heap.IsList a ws.toArray := ⟨_, g1, rfl, n, rfl⟩
   refine call_enumerate_list hL fun h' hE hit hsz hkp => ?_
   refine wpAny_pyIter_enum hE ?_
   have gr := I₁.h.grow (h' := h') (tk := s₁.toks) hkp
   have Fe : Fresh G μ₁ s₁ (s₁.heap.objs.size + 1) := I₁.h.fresh (Heap.get?_none_of_le (Nat.le_succ _))
   have Fi : Fresh G μ₁ s₁ s₁.heap.objs.size := I₁.h.fresh (Heap.get?_none_of_le (Nat.le_refl _))
   have ne1 : a ≠ s₁.heap.objs.size + 1 := fun q => by rw [q, Fe.n] at g1; cases g1
   have ne2 : a ≠ s₁.heap.objs.size := fun q => by rw [q, Fi.n] at g1; cases g1
   have hne : s₁.heap.objs.size + 1 ≠ s₁.heap.objs.size := Nat.succ_ne_self _
   have W := WalksT.enumerate (prog := G.prog) (w := G.w) hh (s₁.heap.objs.size + 1) s₁.heap.objs.size a hne ne1 ne2 ws.toArray
   have hlen : (ys.zipIdx.map fun x => AV.tup [.int x.2, x.1]).length = ws.toArray.size := by simp [k1.length]
   have WG := WalkG.ofWalksT (es := ts) (kk := kk) (pos := tp) W
   rw [← hlen] at WG
   refine h _ _ μ₁ _ _ _ _ _ _ _ (x₁.trans I.h.len gr.2.weaken) (I₁.heap gr.2 gr.1) ⟨WG, ⟨⟨_, hE⟩, hit, hL.at fun o e => hkp _ o e⟩, by simpa using hr, fun b hb => ?_, fun b hb => ?_, fun i h₁ hs b hb => ⟨fun q => by simp at q, .inr ?_⟩, fun b hb ⟨g, hg, _, q⟩ => ?_, fun b hb => by simp at hb, k1.ext I₁.h (by intro a ha; cases ha) gr.2, fun i v h₁ hh₁ μ' hi hP hvs hal => ?_⟩
   ·simp at hb
    rcases hb with rfl | rfl | rfl
    ·exact .inr ⟨Fe.μ, _, hE, .inl (fields_not_lock rfl)⟩
    ·obtain ⟨o, q1, q2, q3⟩ := hit
     exact .inr ⟨Fi.μ, _, q1, .inl (fields_not_lock q3)⟩
    ·exact .inl ⟨_, List.mem_cons_self, ha⟩
   ·have low : ∀ {c : Addr}, s₁.heap.get? c = none → s.heap.get? c = none := fun {c} hc => by
     cases e : s.heap.get? c with
     | none => rfl
     | some o => obtain ⟨o', e'⟩ := x₁.alive _ _ e; rw [hc] at e'; cases e'
    simp at hb
    rcases hb with rfl | rfl
    ·exact ⟨low Fe.n, Fe.low, .inr Fe.μ⟩
    ·exact ⟨low Fi.n, Fi.low, .inr Fi.μ⟩
   ·obtain ⟨⟨old, q1⟩, ⟨o, q2, q3, q4⟩, _⟩ := hs
    simp at hb
    rcases hb with rfl | rfl
    ·exact ⟨_, _, q1, rfl⟩
    ·exact ⟨_, _, q2, q4⟩
   ·simp at hg; subst hg
    simp at hb
    rcases hb with rfl | rfl
    ·exact absurd (List.mem_of_getElem? q) Fe.μ
    ·exact absurd (List.mem_of_getElem? q) Fi.μ
   ·obtain ⟨T, vals, rfl, hT, ⟨o, q1, q2, q3, q4⟩, t, y, q5, q6⟩ := hP
    obtain ⟨z, hz, hr⟩ := hvs.get' (i := i) (v := y) (by simpa using q5)
    refine ⟨.tup [.int i, z], by simp [List.getElem?_zipIdx, hz], .tup (vs := [.int i t, y]) q1 q2 (by rw [q4, q6]) (fun hm => ?_) (.cons (.int _ _) (.cons hr .nil))⟩
    obtain ⟨o', ho'⟩ := hal T hm
    rw [hT] at ho'; cases ho'
end
section
variable {G : Glob} {hd : Bool} {d : Nat} {fr : List Env} {μ : List Addr} {hp : AH} {s : Shared}
theorem mapSeq_list {vs : Array Value} {n : Nat} (f : Array Value → Array Value) : ∃ n', Obj.mapSeq f ⟨.type "list", none, .seq vs n, #[]⟩ = ⟨.type "list", none, .seq (f vs) n', #[]⟩ := ⟨_, rfl⟩
theorem HInv.still_put (H : HInv G fr μ hp s) {h' : Heap} {a : Addr} (ha : a ∈ μ) (hk : ∀ b o, b ≠ a → s.heap.get? b = some o → h'.get? b = some o) : Still μ μ s.heap h' := fun b o e zz zz hm => ⟨hm, hk b o (fun q => hm (q ▸ ha)) e⟩
theorem list_put (H : HInv G fr μ hp s) {r k n : Nat} {a : Addr} {xs ys : List AV} {vs ws : List Value} (hr : hp[r]? = some (.list xs, k)) (ha : μ[r]? = some a) (hg : s.heap.get? a = some ⟨.type "list", none, .seq vs.toArray n, #[]⟩)
  {f : Array Value → Array Value} (hf : f vs.toArray = ws.toArray) (hy : VRs G μ s.heap ys ws) (tk : Nat) :
  HInv G fr μ (hp.set r (.list ys, k + 1)) { s with heap := s.heap.update a (Obj.mapSeq f), toks := tk } ∧ Ext [] fr μ hp s μ (hp.set r (.list ys, k + 1)) { s with heap := s.heap.update a (Obj.mapSeq f), toks := tk } := by
 obtain ⟨n', hn⟩ := mapSeq_list (vs := vs.toArray) (n := n) f
 have hk : ∀ b o, b ≠ a → s.heap.get? b = some o → (s.heap.update a (Obj.mapSeq f)).get? b = some o := fun b o hb e => (Heap.get?_update_other _ _ (Ne.symm hb)).trans e
 refine H.put (c := (.list xs, k)) hr ha hk (Heap.get?_update_self _ hg (by rw [hn]; rfl)) ?_
 rw [hn, hf]
 exact .list (hy.mono (fun zz zz e => e) (H.still_put (List.mem_of_getElem? ha) hk))
noncomputable def aLen : List AV → AHM AV := fun args hp => bA1 args fun o => bE (bL hp o fun zz xs zz => bG (xs.length ≤ 1000000) (some (.int xs.length, hp))) (bO o.tup? fun xs => bG (xs.length ≤ 1000000) (some (.int xs.length, hp)))
theorem call_len : SimCall G hd d (.builtin "len") aLen := by
 rintro args A fr μ hp s z hp' tr hA H zI11 hm Q E h
 obtain ⟨vs, rs, rfl⟩ := zI11
 apply vr1 rs hm; intro o w ro hm
 refine bE_some hm (fun hm => ?_) fun hm => bO_some hm fun xs e hm => bG_some hm fun hl hm => ?_
 ·apply vrL H ro hm; intro r xs k a ws n hr ha g1 k1 hm
  refine bG_some hm fun hl hm => ?_
  cases hm
  refine Calls.call_len_list ⟨_, g1, rfl, n, rfl⟩ (by rw [List.size_toArray, ← k1.length]; omega) ?_
  rw [List.size_toArray, ← k1.length]
  exact h _ _ μ (Ext.tok _) (H.tok _) (.int _ _)
 ·cases hm
  rw [AV.of_tup? e] at ro
  obtain ⟨_, _, _, _, rfl, h1, h2, h3, h4, h5⟩ := ro.of_tup
  refine PyProof.Rows.len_tuple ⟨_, h1, h2, _, h3⟩ (by rw [List.size_toArray, ← h5.length]; omega) ?_
  rw [List.size_toArray, ← h5.length]
  exact h _ _ μ (Ext.tok _) (H.tok _) (.int _ _)
noncomputable def aInt : List AV → AHM AV := fun args hp => bA1 args fun v => bI v fun i => some (.int i, hp)
theorem call_int : SimCall G hd d (.type "int") aInt := by
 rintro args A fr μ hp s z hp' tr hA H zI11 hm Q E h
 obtain ⟨vs, rs, rfl⟩ := zI11
 apply vr1 rs hm; intro v w rv hm
 apply vrI rv hm; intro i t hm
 cases hm
 exact call_int_int (h _ _ μ Ext.refl H (.int _ _))
noncomputable def avInts : List AV → Option (List Int) := List.rec (some []) fun x zz ih => bO x.int? fun i => ih.map (i :: ·)
theorem avInts_map (ns : List Int) : avInts (ns.map .int) = some ns := by
 induction ns with
 | nil => rfl
 | cons n r ih => exact congrArg (Option.map (n :: ·)) ih
theorem avInts_is {xs : List AV} : ∀ {ns : List Int}, avInts xs = some ns → xs = ns.map .int := by
 induction xs with
 | nil => intro ns h; cases h; rfl
 | cons x r ih =>
  intro ns h
  refine bO_some h fun i e h => ?_
  obtain ⟨ms, h1, rfl⟩ := Option.map_eq_some_iff.mp h
  rw [AV.of_int? e, ih h1]; rfl
theorem VRs.ints {h : Heap} : ∀ {ns : List Int} {vs : List Value}, VRs G μ h (ns.map .int) vs → IntsAre vs ns
 | [], vs, k => by
  obtain rfl := k.of_nil
  exact .nil
 | n :: r, vs, k => by
  obtain ⟨w, ws, rfl, k1, k2⟩ := k.of_cons
  obtain ⟨t, rfl⟩ := k1.of_int
  exact .cons _ _ k2.ints
theorem VRs.ofInts {h : Heap} {ns : List Int} {vs : List Value} (k : IntsAre vs ns) : VRs G μ h (ns.map .int) vs := by
 induction k with
 | nil => exact .nil
 | cons _ _ _ ih => exact .cons (.int _ _) ih
noncomputable def aSum : List AV → AHM AV := fun args hp => bA1 args fun o => bL hp o fun zz xs zz => bO (avInts xs) fun ns => some (.int ns.sum, hp)
theorem call_sum : SimCall G true d (.builtin "sum") aSum := by
 rintro args A fr μ hp s z hp' tr hA H zI11 hm Q E h
 obtain ⟨vs, rs, rfl⟩ := zI11
 apply vr1 rs hm; intro o w ro hm
 apply vrL H ro hm; intro r xs k a ws n hr ha g1 k1 hm
 refine bO_some hm fun ns hns hm => ?_
 cases hm
 rw [avInts_is hns] at k1
 have hi := k1.ints
 obtain ⟨xs', hxs⟩ := hi.allInts.items
 refine sum_intListG (xs := xs') (hA.hnd rfl) (by rw [← hxs]; exact ⟨_, g1, rfl, n, rfl⟩) fun h' tk t' hk => ?_
 have g := H.grow (h' := h') (tk := tk) hk
 have e : preSum (numAt xs') xs'.size = ns.sum := by
  rw [preSum_eq, List.take_of_length_le (by simp)]
  have := hi.numsOf
  rw [show ws = ws.toArray.toList from rfl, hxs, nums_intItems] at this
  rw [this]
 rw [e]
 exact h _ _ μ g.2 g.1 (.int _ _)
noncomputable def aTupleOf : List AV → AHM AV := fun args hp => bA1 args fun o => bL hp o fun zz xs zz => bG (xs.length ≤ 1000000) (some (.tup xs, hp))
theorem call_tuple : SimCall G hd d (.type "tuple") aTupleOf := by
 rintro args A fr μ hp s z hp' tr hA H zI11 hm Q E h
 obtain ⟨vs, rs, rfl⟩ := zI11
 apply vr1 rs hm; intro o w ro hm
 apply vrL H ro hm; intro r xs k a ws n hr ha g1 k1 hm
 refine bG_some hm fun hl hm => ?_
 cases hm
 refine call_tuple_list ⟨_, g1, rfl, n, rfl⟩ (fun h' hk => ?_) (by rw [List.size_toArray, ← k1.length, sizeLine_eq]; omega)
 have g1 := H.grow (h' := h') (tk := s.toks) hk
 have g2 := g1.1.grow (h' := h'.push { cls := .type "tuple", data := .seq ws.toArray }) (tk := s.toks) fun b o e => Heap.get?_push_of_some _ e
 have k2 := (k1.ext H (by intro a ha; cases ha) g1.2).ext g1.1 (by intro a ha; cases ha) g2.2
 exact h _ _ μ (Ext.trans H.len g1.2 g2.2) g2.1 (.tup (Heap.get?_push_size _ rfl) rfl rfl (fun hm => absurd (g1.1.lt hm) (Nat.lt_irrefl _)) k2)
noncomputable def insertZ (x : Int) : List Int → List Int := List.rec [x] fun y r ih => if x ≤ y then x :: y :: r else y :: ih
theorem insertZ_cons (x y : Int) (r : List Int) : insertZ x (y :: r) = if x ≤ y then x :: y :: r else y :: insertZ x r := rfl
noncomputable def sortZ : List Int → List Int := List.rec [] fun x zz ih => insertZ x ih
theorem insertZ_perm (x : Int) (l : List Int) : (insertZ x l).Perm (x :: l) := by
 induction l with
 | nil => exact List.Perm.refl _
 | cons y r ih =>
  rw [insertZ_cons]
  split
  ·exact List.Perm.refl _
  ·exact (ih.cons y).trans (List.Perm.swap x y r)
theorem sortZ_perm (l : List Int) : (sortZ l).Perm l := by
 induction l with
 | nil => exact List.Perm.refl _
 | cons x r ih => exact (insertZ_perm x _).trans (ih.cons x)
theorem insertZ_sorted (x : Int) {l : List Int} (h : l.Pairwise (· ≤ ·)) : (insertZ x l).Pairwise (· ≤ ·) := by
 induction l with
 | nil => exact List.pairwise_singleton _ _
 | cons y r ih =>
  obtain ⟨h1, h2⟩ := List.pairwise_cons.mp h
  rw [insertZ_cons]
  split
  ·rename_i hxy
   refine List.pairwise_cons.mpr ⟨fun z hz => ?_, h⟩
   rcases List.mem_cons.mp hz with rfl | hz
   ·exact hxy
   ·exact Int.le_trans hxy (h1 z hz)
  ·rename_i hxy
   refine List.pairwise_cons.mpr ⟨fun z hz => ?_, ih h2⟩
   rcases List.mem_cons.mp ((insertZ_perm x r).mem_iff.mp hz) with rfl | hz
   ·omega
   ·exact h1 z hz
theorem sortZ_sorted (l : List Int) : (sortZ l).Pairwise (· ≤ ·) := by
 induction l with
 | nil => exact List.Pairwise.nil
 | cons x r ih => exact insertZ_sorted x ih
theorem sorted_uniq {l m : List Int} (hp : l.Perm m) (hl : l.Pairwise (· ≤ ·)) (hm : m.Pairwise (· ≤ ·)) : l = m :=
 hp.eq_of_pairwise (fun a b zz zz h1 h2 => Int.le_antisymm h1 h2) hl hm
noncomputable def aSorted : List AV → AHM AV := fun args hp => bA1 args fun o => bL hp o fun zz xs zz => bO (avInts xs) fun ns => bG (ns.length < 64) (aNew (.list ((sortZ ns).map .int)) hp)
theorem call_sorted : SimCall G hd d (.builtin "sorted") aSorted := by
 rintro args A fr μ hp s z hp' tr hA H zI11 hm Q E h
 obtain ⟨vs, rs, rfl⟩ := zI11
 apply vr1 rs hm; intro o w ro hm
 apply vrL H ro hm; intro r xs k a ws n hr ha g1 k1 hm
 refine bO_some hm fun ns hns hm => bG_some hm fun hlt hm => ?_
 cases hm
 rw [avInts_is hns] at k1
 have hi := k1.ints
 refine sorted_ints ⟨_, g1, rfl, n, rfl⟩ hi (by rw [← k1.length, List.length_map]; exact hlt) fun out ns' a1 a2 a3 => ?_
 have e : ns' = sortZ ns := sorted_uniq (a2.trans (sortZ_perm ns).symm) a3 (sortZ_sorted ns)
 subst e
 obtain ⟨c, hc⟩ := sortedAll_at s.heap ws out
 have g := H.alloc (tk := s.toks) (fun b o => sortedAll_old) (Heap.get?_none_of_le (Nat.le_succ _)) hc (x := .list ((sortZ ns).map .int)) (by
  have := OR.list (n := c) (VRs.ofInts (G := G) (μ := μ) (h := s.heap) a1)
  rw [Array.toArray_toList] at this; exact this)
 exact h _ _ _ g.2 g.1 (ref_new H.len)
noncomputable def aSet0 : List AV → AHM AV := fun args hp => bA0 args (aNew (.iset []) hp)
theorem call_set0 : SimCall G hd d (.type "set") aSet0 := by
 rintro args A fr μ hp s z hp' tr hA H zI11 hm Q E h
 obtain ⟨vs, rs, rfl⟩ := zI11
 revert h
 apply vr0 rs hm; intro hm h
 ·cases hm
  refine call_set_0 fun led => ?_
  have g := H.alloc (h' := s.heap.push { cls := .type "set", dict := none, data := .set #[] 0 (.fresh 0 0 led) }) (tk := s.toks) (fun b o e => Heap.get?_push_of_some _ e) (Heap.get?_none_of_le (Nat.le_refl _)) (Heap.get?_push_size _ rfl) (x := .iset [])
   (.iset ⟨rfl, rfl, rfl⟩ rfl (by intro e he; simp at he) (by intro k; simp) (by decide) (by cases led <;> rfl) rfl)
  exact h _ _ _ g.2 g.1 (ref_new H.len)
end
noncomputable def vat (es : List (Int × AV)) (k : Int) : Option AV := (es.find? fun e => e.1 = k).map (·.2)
noncomputable def vset (es : List (Int × AV)) (k : Int) (v : AV) : List (Int × AV) := if es.any (fun e => e.1 = k) then es.map (fun e => if e.1 = k then (e.1, v) else e) else es ++ [(k, v)]
noncomputable def vdel (es : List (Int × AV)) (k : Int) : List (Int × AV) := es.filter fun e => decide (e.1 ≠ k)
section
variable {G : Glob} {μ : List Addr} {h : Heap}
theorem KVs.find {k : Int} {xs : List (Int × AV)} {es : List (Int × Value)} (d : KVs G μ h xs es) : (∀ x, vat xs k = some x → ∃ v, valueAt es k = some v ∧ VR G μ h x v) ∧ (vat xs k = none → valueAt es k = none) := by
 induction d with
 | nil => exact ⟨fun x e => (by cases e), fun zz => rfl⟩
 | @cons k' x₀ v₀ xs es h1 _ ih =>
  cases hk : decide (k' = k) with
  | true =>
   have e1 : vat ((k', x₀) :: xs) k = some x₀ := by simp [vat, of_decide_eq_true hk]
   have e2 : valueAt ((k', v₀) :: es) k = some v₀ := by simp [valueAt, of_decide_eq_true hk]
   rw [e1, e2]
   exact ⟨fun x e => ⟨v₀, rfl, by cases e; exact h1⟩, fun e => by cases e⟩
  | false =>
   have e1 : vat ((k', x₀) :: xs) k = vat xs k := by simp [vat, of_decide_eq_false hk]
   have e2 : valueAt ((k', v₀) :: es) k = valueAt es k := by simp [valueAt, of_decide_eq_false hk]
   rw [e1, e2]; exact ih
theorem KVs.anyK {k : Int} {xs : List (Int × AV)} {es : List (Int × Value)} (d : KVs G μ h xs es) : xs.any (fun e => e.1 = k) = es.any (fun e => e.1 = k) := by
 induction d with
 | nil => rfl
 | cons _ _ ih => exact congrArg (_ || ·) ih
theorem KVs.mapK {k : Int} {x : AV} {v : Value} (r : VR G μ h x v) {xs : List (Int × AV)} {es : List (Int × Value)} (d : KVs G μ h xs es) : KVs G μ h (xs.map fun e => if e.1 = k then (e.1, x) else e) (es.map fun e => if e.1 = k then (e.1, v) else e) := by
 induction d with
 | nil => exact .nil
 | @cons k' _ _ _ _ h1 _ ih =>
  simp only [List.map_cons]
  by_cases hk : k' = k
  ·rw [if_pos hk, if_pos hk]; exact .cons r ih
  ·rw [if_neg hk, if_neg hk]; exact .cons h1 ih
theorem KVs.snoc {k : Int} {x : AV} {v : Value} (r : VR G μ h x v) {xs : List (Int × AV)} {es : List (Int × Value)} (d : KVs G μ h xs es) : KVs G μ h (xs ++ [(k, x)]) (es ++ [(k, v)]) := by
 induction d with
 | nil => exact .cons r .nil
 | cons h1 _ ih => exact .cons h1 ih
theorem KVs.set {k : Int} {x : AV} {v : Value} {xs : List (Int × AV)} {es : List (Int × Value)} (d : KVs G μ h xs es) (r : VR G μ h x v) : KVs G μ h (vset xs k x) (stored es k v) := by
 unfold vset stored
 rw [d.anyK]
 split
 ·exact d.mapK r
 ·exact d.snoc r
theorem KVs.del {k : Int} : ∀ {xs : List (Int × AV)} {es : List (Int × Value)}, KVs G μ h xs es → KVs G μ h (vdel xs k) (without es k)
 | _, _, .nil => .nil
 | _, _, .cons (k := k') h1 h2 => by
  have ih := KVs.del (k := k) h2
  unfold vdel without at ih ⊢
  by_cases hk : k' = k
  ·simp only [List.filter_cons, hk, ne_eq, not_true, decide_false, Bool.false_eq_true, if_false]; exact ih
  ·simp only [List.filter_cons, hk, ne_eq, not_false_iff, decide_true, if_true]; exact .cons h1 ih
end
section
variable {G : Glob} {hd : Bool} {d : Nat} {fr : List Env} {μ : List Addr} {hp : AH} {s : Shared}
theorem dict_put (H : HInv G fr μ hp s) {r k : Nat} {a : Addr} {es es' : List (Int × AV)} {kvs : List (Int × Value)} {h' : Heap} (hr : hp[r]? = some (.dict es, k)) (ha : μ[r]? = some a) (hs : Heap.SameBut a s.heap h') (hd : h'.DictOf (intKind G.prog G.w) a kvs) (hy : KVs G μ s.heap es' kvs) (tk : Nat) :
  HInv G fr μ (hp.set r (.dict es', k + 1)) { s with heap := h', toks := tk } ∧ Ext [] fr μ hp s μ (hp.set r (.dict es', k + 1)) { s with heap := h', toks := tk } := by
 obtain ⟨o, ho, hod⟩ := Heap.dictOf_iff.mp hd
 have hk : ∀ b o, b ≠ a → s.heap.get? b = some o → h'.get? b = some o := fun b o hb e => (hs.2 b hb).trans e
 refine H.put (c := (.dict es, k)) hr ha hk ho ?_
 exact .dict hod (hy.mono (fun zz zz e => e) (H.still_put (List.mem_of_getElem? ha) hk))
theorem HInv.dict (H : HInv G fr μ hp s) {r k : Nat} {a : Addr} {es : List (Int × AV)} (hr : hp[r]? = some (.dict es, k)) (ha : μ[r]? = some a) : ∃ kvs, s.heap.DictOf (intKind G.prog G.w) a kvs ∧ KVs G μ s.heap es kvs := by
 obtain ⟨o, ho, hor⟩ := H.at ha hr
 obtain ⟨kvs, h1, h2⟩ := hor.of_dict
 exact ⟨kvs, Heap.dictOf_iff.mpr ⟨o, ho, h1⟩, h2⟩
theorem HInv.sys (gx : GX G) (H : HInv G fr μ hp s) {a : Addr} (ha : a ∈ μ) : (a == sysModules) = false := by
 cases hb : a == sysModules with
 | false => rfl
 | true =>
  have := beq_iff_eq.mp hb; subst this
  have := H.low _ ha
  have h2 := gx.mods; rw [this] at h2; cases h2
noncomputable def AObj.ty? : AObj → Option String := AObj.rec (fun zz => some "list") (fun zz => some "dict") (fun zz => some "set") (fun zz => none) (fun zz zz => none) (fun zz zz zz => none) (fun zz zz => none) (fun zz zz => none) (fun zz => none) (fun zz zz => none) (fun zz zz => none) none
noncomputable def tyOf (v : AV) (hp : AH) : Option String := bO v.ref? fun r => bO hp[r]? fun c => c.1.ty?
theorem tyOf_is (H : HInv G fr μ hp s) {v : AV} {w : Value} {T : String} (h : tyOf v hp = some T) (r : VR G μ s.heap v w) : s.TypeIs w T ∧ ∀ a, w = .ref a → ∃ ob, s.heap.get? a = some ob ∧ ob.dict = none := by
 refine bO_some h fun r' e h => bO_some h fun c hr h => ?_
 rw [AV.of_ref? e] at r
 obtain ⟨a, rfl, ha⟩ := r.of_ref
 obtain ⟨x, k⟩ := c
 cases x with
 | list xs =>
  cases h
  obtain ⟨vs, n, g, _⟩ := H.list hr ha
  exact ⟨⟨_, g, rfl⟩, fun a e => by cases e; exact ⟨_, g, rfl⟩⟩
 | dict es =>
  cases h
  obtain ⟨kvs, g, _⟩ := H.dict hr ha
  exact ⟨g.typeIs, g.mapOf.noDict⟩
 | iset ks =>
  cases h
  obtain ⟨o, ho, hor⟩ := H.at ha hr
  obtain ⟨_, _, _, a1, _⟩ := hor.of_iset
  exact ⟨⟨o, ho, a1.1⟩, fun a e => by cases e; exact ⟨o, ho, a1.2.1⟩⟩
 | _ => cases h
noncomputable def isTy (T : String) (v : AV) : AM Unit := see fun hp => if tyOf v hp = some T then some () else none
noncomputable def bMeth (T : String) (f : List AV → AHM AV) (m₀ : AM AV) (args : AM (List AV)) : AM AV := do
 let o ← m₀
 isTy T o
 let vs ← args
 lift (f (o :: vs))
variable {sc : SC}
theorem meth_on {A : Around} {env : Env} {own : List Addr} {st st₁ st₂ : AS} {T id name : String} {m₀ : AM AV} {m : AM (List AV)} {o : Expr} {es : List Expr} {apos pos : Pos} {ov : AV} {vs : List AV} (pa : PlainAttrs T) (slot : Slot T name id) (hty : typeOf (.builtin id) = pure (.type "method_descriptor"))
  (hline : (apos.endLine == pos.line) = true) (hbase : ∀ env : Env, attributeBase o (Str.ofString name) env (eval o env) = eval o env) (hlen : es.length < 30) (S₀ : SimE G sc hd d m₀ o) (SA : SimArgs G sc hd d m es) (hA : AOk A fr hd d) (I : Inv G sc fr env own μ st s)
  (h0 : m₀ st = some (ov, st₁)) (h1 : tyOf ov st₁.hp = some T) (h2 : m st₁ = some (vs, st₂)) {Q : Value → Shared → Prop} {E : Value → Shared → Prop}
  (k : ∀ w ws s₂ μ₂, XT own fr μ st s μ₂ st₂ s₂ → Inv G sc fr env own μ₂ st₂ s₂ → VR G μ₂ s₂.heap ov w → VRs G μ₂ s₂.heap vs ws → wpAny G.M A (call (.builtin id) (w :: ws)) Q E s₂) :
  wpAny G.M A (eval (.Call (.Attribute o (Str.ofString name) apos) es [] pos) env) Q E s := by
 refine wpAny_Call_method_late (hbase env) ?_ hline rfl (S₀ A fr env own μ st s ov st₁ hA I h0 _ _ fun w s₁ μ₁ x₁ I₁ r₁ => ?_)
 ·have e1 : ∀ l : List (Bool × Sem Value), l.any (·.1) = false → l.all (fun x => !x.1) = true := fun l h => by
   simp only [List.any_eq_false, List.all_eq_true] at h ⊢
   intro x hx; simpa using h x hx
  simp only [Bool.and_eq_true, decide_eq_true_eq]
  exact ⟨⟨e1 _ (SA.less.plain env pos), rfl⟩, by simpa using hlen⟩
 ·obtain ⟨t1, t2⟩ := tyOf_is I₁.h h1 r₁
  refine ⟨T, id, pa, slot, hty, t1, t2, ?_⟩
  refine callee_builtin (G := G) A E Q s₁ pos [w] _ (SA.less.plain env pos) (SA.less.ev _ _ _ _ _ env pos _ ?_)
  exact SA.sim pos A fr env own μ₁ st₁ s₁ vs st₂ hA I₁ h2 _ _ fun ws s₂ μ₂ x₂ I₂ r₂ => ⟨I₂.h.base, k w ws s₂ μ₂ (I.trans x₁ x₂) I₂ (I₁.vr x₂ r₁) r₂⟩
theorem bMeth_some {T : String} {f : List AV → AHM AV} {m₀ : AM AV} {m : AM (List AV)} {st st' : AS} {z : AV} (hm : bMeth T f m₀ m st = some (z, st')) : ∃ ov st₁ vs st₂, m₀ st = some (ov, st₁) ∧ tyOf ov st₁.hp = some T ∧ m st₁ = some (vs, st₂) ∧ lift (f (ov :: vs)) st₂ = some (z, st') := by
 obtain ⟨ov, st₁, h0, hm1⟩ := am_bind_some hm
 obtain ⟨u, st₁', h1, hm2⟩ := am_bind_some hm1
 obtain ⟨rfl, hc⟩ := see_some h1
 split at hc
 ·rename_i hT
  obtain ⟨vs, st₂, h2, h3⟩ := am_bind_some hm2
  exact ⟨ov, _, vs, st₂, h0, hT, h2, h3⟩
 ·cases hc
theorem sim_meth {T id name : String} {f : List AV → AHM AV} {m₀ : AM AV} {m : AM (List AV)} {o : Expr} {es : List Expr} {apos pos : Pos} (pa : PlainAttrs T) (slot : Slot T name id) (hty : typeOf (.builtin id) = pure (.type "method_descriptor")) (SC : SimCall G hd d (.builtin id) f)
  (S₀ : SimE G sc hd d m₀ o) (SA : SimArgs G sc hd d m es) (hline : autoParam ((apos.endLine == pos.line) = true) aR) (hbase : autoParam (∀ env : Env, attributeBase o (Str.ofString name) env (eval o env) = eval o env) aR) (hlen : es.length < 30 := by decide) :
  SimE G sc hd d (bMeth T f m₀ m) (.Call (.Attribute o (Str.ofString name) apos) es [] pos) := by
 intro A fr env own μ st s z st' hA I hm Q E h
 obtain ⟨ov, st₁, vs, st₂, h0, h1, h2, h3⟩ := bMeth_some hm
 refine meth_on pa slot hty hline hbase hlen S₀ SA hA I h0 h1 h2 fun w ws s₂ μ₂ x₂ I₂ r₁ r₂ => ?_
 exact (SC (ov :: vs)).use hA I₂ ⟨w :: ws, .cons r₁ r₂, rfl⟩ h3 fun b s₃ μ₃ x₃ I₃ r₃ => h _ _ _ (I.trans x₂ x₃) I₃ r₃
noncomputable def aAppend : List AV → AHM AV := fun args hp => bA2 args fun o x => bL hp o fun r xs k => bG (xs.length ≤ 1000000) (some (.none, hp.set r (.list (xs ++ [x]), k + 1)))
theorem call_append : SimCall G hd d (.builtin "list.append") aAppend := by
 rintro args A fr μ hp s z hp' tr hA H zI11 hm Q E h
 obtain ⟨vs, rs, rfl⟩ := zI11
 apply vr2 rs hm; intro o x w v ro r₂ hm
 apply vrL H ro hm; intro r xs k a ws n hr ha g1 k1 hm
 refine bG_some hm fun hl hm => ?_
 cases hm
 refine call_meets F.slot_list_append ⟨_, g1, rfl⟩ F.entry_list_append (F.args_list_append_2 _ _) (list_append a ws.toArray n v (by rw [List.size_toArray, ← k1.length, sizeLine_eq]; omega)) ⟨g1, ?_⟩
 have g := list_put H hr ha g1 (f := fun xs => xs.push v) (ws := ws ++ [v]) (by simp) (k1.append (.cons r₂ .nil)) s.toks
 exact h _ _ μ g.2 g.1 .none
noncomputable def aPop : List AV → AHM AV := fun args hp => bA1 args fun o => bL hp o fun r xs k => bG (xs.length ≤ 1000000) (bO xs.getLast? fun y => some (y, hp.set r (.list xs.dropLast, k + 1)))
theorem VRs.dropLast {h : Heap} {xs : List AV} {vs : List Value} (k : VRs G μ h xs vs) : VRs G μ h xs.dropLast vs.dropLast :=
 k.ind (P := fun xs vs => VRs G μ h xs.dropLast vs.dropLast) .nil fun h1 k ih => by
  cases k with
  | nil => exact .nil
  | cons _ _ => exact .cons h1 ih
theorem call_pop : SimCall G hd d (.builtin "list.pop") aPop := by
 rintro args A fr μ hp s z hp' tr hA H zI11 hm Q E h
 obtain ⟨vs, rs, rfl⟩ := zI11
 apply vr1 rs hm; intro o w ro hm
 apply vrL H ro hm; intro r xs k a ws n hr ha g1 k1 hm
 refine bG_some hm fun hl hm => ?_
 refine bO_some hm fun y hy hm => ?_
 cases hm
 rw [List.getLast?_eq_getElem?] at hy
 obtain ⟨v, hv, rv⟩ := k1.get hy
 rw [k1.length] at hv
 have hz : ws.toArray.size ≤ sizeLine := by rw [List.size_toArray, ← k1.length, sizeLine_eq]; omega
 refine call_meets F.slot_list_pop ⟨_, g1, rfl⟩ F.entry_list_pop (F.args_list_pop_1 _) (MeetsSeq.list_pop_last a ws.toArray n v (by simpa using hv) hz) ⟨g1, ?_⟩
 have g := list_put H hr ha g1 (f := fun xs => xs.eraseIdxIfInBounds (ws.toArray.size - 1)) (ws := ws.dropLast) (by
  apply Array.toList_inj.mp
  simp [Array.toList_eraseIdxIfInBounds, List.eraseIdx_length_sub_one]) k1.dropLast s.toks
 exact h _ _ μ g.2 g.1 (rv.ext H (by intro a ha; cases ha) g.2)
noncomputable def aClear : List AV → AHM AV := fun args hp => bA1 args fun o => bL hp o fun r xs k => bG (xs.length ≤ 1000000) (some (.none, hp.set r (.list [], k + 1)))
theorem call_clear : SimCall G hd d (.builtin "list.clear") aClear := by
 rintro args A fr μ hp s z hp' tr hA H zI11 hm Q E h
 obtain ⟨vs, rs, rfl⟩ := zI11
 apply vr1 rs hm; intro o w ro hm
 apply vrL H ro hm; intro r xs k a ws n hr ha g1 k1 hm
 refine bG_some hm fun hl hm => ?_
 cases hm
 refine call_meets F.slot_list_clear ⟨_, g1, rfl⟩ F.entry_list_clear (F.args_list_clear_1 _) (AutoSeq1.list_clear_list_0 a ws.toArray n (by rw [List.size_toArray, ← k1.length, sizeLine_eq]; omega)) ⟨g1, ?_⟩
 have g := list_put H hr ha g1 (f := fun zz => #[]) (ws := []) (by rfl) .nil s.toks
 exact h _ _ μ g.2 g.1 .none
noncomputable def aGet : List AV → AHM AV := fun args hp => bA2 args fun o i => bI i fun k => bD hp o fun zz es zz => some ((vat es k).getD .none, hp)
theorem call_get (gx : GX G) : SimCall G hd d (.builtin "dict.get") aGet := by
 rintro args A fr μ hp s z hp' tr hA H zI11 hm Q E h
 obtain ⟨vs, rs, rfl⟩ := zI11
 apply vr2 rs hm; intro o i w u ro ri hm
 apply vrI ri hm; intro k t hm
 apply vrD H ro hm; intro r es ver a kvs hr ha hd hk hm
 ··cases hm
   refine call_meetsIn F.slot_dict_get hd.typeIs F.entry_dict_get (F.args_dict_get_2 _ _) (meets_dict_get (intKind G.prog G.w) _ (k := k) (by simp [intKind, Value.isInt]) (H.sys gx (List.mem_of_getElem? ha))) ⟨_, hd.mapOf, ?_⟩
   obtain ⟨f1, f2⟩ := hk.find (k := k)
   cases e : vat es k with
   | none => rw [f2 e]; rw [e] at h; exact h _ _ μ (Ext.tok _) (H.tok _) .none
   | some x =>
    obtain ⟨v, e2, rv⟩ := f1 x e
    rw [e2]; rw [e] at h; exact h _ _ μ (Ext.tok _) (H.tok _) rv
noncomputable def aAdd : List AV → AHM AV := fun args hp => bA2 args fun o i => bI i fun k => bS hp o fun r ks ver => bG (ks.length < 1000) (some (.none, hp.set r (.iset (if ks.contains k then ks else ks ++ [k]), ver + 1)))
theorem call_add : SimCall G hd d (.builtin "set.add") aAdd := by
 rintro args A fr μ hp s z hp' tr hA H zI11 hm Q E h
 obtain ⟨vs, rs, rfl⟩ := zI11
 apply vr2 rs hm; intro o i w u ro ri hm
 apply vrI ri hm; intro k t hm
 apply vrS H ro hm; intro r ks ver a o hr ha ho hor hm
 refine bG_some hm fun hl hm => ?_
 ···cases hm
    obtain ⟨es, ep, t, a1, a2, a3, a4, a5, a6, a7⟩ := hor.of_iset
    have hb : (1000 : Nat) < scanBound := by decide
    refine call_set_add (knd := intKind G.prog G.w) (k := k) (S := fun k => ks.contains k) (n := es.size) (by simp [intKind, Value.isInt]) (scan_int _ _) ⟨o, _, _, _, ho, a1, a2, a3, a4, a5, a6, rfl⟩ (by rw [a7]; omega) fun h' hs hS => ?_
    obtain ⟨o', es', ep', t', b1, b2, b3, b4, b5, b6, b7, b8⟩ := hS
    have hk : ∀ b o, b ≠ _ → s.heap.get? b = some o → h'.get? b = some o := fun b o hb e => (hs.2 b hb).trans e
    have g := H.put (tk := s.toks + 1) (c := (.iset ks, ver)) (x := .iset (if ks.contains k then ks else ks ++ [k])) hr ha hk b1 (.iset b2 b3 b4 (fun k' => ?_) b6 b7 ?_)
    ·exact h _ _ μ g.2 g.1 .none
    ·rw [← b5 k']
     by_cases hc : ks.contains k = true
     ·rw [if_pos hc]
      simp only [Bool.or_eq_true, decide_eq_true_eq]
      exact ⟨fun q => .inl q, fun q => q.elim id fun e => by subst e; exact hc⟩
     ·rw [if_neg hc]
      simp only [List.contains_eq_mem, List.mem_append, List.mem_singleton, Bool.or_eq_true, decide_eq_true_eq]
    ·rw [b8]
     by_cases hc : ks.contains k = true
     ·rw [if_pos hc, if_pos hc]; exact a7
     ·rw [if_neg hc, if_neg hc, a7]; simp
end
noncomputable def idxOf (k : Int) (n : Nat) : Option Nat := if 0 ≤ k then (if k < n ∧ n ≤ 1000000 then some k.toNat else none) else (if -(n : Int) ≤ k ∧ n ≤ 1000000 then some (k + n).toNat else none)
noncomputable def aIdx (o i : AV) (hp : AH) : Option AV := bI i fun k => bE (bL hp o fun zz xs zz => bO (idxOf k xs.length) fun j => xs[j]?) (bE (bD hp o fun zz es zz => vat es k) (bO o.tup? fun xs => bG (0 ≤ k ∧ k < 1000000) xs[k.toNat]?))
section
variable {G : Glob} {sc : SC} {hd : Bool} {d : Nat} {fr : List Env} {μ : List Addr} {hp : AH} {s : Shared}
theorem idx_is {A : Around} {Q : Value → Shared → Prop} {E : Value → Shared → Prop} (H : HInv G fr μ hp s) {o i v : AV} {ov iv : Value} (ro : VR G μ s.heap o ov) (ri : VR G μ s.heap i iv) (h : aIdx o i hp = some v) (k : ∀ w tk, VR G μ s.heap v w → Q w { s with toks := tk }) :
  (∃ T id, s.TypeIs ov T ∧ typeLookup (.type T) "__getitem__" = pure (some (.builtin id))) ∧ wpAny G.M A (getItem ov iv) Q E s := by
 apply vrI ri h; intro n t h
 refine bE_some h (fun h => ?_) fun h => bE_some h (fun h => ?_) fun h => bO_some h fun xs e h => bG_some h fun hn h => ?_
 ·apply vrL H ro h; intro r xs ver a vs n' hr ha g1 k1 h
  have hl : s.heap.IsList _ vs.toArray := ⟨_, g1, rfl, n', rfl⟩
  refine ⟨⟨"list", _, hl.typeIs, slot_list_getitem.lookup⟩, ?_⟩
  refine bO_some h fun j hj h => ?_
  refine Mine.hold fun gL bk => ?_
  obtain ⟨w, hw, rw'⟩ := k1.get h
  refine bk ?_; clear bk gL
  unfold idxOf at hj
  split at hj
  ·rename_i h0
   split at hj
   ·rename_i h1
    cases hj
    exact wpAny_getItem_list hl h0 (by omega) (by simpa using hw) (k w s.toks rw')
   ·cases hj
  ·rename_i h0
   split at hj
   ·rename_i h1
    cases hj
    refine wpAny_getItem_list_neg hl (by omega) (by rw [List.size_toArray, ← k1.length]; exact h1.1) (by omega) ?_ (k w s.toks rw')
    rw [List.size_toArray, ← k1.length]
    simpa using hw
   ·cases hj
 ·apply vrD H ro h; intro r es ver a kvs hr ha hd hk h
  refine ⟨⟨"dict", _, hd.typeIs, slot_dict_getitem.lookup⟩, ?_⟩
  obtain ⟨w, hw, rw'⟩ := (hk.find (k := n)).1 v h
  exact wpAny_getItem_of (knd := intKind G.prog G.w) (k := n) (by simp [intKind, Value.isInt]) hd.mapOf hw (k w _ rw')
 ·rw [AV.of_tup? e] at ro
  refine Mine.hold fun gL bk => ?_
  obtain ⟨_, _, _, _, rfl, h1, h2, h3, h4, h5⟩ := ro.of_tup
  obtain ⟨w, hw, rw'⟩ := h5.get h
  refine bk ?_; clear bk gL
  have ht : IsTup s.heap _ _ := ⟨_, h1, h2, _, h3⟩
  refine ⟨⟨"tuple", _, ht.typeIs, slot_tuple_getitem.lookup⟩, ?_⟩
  have hlt := (List.getElem?_eq_some_iff.mp h).1
  refine PyProof.Rows.getItem_tuple ht (by omega) (by omega) (seqIndex_of hn.1 ?_) (by simpa using hw) (k w s.toks rw')
  rw [List.size_toArray, ← h5.length]; omega
noncomputable def bSub (m k : AM AV) : AM AV := do
 let o ← m
 let i ← k
 see (aIdx o i)
theorem sim_sub {m k : AM AV} {value slice : Expr} {pos : Pos} (S₁ : SimE G sc hd d m value) (S₂ : SimE G sc hd d k slice) (hsl : autoParam (∀ o i, subscripted slice false o i = operate [o, i] (getItem o i)) aR) : SimE G sc hd d (bSub m k) (.Subscript value slice pos) := by
 intro A fr env own μ st s z st' hA I hm Q E h
 refine PyProof.Rows.Subscript_ (sim_bind2 S₁ hA I hm fun o st₁ ov s₁ μ₁ hm₁ x₁ I₁ r₁ => sim_bind2 S₂ hA I₁ hm₁ fun i st₂ iv s₂ μ₂ hm₂ x₂ I₂ r₂ => ?_)
 refine Mine.hold fun gL bk => ?_
 obtain ⟨rfl, hv⟩ := see_some hm₂
 obtain ⟨⟨T, id, t1, t2⟩, hg⟩ := idx_is (A := A) (Q := Q) (E := E) I₂.h (I₁.vr x₂ r₁) r₂ hv fun w tk rw' => h _ _ _ (I.trans x₁ (I₁.trans x₂ (Ext.tok tk))) (I₂.tok tk) rw'
 refine bk ?_; clear bk gL
 exact tail_any t1 t2 hg (hsl _ _)
noncomputable def pickL {α : Type} (xs : List α) (lo hi st : Option Int) : List α :=
 (sliceRange (sliceBounds lo hi st xs.length).1 (sliceBounds lo hi st xs.length).2.1 (sliceBounds lo hi st xs.length).2.2).filterMap (xs[·]?)
theorem VRs.pickI {h : Heap} {xs : List AV} {vs : List Value} (r : VRs G μ h xs vs) : ∀ l : List Nat, VRs G μ h (l.filterMap (xs[·]?)) (l.filterMap (vs[·]?))
 | [] => .nil
 | i :: l => by
  rw [List.filterMap_cons, List.filterMap_cons]
  cases e : xs[i]? with
  | none =>
   have : vs[i]? = none := by
    rw [List.getElem?_eq_none_iff] at e ⊢
    rw [← r.length]; exact e
   rw [this]; exact r.pickI l
  | some x =>
   refine Mine.hold fun gL bk => ?_
   obtain ⟨v, hv, rv⟩ := r.get e
   refine bk ?_; clear bk gL
   rw [hv]; exact .cons rv (r.pickI l)
theorem VRs.pickL {h : Heap} {xs : List AV} {vs : List Value} (r : VRs G μ h xs vs) (lo hi st : Option Int) : VRs G μ h (pickL xs lo hi st) (slicePick vs.toArray lo hi st).toList := by
 unfold Mine.pickL slicePick
 rw [r.length]
 have := r.pickI (sliceRange (sliceBounds lo hi st vs.length).1 (sliceBounds lo hi st vs.length).2.1 (sliceBounds lo hi st vs.length).2.2)
 simpa using this
noncomputable def partOf (v : AV) : Option (Option Int) := v.casesOn (some none) (fun zz => none) (fun i => some (some i)) (fun zz => none) (fun zz => none) (fun zz => none) (fun zz => none) (fun zz => none) (fun zz => none) fun zz => none
theorem partOf_none : partOf .none = some none := rfl
theorem partOf_int (i : Int) : partOf (.int i) = some (some i) := rfl
abbrev SimP (G : Glob) (sc : SC) (hd : Bool) (d : Nat) (m : AM (Option Int)) (e : Option Expr) : Prop := Sim G sc hd d m (fun env => evalPart e env) (fun zz zz a b => IsPart b a)
noncomputable def bPart (m : AM AV) : AM (Option Int) := do
 let v ← m
 see fun zz => partOf v
theorem simp_none : SimP G sc hd d (pure none) none := by
 intro A fr env own μ st s z st' hA I hm Q E h
 cases hm
 show wpAny _ _ (pure Value.none) _ _ _
 exact wpAny_pure (h _ _ _ Ext.refl I .none)
theorem simp_some {m : AM AV} {e : Expr} (S : SimE G sc hd d m e) : SimP G sc hd d (bPart m) (some e) := by
 intro A fr env own μ st s z st' hA I hm Q E h
 show wpAny _ _ (eval e env) _ _ _
 refine sim_bind2 S hA I hm fun v st₁ w s₁ μ₁ hm₁ x₁ I₁ r₁ => ?_
 obtain ⟨rfl, hv⟩ := see_some hm₁
 cases r₁ with
 | none => cases hv; exact h _ _ _ x₁ I₁ .none
 | int i t => cases hv; exact h _ _ _ x₁ I₁ (.int _ _)
 | _ => cases hv
noncomputable def AV.script? (v : AV) : _root_.Option (List Int) := v.casesOn Option.none (fun zz => Option.none) (fun zz => Option.none) (fun zz => Option.none) (fun zz => Option.none) (fun zz => Option.none) (fun zz => Option.none) (fun zz => Option.none) (fun zz => Option.none) (fun x => Option.some x)
theorem AV.of_script? {x : AV} {y : List Int} (h : x.script? = _root_.Option.some y) : x = .script y := by
 cases x with
 | script => cases h; rfl
 | _ => cases h
noncomputable def aSlice (o : AV) (lo hi st : Option Int) : AHM AV := fun hp => bG (st ≠ some 0) (bE (bL hp o fun zz xs zz => bG (xs.length ≤ 1000000) (aNew (.list (pickL xs lo hi st)) hp)) (bO o.script? fun ns => bG (ns.length ≤ 1000000) (aNew (.list (pickL (ns.map .int) lo hi st)) hp)))
noncomputable def bSlice (m : AM AV) (lo hi st : AM (Option Int)) : AM AV := do
 let o ← m
 let a ← lo
 let b ← hi
 let c ← st
 lift (aSlice o a b c)
theorem sim_slice {m : AM AV} {ml mu ms : AM (Option Int)} {value : Expr} {lo hi st : Option Expr} {sp pos : Pos} (S : SimE G sc hd d m value) (Sl : SimP G sc hd d ml lo) (Su : SimP G sc hd d mu hi) (Ss : SimP G sc hd d ms st)
  (hsl : ∀ o i, ∃ ops, subscripted (.Slice lo hi st sp) false o i = operate ops (getItem o i) := by exact fun zz zz => ⟨_, rfl⟩) : SimE G sc hd d (bSlice m ml mu ms) (.Subscript value (.Slice lo hi st sp) pos) := by
 intro A fr env own μ st₀ s z st' hA I hm Q E h
 refine PyProof.Rows.Subscript_ (sim_bind2 S hA I hm fun o st₁ ov s₁ μ₁ hm₁ x₁ I₁ r₁ => wpAny_Slice (sim_bind2 Sl hA I₁ hm₁ fun a st₂ av s₂ μ₂ hm₂ x₂ I₂ r₂ => sim_bind2 Su hA I₂ hm₂ fun b st₃ bv s₃ μ₃ hm₃ x₃ I₃ r₃ => sim_bind2 Ss hA I₃ hm₃ fun c st₄ cv s₄ μ₄ hm₄ x₄ I₄ r₄ => ?_))
 have r₁' := I₃.vr x₄ (I₂.vr x₃ (I₁.vr x₂ r₁))
 refine Mine.hold fun gL bk => ?_
 obtain ⟨hp', h4, rfl⟩ := lift_some hm₄
 refine bk ?_; clear bk gL
 refine bG_some h4 fun hst h4 => ?_
 have gs := I₄.h.grow (h' := s₄.heap.push { cls := .type "slice", data := .fields #[av, bv, cv] }) (tk := s₄.toks) fun b o e => Heap.get?_push_of_some _ e
 have I₅ := I₄.heap gs.2 gs.1
 have fin : ∀ {xs : List AV} {vs : List Value} {l : Addr}, VRs G μ₄ s₄.heap xs vs → (s₄.heap.push { cls := .type "slice", data := .fields #[av, bv, cv] }).IsList l vs.toArray → vs.length ≤ 1000000 → aNew (.list (pickL xs a b c)) st₄.hp = some (z, hp') →
   wpAny G.M A (PyProof.Rows.subscriptTail value (.Slice lo hi st sp) (.ref l) (.ref s₄.heap.objs.size)) Q E { s₄ with heap := s₄.heap.push { cls := .type "slice", data := .fields #[av, bv, cv] } } := by
  intro xs vs l k hl hz e
  cases e
  obtain ⟨ops, hops⟩ := hsl (.ref l) (.ref s₄.heap.objs.size)
  refine tail_any hl.typeIs slot_list_getitem.lookup (wpAny_getItem_list_slice hl ⟨_, Heap.get?_push_size _ rfl, rfl, rfl⟩ r₂ r₃ r₄ hst ?_ (by rw [List.size_toArray, sizeLine_eq]; omega)) hops
  have g := alloc_list (tk := s₄.toks) (n := 0) I₅.h ((k.ext I₄.h (by intro a ha; cases ha) gs.2).pickL a b c)
  rw [Array.toArray_toList] at g
  exact h _ _ _ (I.trans x₁ (I₁.trans x₂ (I₂.trans x₃ (I₃.trans x₄ (Ext.trans I₄.h.len gs.2.weaken g.2.weaken))))) (I₅.heap g.2 g.1) (ref_new I₅.h.len)
 refine bE_some h4 (fun h4 => ?_) fun h4 => bO_some h4 fun ns e h4 => bG_some h4 fun hz h4 => ?_
 ·apply vrL I₄.h r₁' h4; intro r xs ver a vs n hr ha g1 k1 h4
  refine bG_some h4 fun hz h4 => ?_
  exact fin k1 ⟨_, Heap.get?_push_of_some _ g1, rfl, n, rfl⟩ (by rw [← k1.length]; exact hz) h4
 ·rw [AV.of_script? e] at r₁'
  obtain ⟨a, o, n, vs, rfl, h1, h2, h3, h5⟩ := r₁'.toM
  exact fin (VRs.ofInts h5) ⟨_, Heap.get?_push_of_some _ (I₄.h.base _ _ h1), h2, _, h3⟩ (by rw [← (VRs.ofInts (G := G) (μ := μ₄) (h := s₄.heap) h5).length, List.length_map]; exact hz) h4
noncomputable def aSetItem (o i v : AV) : AHM Unit := fun hp => bI i fun k => bD hp o fun r es ver => bG (es.length ≤ 1000000) (some ((), hp.set r (.dict (vset es k v), ver + 1)))
theorem setItem_is {A : Around} {Q : Unit → Shared → Prop} {E : Value → Shared → Prop} {hp' : AH} (H : HInv G fr μ hp s) {o i v : AV} {ov iv vv : Value} (ro : VR G μ s.heap o ov) (ri : VR G μ s.heap i iv) (rv : VR G μ s.heap v vv) (h : aSetItem o i v hp = some ((), hp'))
  (k : ∀ s', Ext [] fr μ hp s μ hp' s' → HInv G fr μ hp' s' → Q () s') : wpAny G.M A (setItem ov iv vv) Q E s := by
 apply vrI ri h; intro n t h
 apply vrD H ro h; intro r es ver a kvs hr ha hd hk h
 refine bG_some h fun hz h => ?_
 cases h
 refine wpAny_setItem_pairs (knd := intKind G.prog G.w) (k := n) (by simp [intKind, Value.isInt]) hd (fun h' hd' hs => ?_) (by rw [← hk.length, sizeLine_eq]; omega)
 have g := dict_put H hr ha hs hd' (hk.set rv) (s.toks + 1)
 exact k _ g.2 g.1
noncomputable def bSetItem (mo mi mv : AM AV) : AM AFlow := do
 let v ← mv
 let o ← mo
 let i ← mi
 lift (aSetItem o i v)
 pure .next
theorem sims_setItem {mo mi mv : AM AV} {o i value : Expr} {p pos : Pos} (Sv : SimE G sc hd d mv value) (So : SimE G sc hd d mo o) (Si : SimE G sc hd d mi i) (hs : autoParam (swapsWith value (some (.Subscript o i p)) pos.line = fun zz => pure false) aR) :
  Sim1 G sc hd d (bSetItem mo mi mv) (.Assign [.Subscript o i p] value pos) := by
 intro A outer env own μ st s fl st' hA hf I hm Q E h hE
 refine wpAny_Assign_Subscript (sim_bind2 Sv hA I hm fun v st₁ vv s₁ μ₁ hm₁ x₁ I₁ r₁ => sim_bind2 So hA I₁ hm₁ fun o st₂ ov s₂ μ₂ hm₂ x₂ I₂ r₂ => sim_bind2 Si hA I₂ hm₂ fun i st₃ iv s₃ μ₃ hm₃ x₃ I₃ r₃ => ?_) (by rw [hs])
 refine Mine.hold fun gL bk => ?_
 obtain ⟨u, st₄, h1, h2⟩ := am_bind_some hm₃
 cases h2
 obtain ⟨hp', h3, rfl⟩ := lift_some h1
 refine bk ?_; clear bk gL
 refine setItem_is I₃.h (I₂.vr x₃ r₂) r₃ (I₂.vr x₃ (I₁.vr x₂ r₁)) h3 fun s' x' H' => ?_
 exact h _ _ _ (I.trans x₁ (I₁.trans x₂ (I₂.trans x₃ x'.weaken))) (I₃.heap x' H') .next
noncomputable def aDelItem (o i : AV) : AHM Unit := fun hp => bI i fun k => bD hp o fun r es ver => bG (es.length ≤ 1000000 ∧ (vat es k).isSome = true) (some ((), hp.set r (.dict (vdel es k), ver + 1)))
noncomputable def bDel (mo mi : AM AV) : AM AFlow := do
 let o ← mo
 let i ← mi
 lift (aDelItem o i)
 pure .next
theorem sims_del {mo mi : AM AV} {o i : Expr} {p pos : Pos} (So : SimE G sc hd d mo o) (Si : SimE G sc hd d mi i) : Sim1 G sc hd d (bDel mo mi) (.Delete [.Subscript o i p] pos) := by
 intro A outer env own μ st s fl st' hA hf I hm Q E h hE
 refine wpAny_Delete (wpAny_deleteEach_cons (wpAny_delete_Subscript (sim_bind2 So hA I hm fun o st₂ ov s₂ μ₂ hm₂ x₂ I₂ r₂ => sim_bind2 Si hA I₂ hm₂ fun i st₃ iv s₃ μ₃ hm₃ x₃ I₃ r₃ => ?_)))
 refine Mine.hold fun gL bk => ?_
 obtain ⟨u, st₄, h1, h2⟩ := am_bind_some hm₃
 cases h2
 obtain ⟨hp', h3, rfl⟩ := lift_some h1
 refine bk ?_; clear bk gL
 have r₂' := I₂.vr x₃ r₂
 apply vrI r₃ h3; intro n t h3
 apply vrD I₃.h r₂' h3; intro r es ver a kvs hr ha hdd hk h3
 refine bG_some h3 fun hz h3 => ?_
 cases h3
 have hl : (valueAt kvs n).isSome = true := by
  cases e : vat es n with
  | none => rw [e] at hz; cases hz.2
  | some x =>
   obtain ⟨v, hv, _⟩ := (hk.find (k := n)).1 x e
   rw [hv]; rfl
 unfold delItem
 try with_reducible refine wpAny_holding ?_
 refine wpAny_bind (wpAny_sequenceKey hdd.typeIs (by decide) ?_)
 refine wpAny_bind (wpAny_callSpecial?_slot (name := Str.ofString "__delitem__") hdd.typeIs PySem.F.slot_dict_delitem
  (call_meetsIn PySem.F.slot_dict_delitem hdd.typeIs PySem.F.entry_dict_delitem (PySem.F.args_dict_delitem_2 _ _) (meets_dict_delitem_pairs (intKind G.prog G.w) _ (k := n) (by simp [intKind, Value.isInt])) ⟨kvs, hdd, (by rw [← hk.length, sizeLine_eq]; omega), hl, fun h' hmm hs => ?_⟩))
 have g := dict_put I₃.h hr ha hs hmm hk.del (s₃.toks + 1)
 refine wpAny_pure ?_
 exact wpAny_deleteEach_nil (h _ _ _ (I.trans x₂ (I₂.trans x₃ g.2.weaken)) (I₃.heap g.2 g.1) .next)
noncomputable def bNamed (x : String) (m : AM AV) : AM AV := do
 let v ← m
 setVar x v
 pure v
theorem sim_named {x : String} {m : AM AV} {e : Expr} {p pos : Pos} (S : SimE G sc hd d m e) (hx : StoreOk sc x) : SimE G sc hd d (bNamed x m) (.NamedExpr (.Name (Str.ofString x) p) e pos) := by
 intro A fr env own μ st s z st' hA I hm Q E h
 refine wpAny_NamedExpr (sim_bind2 S hA I hm fun v st₁ w s₁ μ₁ hm₁ x₁ I₁ r₁ => ?_)
 cases hm₁
 exact wpAny_assign_Name (store_is I₁ r₁ hx fun s₂ x₂ I₂ => h _ _ _ (I.trans x₁ x₂) I₂ (I₁.vr (st₁ := { st₁ with env := put x z st₁.env }) x₂ r₁))
noncomputable def bSetItemName (mo mi : AM AV) (x : String) (mv : AM AV) : AM AFlow := do
 let v ← mv
 let o ← mo
 let i ← mi
 lift (aSetItem o i v)
 setVar x v
 pure .next
theorem wpAny_assign_Subscript {A : Around} {s : Shared} {o i : Expr} {p : Pos} {env : Env} {v : Value} {Q : Unit → Shared → Prop} {E : Value → Shared → Prop}
  (h : wpAny G.M A (eval o env) (fun ov s₁ => wpAny G.M A (eval i env) (fun iv s₂ => wpAny G.M A (setItem ov iv v) Q E s₂) E s₁) E s) : wpAny G.M A (assign (.Subscript o i p) env v) Q E s := fun Γ p hΓ => by
 simp only [assign_Subscript, Sem.wp_bind', Sem.wp_holding, Sem.wp_cmd_standAt, Sem.wp_release, Sem.wp_pure']
 exact Sem.wp_mono G.M Γ _ (fun ov p₁ s₁ h₁ => Sem.wp_mono G.M Γ _ (fun iv p₂ s₂ h₂ => h₂ Γ _ hΓ) (fun zz zz zz h' => h') _ _ (h₁ Γ p₁ hΓ)) (fun zz zz zz h' => h') _ _ (h Γ _ hΓ)
theorem sims_setItemName {x : String} {mo mi mv : AM AV} {o i value : Expr} {p px pos : Pos} (Sv : SimE G sc hd d mv value) (So : SimE G sc hd d mo o) (Si : SimE G sc hd d mi i) (hx : StoreOk sc x)
  (hw : autoParam (∀ env : Env, swappedStores [.Subscript o i p, .Name (Str.ofString x) px] value env = pure none) aR) :
  Sim1 G sc hd d (bSetItemName mo mi x mv) (.Assign [.Subscript o i p, .Name (Str.ofString x) px] value pos) := by
 intro A outer env own μ st s fl st' hA hf I hm Q E h hE
 refine wpAny_Assign_two (sim_bind2 Sv hA I hm fun v st₁ vv s₁ μ₁ hm₁ x₁ I₁ r₁ => wpAny_assign_Subscript (sim_bind2 So hA I₁ hm₁ fun o st₂ ov s₂ μ₂ hm₂ x₂ I₂ r₂ => sim_bind2 Si hA I₂ hm₂ fun i st₃ iv s₃ μ₃ hm₃ x₃ I₃ r₃ => ?_)) rfl (hw env)
 refine Mine.hold fun gL bk => ?_
 obtain ⟨u, st₄, h1, h2⟩ := am_bind_some hm₃
 cases h2
 obtain ⟨hp', h3, rfl⟩ := lift_some h1
 refine bk ?_; clear bk gL
 have rv := I₂.vr x₃ (I₁.vr x₂ r₁)
 refine setItem_is I₃.h (I₂.vr x₃ r₂) r₃ rv h3 fun s' x' H' => ?_
 have I₄ := I₃.heap x' H'
 refine wpAny_assign_Name (store_is I₄ (I₃.vr (st₁ := { st₃ with hp := hp' }) x'.weaken rv) hx fun s'' x'' I'' => ?_)
 exact h _ _ _ (I.trans x₁ (I₁.trans x₂ (I₂.trans x₃ (Ext.trans I₃.h.len x'.weaken x'')))) I'' .next
end
noncomputable def allIn (h : Heap) (L : Addr) (as : List Addr) : List (Addr × Obj) := as.filterMap fun a => if a = L then none else (h.get? a).map fun o => (a, o)
theorem allIn_mem {h : Heap} {L : Addr} {as : List Addr} {b : Addr} {o : Obj} : (b, o) ∈ allIn h L as ↔ b ∈ as ∧ b ≠ L ∧ h.get? b = some o := by
 unfold allIn
 simp only [List.mem_filterMap]
 constructor
 ·rintro zI0
  refine Mine.hold fun gL bk => ?_
  obtain ⟨a, ha, e⟩ := zI0
  refine bk ?_; clear bk gL
  split at e
  ·cases e
  ·rename_i hne
   refine Mine.hold fun gL bk => ?_
   obtain ⟨o', ho', e'⟩ := Option.map_eq_some_iff.mp e
   cases e'
   refine bk ?_; clear bk gL
   exact ⟨ha, hne, ho'⟩
 ·rintro zI0
  refine Mine.hold fun gL bk => ?_
  obtain ⟨ha, hne, ho⟩ := zI0
  refine bk ?_; clear bk gL
  exact ⟨b, ha, by rw [if_neg hne, ho]; rfl⟩
noncomputable def preOf (h : Heap) (L x : Addr) : List (Addr × Obj) := allIn h L ((List.range h.objs.size).filter (· < x))
noncomputable def postOf (h : Heap) (L x : Addr) : List (Addr × Obj) := allIn h L ((List.range h.objs.size).filter (x < ·))
theorem pre_ne {h : Heap} {L x : Addr} : ∀ p ∈ preOf h L x, p.1 ≠ x := fun p hp e => by
 obtain ⟨b, o⟩ := p
 have h1 := (List.mem_filter.mp (allIn_mem.mp hp).1).2
 simp only at e; subst e
 exact Nat.lt_irrefl _ (of_decide_eq_true h1)
theorem post_ne {h : Heap} {L x : Addr} : ∀ p ∈ postOf h L x, p.1 ≠ x := fun p hp e => by
 obtain ⟨b, o⟩ := p
 have h1 := (List.mem_filter.mp (allIn_mem.mp hp).1).2
 simp only at e; subst e
 exact Nat.lt_irrefl _ (of_decide_eq_true h1)
theorem nil_heap (a : Addr) : ({} : Heap).get? a = none := Heap.get?_none_of_le (Nat.zero_le _)
theorem all_news {h : Heap} {L x : Addr} {ox : Obj} (hx : h.get? x = some ox) (hne : x ≠ L) : News {} L h (preOf h L x ++ (x, ox) :: postOf h L x) := fun p hp => by
 obtain ⟨b, o⟩ := p
 rcases List.mem_append.mp hp with q | q
 ·obtain ⟨_, h2, h3⟩ := allIn_mem.mp q
  exact ⟨h3, h2, nil_heap _⟩
 ·rcases List.mem_cons.mp q with q | q
  ·cases q; exact ⟨hx, hne, nil_heap _⟩
  ·obtain ⟨_, h2, h3⟩ := allIn_mem.mp q
   exact ⟨h3, h2, nil_heap _⟩
theorem all_back {h h' : Heap} {L x : Addr} {ox' : Obj} (N : News {} L h' (preOf h L x ++ (x, ox') :: postOf h L x)) {b : Addr} {o : Obj} (hL : b ≠ L) (hx : b ≠ x) (hb : h.get? b = some o) : h'.get? b = some o := by
 have hs := Heap.lt_size hb
 rcases Nat.lt_or_gt_of_ne hx with q | q
 ·exact (N (b, o) (List.mem_append_left _ (allIn_mem.mpr ⟨List.mem_filter.mpr ⟨List.mem_range.mpr hs, decide_eq_true q⟩, hL, hb⟩))).1
 ·exact (N (b, o) (List.mem_append_right _ (List.mem_cons_of_mem _ (allIn_mem.mpr ⟨List.mem_filter.mpr ⟨List.mem_range.mpr hs, decide_eq_true q⟩, hL, hb⟩)))).1
theorem all_at {h h' : Heap} {L x : Addr} {ox' : Obj} (N : News {} L h' (preOf h L x ++ (x, ox') :: postOf h L x)) : h'.get? x = some ox' := (N (x, ox') (List.mem_append_right _ List.mem_cons_self)).1
theorem all_fr {h : Heap} {L : Addr} {m : PySem.Str → Option Value} (hn : h.Ns L m) : Fr {} L h m := ⟨hn, fun b o e => (by rw [nil_heap] at e; cases e), Nat.zero_le _⟩
section
variable {G : Glob} {sc : SC} {hd : Bool} {d : Nat}
theorem bridge_put {fr : List Env} {env : Env} {own μ : List Addr} {st : AS} {s : Shared} {n : Nat} {c : AObj × Nat} {a : Addr} {x : AObj} {o' : Obj} {h' : Heap} {tk : Nat} {m : PySem.Str → Option Value} (I : Inv G sc fr env own μ st s) (hc : st.hp[n]? = some c) (ha : μ[n]? = some a)
  (hm : ∀ x v, st.env.lookup x = some v → env.kindOf (Str.ofString x) = some .local → ∃ w, m (Str.ofString x) = some w ∧ VR G μ s.heap v w)
  (hns : h'.Ns env.locals m) (hk : ∀ b o, b ≠ env.locals → b ≠ a → s.heap.get? b = some o → h'.get? b = some o) (ho : h'.get? a = some o') (hor : Still μ μ s.heap h' → OR G μ h' x o') :
  XT own fr μ st s μ { st with hp := st.hp.set n (x, c.2 + 1) } { s with heap := h', toks := tk } ∧ Inv G sc fr env own μ { st with hp := st.hp.set n (x, c.2 + 1) } { s with heap := h', toks := tk } := by
 have ham : a ∈ μ := List.mem_of_getElem? ha
 have hlt : n < st.hp.length := (List.getElem?_eq_some_iff.mp hc).1
 refine Mine.hold fun gL bk => ?_
 obtain ⟨l1, l2, oL, l3, l4⟩ := I.e.ownp _ I.e.lown
 have hLa : env.locals ≠ a := fun q => l1 (q ▸ ham)
 obtain ⟨oL', es', ep', hL', hLd, _⟩ := id hns
 obtain ⟨oa, hoa, _⟩ := I.h.obj n c a hc ha
 refine bk ?_; clear bk gL
 have still : Still μ μ s.heap h' := fun b o e hcl hd hmm => ⟨hmm, hk b o (fun q => by
  subst q; rw [l3] at e; cases e; exact l4.noTup hcl hd) (fun q => hmm (q ▸ ham)) e⟩
 refine ⟨⟨⟨[], by simp, by simp⟩, ⟨h', tk, rfl⟩, fun b o e => ?_, fun b o e hb hbo => ⟨o.slots, hk b o (fun q => hbo (q ▸ I.e.lown)) (fun q => hb (q ▸ ham)) e, fun zz => rfl⟩, fun j c' hc' => ?_⟩, ⟨⟨fun b o e => ?_, by simp [I.h.len], I.h.nod, fun j c' b hc' hb => ?_, I.h.low, fun e he => ?_⟩, ⟨I.e.ok, fun b hb => ?_, I.e.lown, ⟨m, hns, fun y v hy hkk => ?_⟩, fun y v hy => ?_, fun y cc hy => ?_, I.e.cown, I.e.cnot⟩⟩⟩
 ·by_cases q : b = env.locals
  ·exact ⟨_, q ▸ hL'⟩
  ·by_cases q' : b = a
   ·exact ⟨_, q' ▸ ho⟩
   ·exact ⟨_, hk b o q q' e⟩
 ·by_cases hj : j = n
  ·subst hj
   rw [hc] at hc'; cases hc'
   exact ⟨_, List.getElem?_set_self hlt, Nat.le_succ _, fun e => absurd e (Nat.ne_of_lt (Nat.lt_succ_self _))⟩
  ·refine ⟨c', by simp only; rw [List.getElem?_set_ne (Ne.symm hj)]; exact hc', Nat.le_refl _, fun zz => ⟨rfl, fun b hb => ?_⟩⟩
   refine Mine.hold fun gL bk => ?_
   obtain ⟨o', h1, _⟩ := I.h.obj j c' b hc' hb
   refine bk ?_; clear bk gL
   exact (hk b o' (fun z => l1 (z ▸ List.mem_of_getElem? hb)) (fun z => hj (I.h.inj (z ▸ hb) ha)) h1).trans h1.symm
 ·exact hk b o (fun z => by subst z; rw [l2] at e; cases e) (fun z => by subst z; rw [I.h.low _ ham] at e; cases e) (I.h.base b o e)
 ·by_cases hj : j = n
  ·subst hj
   simp only [List.getElem?_set_self hlt] at hc'
   refine Mine.hold fun gL bk => ?_
   cases hc'
   rw [ha] at hb; cases hb
   refine bk ?_; clear bk gL
   exact ⟨o', ho, hor still⟩
  ·simp only [List.getElem?_set_ne (Ne.symm hj)] at hc'
   refine Mine.hold fun gL bk => ?_
   obtain ⟨o', h1, h2⟩ := I.h.obj j c' b hc' hb
   refine bk ?_; clear bk gL
   exact ⟨o', hk b o' (fun z => l1 (z ▸ List.mem_of_getElem? hb)) (fun z => hj (I.h.inj (z ▸ hb) ha)) h1, h2.mono (fun zz zz e => e) still⟩
 ·obtain ⟨k, L, o', h1, h2, h3, h4, h5⟩ := I.h.frs e he
  by_cases q : L = env.locals
  ·subst q
   exact ⟨k, _, oL', h1, hL', ⟨_, _, hLd⟩, h4, h5⟩
  ·exact ⟨k, L, o', h1, hk L o' q (fun z => h4 (z ▸ ham)) h2, h3, h4, h5⟩
 ·obtain ⟨g1, g2, o, g3, g4⟩ := I.e.ownp b hb
  refine ⟨g1, g2, ?_⟩
  by_cases q : b = env.locals
  ·exact ⟨_, q ▸ hL', .inl ⟨_, _, hLd⟩⟩
  ·exact ⟨o, hk b o q (fun z => g1 (z ▸ ham)) g3, g4⟩
 ·obtain ⟨w, g1, g2⟩ := hm y v hy hkk
  exact ⟨w, g1, g2.mono (fun zz zz e => e) still⟩
 ·rcases I.e.cel y v hy with q | ⟨q, cc, w, g1, ⟨oo, g2, g2'⟩, g3⟩
  ·exact .inl q
  ·exact .inr ⟨q, cc, w, g1, ⟨oo, hk cc oo (I.e.cells _ _ g1).2.2 (fun z => (I.e.cells _ _ g1).2.1 (z ▸ ham)) g2, g2'⟩, g3.mono (fun zz zz e => e) still⟩
 ·obtain ⟨⟨w, oo, g1, g1'⟩, g2, g3⟩ := I.e.cells y cc hy
  exact ⟨⟨w, oo, hk cc oo g3 (fun z => g2 (z ▸ ham)) g1, g1'⟩, g2, g3⟩
structure DictAttr (K : Frag) (C : Addr) (name : String) : Prop where
 hg : plainGet K C (Str.ofString name) = true
 hh : hasDictIn K C = true
 ha : ∃ attr, findIn K (.ref C) (Str.ofString name) = some attr ∧ noGet K attr = true
 hs : findIn K (.ref C) "__setattr__" = some (some (.builtin "object.__setattr__"))
 hp : plainOver K C = true
 ht : takerIn K C (Str.ofString name) = some none
structure SlotAttr (K : Frag) (C : Addr) (name : String) (i : Nat) : Prop where
 hg : plainGet K C (Str.ofString name) = true
 hc : isClsIn K C = true
 hs : findIn K (.ref C) "__setattr__" = some (some (.builtin "object.__setattr__"))
 hp : plainOver K C = true
 hz : i < 1000
 at_ : ∃ p, findIn K (.ref C) (Str.ofString name) = some (some (.ref p)) ∧ specialIn K (.ref p) "__get__" = some (some (.builtin "member_descriptor.__get__")) ∧ takesIn K (.ref p) = some true ∧ slotIn K p C = some i ∧
  takerIn K C (Str.ofString name) = some (some (.ref p)) ∧ typeIn K (.ref p) = some (.type "member_descriptor")
noncomputable def handedA (v : AV) : Bool := v.casesOn true (fun zz => true) (fun zz => true) (fun zz => true) (fun zz => true) (fun zz => true) (fun zz => true) (fun x => (withoutEnding? x "#data").isNone) (fun zz => true) fun zz => true
theorem handedA_is {μ : List Addr} {h : Heap} {v : AV} {w : Value} (r : VR G μ h v w) (e : handedA v = true) : handedIn w = true := by
 cases r with
 | bi x => exact e
 | _ => rfl
theorem ARs.look {μ : List Addr} {h : Heap} {name : String} {xs : List (String × AV)} {es : List DictEntry} (k : ARs G μ h xs es) : (∀ v, xs.lookup name = some v → ∃ w, getL (Str.ofString name) es = some (some w) ∧ VR G μ h v w) ∧ (xs.lookup name = none → getL (Str.ofString name) es = some none) := by
 induction k with
 | nil => exact ⟨fun v e => (by cases e), fun zz => rfl⟩
 | @cons k t x₀ v₀ xs es h1 h2 ih =>
  by_cases hk : name = k
  ·subst hk
   have e1 : ((name, x₀) :: xs).lookup name = some x₀ := by simp
   rw [e1]
   exact ⟨fun v e => ⟨v₀, by simp [getL, Value.isStr], by cases e; exact h1⟩, fun e => by cases e⟩
  ·have hb : (name == k) = false := by simp [hk]
   have hne : Str.ofString k ≠ Str.ofString name := fun e => hk (ofString_inj e).symm
   have e1 : getL (Str.ofString name) (⟨PyData.keyHash G.w.params (Str.ofString k), .str (Str.ofString k) t, v₀⟩ :: es) = getL (Str.ofString name) es := by
    unfold getL
    have : Value.isStr (.str (Str.ofString k) t) (Str.ofString name) = false := by simp [Value.isStr, hne]
    simp only [List.find?_cons, this, List.any_cons]
    rfl
   rw [e1, List.lookup_cons, hb]
   exact ih
theorem ARs.put {μ : List Addr} {h : Heap} {name : String} {v : AV} {w : Value} {t : Tok} (r : VR G μ h v w) {xs : List (String × AV)} {es : List DictEntry} (k : ARs G μ h xs es) : ARs G μ h (Mine.put name v xs) (putL (Str.ofString name) (PyData.keyHash G.w.params (Str.ofString name)) (.str (Str.ofString name) t) w es) := by
 induction k with
 | nil => exact .cons r .nil
 | @cons k t' x₀ v₀ xs es h1 h2 ih =>
  rw [Mine.put_cons]; unfold putL
  by_cases hk : k = name
  ·subst hk
   rw [if_pos rfl]
   have : Value.isStr (.str (Str.ofString k) t') (Str.ofString k) = true := by simp [Value.isStr]
   simp only [this, if_true]
   exact .cons r h2
  ·rw [if_neg hk]
   have : Value.isStr (.str (Str.ofString k) t') (Str.ofString name) = false := by
    simp only [Value.isStr, beq_eq_false_iff_ne, ne_eq]
    exact fun e => hk (ofString_inj e)
   simp only [this, Bool.false_eq_true, if_false]
   exact .cons h1 ih
theorem ARs.length {μ : List Addr} {h : Heap} {xs : List (String × AV)} {es : List DictEntry} (k : ARs G μ h xs es) : xs.length = es.length := by
 induction k with
 | nil => rfl
 | cons _ _ ih => exact congrArg (· + 1) ih
theorem SRs.length {μ : List Addr} {h : Heap} {xs : List (Option AV)} {es : List (Option Value)} (k : SRs G μ h xs es) : xs.length = es.length := by
 induction k with
 | nil => rfl
 | none _ ih => exact congrArg (· + 1) ih
 | some _ _ ih => exact congrArg (· + 1) ih
theorem SRs.get {μ : List Addr} {h : Heap} {xs : List (Option AV)} {es : List (Option Value)} (k : SRs G μ h xs es) : ∀ {i : Nat} {x : AV}, (xs[i]?).join = Option.some x → ∃ v, (es[i]?).join = Option.some v ∧ VR G μ h x v := by
 induction k with
 | nil => intro i x e; simp at e
 | none _ ih =>
  intro i x e
  cases i with
  | zero => simp at e
  | succ i => exact ih e
 | some h1 _ ih =>
  intro i x e
  cases i with
  | zero => cases e; exact ⟨_, rfl, h1⟩
  | succ i => exact ih e
noncomputable def sput (xs : List (Option AV)) (i : Nat) (v : AV) : List (Option AV) := (xs ++ List.replicate (i + 1 - xs.length) none).set i (some v)
theorem SRs.append {μ : List Addr} {h : Heap} {xs ys : List (Option AV)} {es fs : List (Option Value)} (k : SRs G μ h xs es) (k' : SRs G μ h ys fs) : SRs G μ h (xs ++ ys) (es ++ fs) := by
 induction k with
 | nil => exact k'
 | none _ ih => exact .none ih
 | some h1 _ ih => exact .some h1 ih
theorem SRs.nones {μ : List Addr} {h : Heap} : ∀ n : Nat, SRs G μ h (List.replicate n Option.none) (List.replicate n Option.none)
 | 0 => .nil
 | n + 1 => .none (SRs.nones n)
theorem SRs.set {μ : List Addr} {h : Heap} {v : AV} {w : Value} (r : VR G μ h v w) {xs : List (Option AV)} {es : List (Option Value)} (k : SRs G μ h xs es) : ∀ i : Nat, SRs G μ h (xs.set i (Option.some v)) (es.set i (Option.some w)) := by
 induction k with
 | nil => exact fun zz => .nil
 | none k ih =>
  intro i
  cases i with
  | zero => exact .some r k
  | succ i => exact .none (ih i)
 | some h1 k ih =>
  intro i
  cases i with
  | zero => exact .some r k
  | succ i => exact .some h1 (ih i)
theorem SRs.sput {μ : List Addr} {h : Heap} {v : AV} {w : Value} {xs : List (Option AV)} {es : List (Option Value)} (k : SRs G μ h xs es) (r : VR G μ h v w) (i : Nat) : SRs G μ h (Mine.sput xs i v) ((es.toArray ++ Array.replicate (i + 1 - es.toArray.size) Option.none).setIfInBounds i (Option.some w)).toList := by
 have := (k.append (SRs.nones (G := G) (μ := μ) (h := h) (i + 1 - es.length))).set r i
 unfold Mine.sput
 rw [k.length]
 simpa using this
structure Attrs (G : Glob) (K : Frag) (ix : String → String → Option (Option Nat)) : Prop where
 k : K.In G.h₀
 dict : ∀ c name C, G.addr c = some C → ix c name = some none → DictAttr K C name
 slot : ∀ c name C i, G.addr c = some C → ix c name = some (some i) → SlotAttr K C name i
theorem HInv.ex {fr : List Env} {μ : List Addr} {hp : AH} {s : Shared} (H : HInv G fr μ hp s) {a : Addr} (ha : a ∈ μ) : ∃ o, s.heap.get? a = some o := by
 refine Mine.hold fun gL bk => ?_
 obtain ⟨n, hn⟩ := List.getElem?_of_mem ha
 have hl := (List.getElem?_eq_some_iff.mp hn).1
 rw [H.len] at hl
 obtain ⟨o, ho, _⟩ := H.obj n _ a (List.getElem?_eq_getElem hl) hn
 refine bk ?_; clear bk gL
 exact ⟨o, ho⟩
noncomputable def aAttr (ix : String → String → Option (Option Nat)) (name : String) (o : AV) (hp : AH) : Option AV :=
 bC hp o fun zz x zz => bO (bE (bO x.inst? fun p => bG (ix p.1 name = some none) (bO hp[p.2]? fun c => bO c.1.attrs? fun fs => fs.lookup name)) (bO x.sinst? fun p => bO (ix p.1 name).join fun i => (p.2.2[i]?).join)) fun v => bG (handedA v = true) (some v)
theorem attr_is {fr : List Env} {μ : List Addr} {hp : AH} {s : Shared} {A : Around} {K : Frag} {ix : String → String → Option (Option Nat)} {name : String} {o v : AV} {ov : Value} {Q : Value → Shared → Prop} {E : Value → Shared → Prop} (At : Attrs G K ix) (H : HInv G fr μ hp s) (ro : VR G μ s.heap o ov) (hm : aAttr ix name o hp = some v)
  (h : ∀ w tk, VR G μ s.heap v w → Q w { s with toks := tk }) : wpAny G.M A (getAttr ov (Str.ofString name) true) Q E s := by
 have X : K.In s.heap := At.k.keeps H.base
 apply vrC H ro hm; intro r x ver a ob hr ha hob hor hm
 refine bO_some hm fun u hu hm => bG_some hm fun hh hm => ?_
 cases hm
 refine bE_some hu (fun hu => bO_some hu fun p e1 hu => bG_some hu fun hix hu => bO_some hu fun c hfs hu => bO_some hu fun fs e2 hu => ?_) fun hu => bO_some hu fun p e1 hu => bO_some hu fun i hix hu => ?_
 ·rw [AObj.of_inst? e1] at hor
  refine Mine.hold fun gL bk => ?_
  obtain ⟨_, _, rfl, hC, hdx⟩ := hor.of_inst
  obtain ⟨od, hod, hodr⟩ := H.obj _ _ _ hfs hdx
  rw [AObj.of_attrs? e2] at hodr
  obtain ⟨_, _, rfl, ar⟩ := hodr.of_attrs
  obtain ⟨w, hw, rw'⟩ := (ar.look (name := name)).1 _ hu
  have D := At.dict _ name _ hC hix
  obtain ⟨attr, a1, a2⟩ := D.ha
  refine bk ?_; clear bk gL
  have Ia : PySem.W.InstAt s.heap _ _ _ (some (dictOf _ _)) := ⟨hob, rfl, rfl, hod⟩
  exact get_value X Ia (plainGet_of D.hg).1 (findObj_own D.hh a1 a2 hw) (handedA_is rw' hh) (h w _ rw')
 ·rw [AObj.of_sinst? e1] at hor
  refine Mine.hold fun gL bk => ?_
  obtain ⟨_, _, _, rfl, hC, hdx, sr⟩ := hor.of_sinst
  obtain ⟨od, hod⟩ := H.ex (List.mem_of_getElem? hdx)
  obtain ⟨w, hw, rw'⟩ := sr.get hu
  have S := At.slot _ name _ i hC (Option.join_eq_some_iff.mp hix)
  obtain ⟨p, p1, p2, p3, p4, _, _⟩ := S.at_
  refine bk ?_; clear bk gL
  have Ia : PySem.W.InstAt s.heap _ _ _ (some od) := ⟨hob, rfl, rfl, hod⟩
  exact get_bind X Ia (plainGet_of S.hg).1 (findObj_data S.hc p1 p2 p3) (plainGet_of S.hg).2 (wpAny_call (slot_get (s := { s with toks := s.toks + 1 }) X Ia p4 (by simpa using hw) (handed_on (handedA_is rw' hh) (h w _ rw'))))
noncomputable def bAttr (ix : String → String → Option (Option Nat)) (name : String) (m : AM AV) : AM AV := do
 let o ← m
 see (aAttr ix name o)
theorem sim_attr {K : Frag} {ix : String → String → Option (Option Nat)} {name : String} {m : AM AV} {e : Expr} {pos : Pos} (At : Attrs G K ix) (S : SimE G sc hd d m e)
  (he : autoParam (∀ env : Env, eval (.Attribute e (Str.ofString name) pos) env = (do let o ← eval e env; standAt pos.atName; let r ← holding [o] (getAttr o (Str.ofString name) true); letTemporaryGo e o r; pure r)) aR) :
  SimE G sc hd d (bAttr ix name m) (.Attribute e (Str.ofString name) pos) := by
 intro A fr env own μ st s z st' hA I hm Q E h
 refine Attribute_any_ (sim_bind2 S hA I hm fun o st₁ ov s₁ μ₁ hm₁ x₁ I₁ r₁ => ?_) (he env)
 obtain ⟨rfl, hv⟩ := see_some hm₁
 exact attr_is At I₁.h r₁ hv fun w tk rw' => h _ _ _ (I.trans x₁ (Ext.tok tk)) (I₁.tok tk) rw'
noncomputable def aSetAttr (ix : String → String → Option (Option Nat)) (name : String) (o v : AV) : AHM Unit := fun hp =>
 bC hp o fun r x k => bE (bO x.inst? fun p => bG (ix p.1 name = some none) (bO hp[p.2]? fun c => bO c.1.attrs? fun fs => bG (fs.length < 900) (some ((), hp.set p.2 (.attrs (put name v fs), c.2 + 1))))) (bO x.sinst? fun p => bO (ix p.1 name).join fun i => some ((), hp.set r (.sinst p.1 p.2.1 (sput p.2.2 i v), k + 1)))
theorem put_length {name : String} {v : AV} : ∀ xs : List (String × AV), (put name v xs).length ≤ xs.length + 1
 | [] => Nat.le_refl _
 | (k, x) :: r => by
  rw [put_cons]
  split
  ·simp
  ·have := put_length (name := name) (v := v) r
   simp only [List.length_cons]; omega
theorem setAttr_is {fr : List Env} {env : Env} {own μ : List Addr} {st : AS} {s : Shared} {A : Around} {K : Frag} {ix : String → String → Option (Option Nat)} {name : String} {o v : AV} {ov vv : Value} {hp' : AH} {Q : Unit → Shared → Prop} {E : Value → Shared → Prop} (At : Attrs G K ix) (I : Inv G sc fr env own μ st s) (ro : VR G μ s.heap o ov) (rv : VR G μ s.heap v vv)
  (hm : aSetAttr ix name o v st.hp = some ((), hp')) (h : ∀ s', XT own fr μ st s μ { st with hp := hp' } s' → Inv G sc fr env own μ { st with hp := hp' } s' → Q () s') : wpAny G.M A (setAttr ov (Str.ofString name) vv) Q E s := by
 have H := I.h
 have X : K.In s.heap := At.k.keeps H.base
 refine Mine.hold fun gL bk => ?_
 obtain ⟨m, hns, hmm⟩ := I.e.loc
 refine bk ?_; clear bk gL
 have notL : ∀ {a : Addr}, a ∈ μ → a ≠ env.locals := fun hm q => (I.e.ownp _ I.e.lown).1 (q ▸ hm)
 apply vrC H ro hm; intro r x ver a ob hr ha hob hor hm
 refine bE_some hm (fun hu => bO_some hu fun p e1 hu => bG_some hu fun hix hu => bO_some hu fun c hfs hu => bO_some hu fun fs e2 hu => bG_some hu fun hz hu => ?_) fun hu => bO_some hu fun p e1 hu => bO_some hu fun i hix hu => ?_
 ·cases hu
  rw [AObj.of_inst? e1] at hor
  refine Mine.hold fun gL bk => ?_
  obtain ⟨C, dx, rfl, hC, hdx⟩ := hor.of_inst
  obtain ⟨od, hod, hodr⟩ := H.obj _ _ _ hfs hdx
  rw [AObj.of_attrs? e2] at hodr
  obtain ⟨es, n, rfl, ar⟩ := hodr.of_attrs
  refine bk ?_; clear bk gL
  have D := At.dict _ name _ hC hix
  have Ia : PySem.W.InstAt s.heap _ _ _ (some (dictOf es n)) := ⟨hob, rfl, rfl, hod⟩
  have hl : (lookIn (Str.ofString name) (dictOf es n)).isSome = true := by
   rw [lookIn_dict]
   cases e1 : fs.lookup name with
   | none => rw [(ar.look (name := name)).2 e1]; rfl
   | some x => obtain ⟨w, hw, _⟩ := (ar.look (name := name)).1 x e1; rw [hw]; rfl
  have hxL := notL (List.mem_of_getElem? hdx)
  have ar' := ar.put (name := name) (t := s.toks + 1) rv
  refine set_plain X Ia D.hs (osa_dict (s := { s with toks := s.toks + 1 }) (all_fr hns) (all_news hod hxL) X Ia rfl D.hp D.ht D.hh hl pre_ne post_ne (putName_dict _ _ _ _ _ _) rfl (by
   have := put_length (name := name) (v := v) fs
   rw [← ar'.length]; omega) fun h' F' N' => ?_)
  obtain ⟨x', I'⟩ := bridge_put (tk := s.toks + 1 + 1) (x := .attrs (put name v fs)) (c := c) I hfs hdx hmm F'.ns (fun b o hb1 hb2 e => all_back N' hb1 hb2 e) (all_at N') fun still => .attrs (ar'.mono (fun zz zz e => e) still)
  exact h _ x' I'
 ·cases hu
  rw [AObj.of_sinst? e1] at hor hr
  refine Mine.hold fun gL bk => ?_
  obtain ⟨_, _, _, rfl, hC, hdx, sr⟩ := hor.of_sinst
  obtain ⟨od, hod⟩ := H.ex (List.mem_of_getElem? hdx)
  have S := At.slot _ name _ i hC (Option.join_eq_some_iff.mp hix)
  obtain ⟨q, p1, p2, p3, p4, p5, p6⟩ := S.at_
  refine bk ?_; clear bk gL
  have Ia : PySem.W.InstAt s.heap _ _ _ (some od) := ⟨hob, rfl, rfl, hod⟩
  have hxL := notL (List.mem_of_getElem? ha)
  refine set_plain X Ia S.hs (osa_descr (s := { s with toks := s.toks + 1 }) KF.slot_mset X Ia S.hp p5 p6 (slot_set (s := { s with toks := s.toks + 1 }) (all_fr hns) (all_news hob hxL) X Ia p4 S.hz pre_ne post_ne rfl rfl fun h' F' N' => ?_))
  obtain ⟨x', I'⟩ := bridge_put (tk := s.toks + 1) (x := .sinst p.1 p.2.1 (sput p.2.2 i v)) (c := (.sinst p.1 p.2.1 p.2.2, ver)) I hr ha hmm F'.ns (fun b o hb1 hb2 e => all_back N' hb1 hb2 e) (all_at N') fun still => by
   have := OR.sinst hC hdx ((sr.sput rv i).mono (fun zz zz e => e) still)
   rw [Array.toArray_toList] at this
   exact this
  exact h _ x' I'
noncomputable def bSetAttr (ix : String → String → Option (Option Nat)) (name : String) (mo mv : AM AV) : AM AFlow := do
 let v ← mv
 let o ← mo
 lift (aSetAttr ix name o v)
 pure .next
theorem sims_setAttr {K : Frag} {ix : String → String → Option (Option Nat)} {name : String} {mo mv : AM AV} {o value : Expr} {p pos : Pos} (At : Attrs G K ix) (Sv : SimE G sc hd d mv value) (So : SimE G sc hd d mo o) (hs : autoParam (∀ env : Env, swapsWith value (some (.Attribute o (Str.ofString name) p)) pos.line env = pure false) aR) :
  Sim1 G sc hd d (bSetAttr ix name mo mv) (.Assign [.Attribute o (Str.ofString name) p] value pos) := by
 intro A outer env own μ st s fl st' hA hf I hm Q E h hE
 show wpAny _ _ (exec _ env) _ _ _
 rw [plainObj_exec_Assign_Attribute _ _ _ _ _ (hs env)]
 refine wpAny_bind (wpAny_standAt (wpAny_bind (sim_bind2 Sv hA I hm fun v st₁ vv s₁ μ₁ hm₁ x₁ I₁ r₁ => wpAny_bind (kas_attr (sim_bind2 So hA I₁ hm₁ fun o st₂ ov s₂ μ₂ hm₂ x₂ I₂ r₂ => ?_)))))
 refine Mine.hold fun gL bk => ?_
 obtain ⟨u, st₄, h1, h2⟩ := am_bind_some hm₂
 cases h2
 obtain ⟨hp', h3, rfl⟩ := lift_some h1
 refine bk ?_; clear bk gL
 refine setAttr_is At I₂ r₂ (I₁.vr x₂ r₁) h3 fun s' x' I' => wpAny_pure (h _ _ _ (I.trans x₁ (I₁.trans x₂ x')) I' .next)
noncomputable def addsZ (o : BOp) (old v : AV) : AM AV := lift fun hp => bI old fun a => bI v fun b => aBin o (.int a) (.int b) hp
noncomputable def bAugAttr (ix : String → String → Option (Option Nat)) (name : String) (o : BOp) (mo mv : AM AV) : AM AFlow := do
 let ov ← mo
 let old ← see (aAttr ix name ov)
 let v ← mv
 let new ← addsZ o old v
 lift (aSetAttr ix name ov new)
 pure .next
end
section
variable {G : Glob} {sc : SC} {hd : Bool} {d : Nat}
noncomputable def AugOk : BOp → Prop
 | .add => True
 | .sub => True
 | _ => False
theorem aug_int {A : Around} {E : Value → Shared → Prop} {s : Shared} {o : BOp} {a b : Int} {t u : Tok} {Q : Value → Shared → Prop} {hp hp' : AH} {v : AV} (ho : AugOk o) (h : aBin o (.int a) (.int b) hp = some (v, hp')) (k : ∀ c, v = .int c → hp' = hp → Q (.int c s.toks) { s with toks := s.toks + 1 }) :
  wpAny G.M A (inplaceOp o.op (.int a t) (.int b u)) Q E s := by
 cases o with
 | add => cases h; exact P.iadd_int (k _ rfl rfl)
 | sub => cases h; exact P.isub_int (k _ rfl rfl)
 | _ => exact ho.elim
theorem sims_augAttr {K : Frag} {ix : String → String → Option (Option Nat)} {name : String} {o : BOp} {op : Operator} {mo mv : AM AV} {oe value : Expr} {p pos : Pos} (At : Attrs G K ix) (ho : AugOk o) (So : SimE G sc hd d mo oe) (Sv : SimE G sc hd d mv value) (hop : autoParam (op = o.op) aR) :
  Sim1 G sc hd d (bAugAttr ix name o mo mv) (.AugAssign (.Attribute oe (Str.ofString name) p) op value pos) := by
 subst hop
 intro A outer env own μ st s fl st' hA hf I hm Q E h hE
 refine wpAny_AugAssign_AttributeAny (sim_bind2 So hA I hm fun ov st₁ ow s₁ μ₁ hm₁ x₁ I₁ r₁ => ?_)
 obtain ⟨old, st₁', h1, hm₂⟩ := am_bind_some hm₁
 obtain ⟨rfl, hv⟩ := see_some h1
 refine attr_is At I₁.h r₁ hv fun w tk rw' => ?_
 have I₁' := I₁.tok tk
 refine sim_bind2 Sv hA I₁' hm₂ fun v st₂ vw s₂ μ₂ hm₃ x₂ I₂ r₂ => ?_
 obtain ⟨new, st₃, h3, hm₄⟩ := am_bind_some hm₃
 obtain ⟨u, st₄, h4, h5⟩ := am_bind_some hm₄
 cases h5
 have r₁' := I₁'.vr x₂ r₁
 have rold := I₁'.vr x₂ rw'
 have X := I.trans x₁ (Ext.trans I₁.h.len (Ext.tok tk) x₂)
 obtain ⟨hp', h6, rfl⟩ := lift_some h3
 apply vrI rold h6; intro a t h6
 apply vrI r₂ h6; intro b u h6
 ·
  refine aug_int ho h6 fun c e1 e2 => ?_
  subst e1 e2
  obtain ⟨hp'', h7, rfl⟩ := lift_some h4
  refine setAttr_is At (I₂.tok _) r₁' (.int _ _) h7 fun s' x' I' => h _ _ _ (I.trans X (Ext.trans I₂.h.len (Ext.tok _) x')) I' .next
structure FnOk (scope : Scope) : Prop where
 kind : scope.kind = .function
 nodup : (scope.names.map (·.1)).Nodup
 nofree : ∀ x ∈ scope.names, x.2 ≠ .free
 co : scope.isCoroutine = false
 gen : scope.isGenerator = false
noncomputable def fnOkB (scope : Scope) : Bool := scope.kind == .function && nodupB (scope.names.map (·.1)) && scope.names.all (fun x => x.2 != .free) && !scope.isCoroutine && !scope.isGenerator
theorem fnOk_of {scope : Scope} (h : fnOkB scope = true) : FnOk scope := by
 simp only [fnOkB, Bool.and_eq_true, Bool.not_eq_true', List.all_eq_true] at h
 obtain ⟨⟨⟨⟨h1, h2⟩, h3⟩, h4⟩, h5⟩ := h
 exact ⟨by simpa using h1, nodupB_is h2, fun x hx => by simpa using h3 x hx, h4, h5⟩
noncomputable def fnSC (scope : Scope) : SC := ⟨scope, (scope.names.filter (·.2 == NameKind.cell)).map (·.1)⟩
inductive BR (G : Glob) (μ : List Addr) (h : Heap) : List (String × AV) → List (PySem.Str × Value) → Prop
 | nil : BR G μ h [] []
 | cons {n : String} {x : AV} {v : Value} {xs : List (String × AV)} {vs : List (PySem.Str × Value)} : VR G μ h x v → BR G μ h xs vs → BR G μ h ((n, x) :: xs) ((Str.ofString n, v) :: vs)
theorem BR.mono {μ μ' : List Addr} {h h' : Heap} (hμ : ∀ (n : Nat) (a : Addr), μ[n]? = some a → μ'[n]? = some a) (hk : Still μ μ' h h') {xs : List (String × AV)} {vs : List (PySem.Str × Value)} (k : BR G μ h xs vs) : BR G μ' h' xs vs := by
 induction k with
 | nil => exact .nil
 | cons h1 _ ih => exact .cons (h1.mono hμ hk) ih
theorem BR.keys {μ : List Addr} {h : Heap} {xs : List (String × AV)} {vs : List (PySem.Str × Value)} (k : BR G μ h xs vs) : vs.map (·.1) = xs.map fun x => Str.ofString x.1 := by
 induction k with
 | nil => rfl
 | cons _ _ ih => exact congrArg (_ :: ·) ih
theorem bindL_off {k : PySem.Str → Option NameKind} {y : PySem.Str} : ∀ {l : List (PySem.Str × Value)} {m : PySem.Str → Option Value}, y ∉ l.map (·.1) → bindL k l m y = m y
 | [], _, _ => rfl
 | (n, v) :: r, m, h => by
  rw [List.map_cons, List.mem_cons, not_or] at h
  unfold bindL
  rw [bindL_off h.2]
  split
  ·simp [h.1]
  ·rfl
theorem bindC_off {k : PySem.Str → Option NameKind} {y : PySem.Str} : ∀ {l : List (PySem.Str × Value)} {m : PySem.Str → Option Value}, y ∉ l.map (·.1) → bindC k l m y = m y
 | [], _, _ => rfl
 | (n, v) :: r, m, h => by
  rw [List.map_cons, List.mem_cons, not_or] at h
  unfold bindC
  rw [bindC_off h.2]
  split
  ·rfl
  ·simp [h.1]
theorem BR.look {μ : List Addr} {h : Heap} {k : PySem.Str → Option NameKind} {y : String} {u : AV} {xs : List (String × AV)} {vs : List (PySem.Str × Value)} (b : BR G μ h xs vs) : (xs.map (·.1)).Nodup → xs.lookup y = some u → ∀ m,
   (k (Str.ofString y) = some .local → ∃ w, bindL k vs m (Str.ofString y) = some w ∧ VR G μ h u w) ∧ (k (Str.ofString y) ≠ some .local → ∃ w, bindC k vs m (Str.ofString y) = some w ∧ VR G μ h u w) := by
 induction b with
 | nil => intro _ e; cases e
 | @cons n x v xs vs h1 h2 ih =>
  intro hn e m
  rw [List.map_cons, List.nodup_cons] at hn
  by_cases hy : y = n
  ·subst hy
   simp at e; subst e
   have off : Str.ofString y ∉ vs.map (·.1) := by
    rw [h2.keys]
    intro hm
    obtain ⟨z, hz, e⟩ := List.mem_map.mp hm
    exact hn.1 (List.mem_map.mpr ⟨z, hz, ofString_inj e⟩)
   refine ⟨fun hk => ?_, fun hk => ?_⟩
   ·unfold bindL
    rw [bindL_off off, if_pos hk]
    exact ⟨v, by simp, h1⟩
   ·unfold bindC
    rw [bindC_off off, if_neg hk]
    exact ⟨v, by simp, h1⟩
  ·have hb : (y == n) = false := by simp [hy]
   rw [List.lookup_cons, hb] at e
   unfold bindL bindC
   exact ⟨fun hk => (ih hn.2 e _).1 hk, fun hk => (ih hn.2 e _).2 hk⟩
noncomputable def BindsTo (G : Glob) (fd : FuncData) (f : List AV → Option (List (String × AV))) : Prop :=
 ∀ (A : Around) (fr : List Env) (μ : List Addr) (hp : AH) (s : Shared) (args : List AV) (vs : List Value) (bs : List (String × AV)), HInv G fr μ hp s → VRs G μ s.heap args vs → f args = some bs → ∀ (Q : List (PySem.Str × Value) → Shared → Prop) (E : Value → Shared → Prop),
  (∀ binds s', Ext [] fr μ hp s μ hp s' → HInv G fr μ hp s' → BR G μ s'.heap bs binds → Q binds s') → wpAny G.M A (bindArgs fd ⟨vs, []⟩) Q E s
structure DefAt (G : Glob) (a : Addr) (fd : FuncData) (body : List Stmt) : Prop where
 obj : ∃ o, G.h₀.get? a = some o ∧ o.data = .func fd
 code : G.h₀.CodeRec fd.code fd.qualname
 body : fd.body = .stmts body
 glob : fd.globals = mainGlobals
 bui : fd.builtins = builtinsNs
 clo : fd.closure = []
 ok : FnOk fd.scope
noncomputable def fnEnv (fd : FuncData) (L a : Addr) : Env := newEnv fd.scope L fd.globals (cellsFrom (L + 1) fd.scope.names []) (fd.qualname ++ ".<locals>.") (some a) fd.code none fd.builtins
noncomputable def fnOwn (fd : FuncData) (L : Addr) : List Addr := L :: (cellsFrom (L + 1) fd.scope.names []).map (·.2)
theorem fnOwn_fresh {fd : FuncData} {h : Heap} {a : Addr} (ha : a ∈ fnOwn fd h.objs.size) : h.get? a = none := by
 have ok := cellsFrom_ok fd.scope.names (h.push { cls := .type "frame", data := .dict #[] }) (h.objs.size + 1) [] ⟨fun zz zz hm => (nomatch hm), List.Pairwise.nil⟩ (by rw [Heap.size_push]; exact Nat.le_refl _)
 rw [Heap.size_push] at ok
 rcases List.mem_cons.mp ha with q | q
 ·subst q; exact Heap.get?_none_of_le (Nat.le_refl _)
 ·obtain ⟨⟨n, c⟩, hc, rfl⟩ := List.mem_map.mp q
  exact Heap.get?_none_of_le (Nat.le_of_succ_le (ok.empty n c hc).2)
theorem cellsFrom_keys : ∀ {names : List (PySem.Str × NameKind)} {n : Nat} {y : PySem.Str}, y ∈ (cellsFrom n names []).map (·.1) → y ∈ names.map (·.1)
 | names, n, y, h => by
  obtain ⟨⟨z, c⟩, hz, rfl⟩ := List.mem_map.mp h
  exact List.mem_map.mpr ⟨_, cellsFrom_name hz, rfl⟩
theorem cellsFrom_nodup : ∀ {names : List (PySem.Str × NameKind)} {n : Nat}, (names.map (·.1)).Nodup → ((cellsFrom n names []).map (·.1)).Nodup
 | [], n, _ => List.nodup_nil
 | (x, k) :: r, n, h => by
  rw [List.map_cons, List.nodup_cons] at h
  unfold cellsFrom
  split
  ·rw [cellsFrom_app, List.map_append, List.nodup_append]
   refine ⟨cellsFrom_nodup h.2, by simp, fun y hy z hz e => ?_⟩
   simp at hz; subst hz; subst e
   exact h.1 (cellsFrom_keys hy)
  ·exact cellsFrom_nodup h.2
theorem enter_fn {fd : FuncData} {a : Addr} {body : List Stmt} {fr : List Env} {μ : List Addr} {hp : AH} {s s₁ : Shared} {bs : List (String × AV)} {binds : List (PySem.Str × Value)} (D : DefAt G a fd body) (H : HInv G fr μ hp s) (B : BR G μ s.heap bs binds) (hn : (bs.map (·.1)).Nodup)
  (hk : ∀ x ∈ bs, fd.scope.names.lookup (Str.ofString x.1) = some .local ∨ fd.scope.names.lookup (Str.ofString x.1) = some .cell)
  (x : InCallC s (fnEnv fd s.heap.objs.size a).locals (bindL (fnEnv fd s.heap.objs.size a).kindOf binds fun zz => none) (fnEnv fd s.heap.objs.size a).cells (bindC (fnEnv fd s.heap.objs.size a).kindOf binds fun zz => none) s₁) :
  Inv G (fnSC fd.scope) (fnEnv fd s.heap.objs.size a :: fr) (fnEnv fd s.heap.objs.size a) (fnOwn fd s.heap.objs.size) μ ⟨bs, hp⟩ s₁ ∧ Ext [] fr μ hp s μ hp s₁ := by
 obtain ⟨h₁, tk, rfl⟩ := x.toInCall.same
 have g := H.grow (h' := h₁) (tk := tk) x.toInCall.keep
 have fresh : ∀ {b : Addr}, b ∈ fnOwn fd s.heap.objs.size → Fresh G μ s b := fun hb => H.fresh (fnOwn_fresh hb)
 have hL : s.heap.objs.size ∈ fnOwn fd s.heap.objs.size := List.mem_cons_self
 obtain ⟨oL, es, ep, ho, hdd, _⟩ := id x.toInCall.ns
 have keys := cellsFrom_nodup (n := s.heap.objs.size + 1) D.ok.nodup
 have cellAt : ∀ {y : PySem.Str} {c : Addr}, (y, c) ∈ cellsFrom (s.heap.objs.size + 1) fd.scope.names [] → h₁.IsCell c (bindC (fnEnv fd s.heap.objs.size a).kindOf binds (fun zz => none) y) := fun {y c} hm => x.cell y c (lookup_uniq keys hm)
 have still : Still μ μ s.heap h₁ := Still.of_keeps x.toInCall.keep
 have hkind : ∀ y, (fnEnv fd s.heap.objs.size a).kindOf y = fd.scope.names.lookup y := fun y => rfl
 refine ⟨⟨⟨g.1.base, g.1.len, g.1.nod, g.1.obj, g.1.low, fun e he => ?_⟩, ⟨⟨rfl, D.ok.kind, D.glob, D.bui, x.apart, fun y k hy hkk => ?_⟩, fun b hb => ?_, hL, ⟨_, x.toInCall.ns, fun y u hy hkk => ?_⟩, fun y u hy => ?_, fun y c hy => ?_, fun y hy => ?_, fun y c hy hw => ?_⟩⟩, g.2⟩
 ·rcases List.mem_cons.mp he with q | q
  ·subst q
   exact ⟨D.ok.kind, s.heap.objs.size, oL, rfl, ho, ⟨_, _, hdd⟩, (fresh hL).μ, (fresh hL).low⟩
  ·exact g.1.frs e q
 ·rcases hkk with rfl | rfl
  ·obtain ⟨c, hc⟩ := cellsFrom_has (n := s.heap.objs.size + 1) (mem_of_lookup hy)
   exact ⟨c, lookup_uniq keys hc⟩
  ·exact absurd rfl (D.ok.nofree _ (mem_of_lookup hy))
 ·refine ⟨(fresh hb).μ, (fresh hb).low, ?_⟩
  rcases List.mem_cons.mp hb with q | q
  ·subst q; exact ⟨oL, ho, .inl ⟨_, _, hdd⟩⟩
  ·obtain ⟨⟨n, c⟩, hc, rfl⟩ := List.mem_map.mp q
   obtain ⟨o, ho', hd'⟩ := cellAt hc
   exact ⟨o, ho', .inr (.inl ⟨_, hd'⟩)⟩
 ·obtain ⟨w, h1, h2⟩ := (B.look (k := (fnEnv fd s.heap.objs.size a).kindOf) hn hy fun zz => none).1 hkk
  exact ⟨w, h1, h2.mono (fun zz zz e => e) still⟩
 ·have hmem : ∃ z ∈ bs, z.1 = y := by
   clear hkind
   induction bs with
   | nil => cases hy
   | cons z r ih =>
    obtain ⟨n, v⟩ := z
    by_cases q : y = n
    ·exact ⟨_, List.mem_cons_self, q.symm⟩
    ·have hb : (y == n) = false := by simp [q]
     rw [List.lookup_cons, hb] at hy
     cases B with | cons b1 b2 =>
     rw [List.map_cons, List.nodup_cons] at hn
     refine (?_ : ∃ z ∈ r, z.1 = y).elim fun z hz => ⟨z, List.mem_cons_of_mem _ hz.1, hz.2⟩
     clear ih
     exact (by
      have go : ∀ r : List (String × AV), r.lookup y = some u → ∃ z ∈ r, z.1 = y := by
       intro r
       induction r with
       | nil => intro e; cases e
       | cons z r ih =>
        intro e
        by_cases q : y = z.1
        ·exact ⟨z, List.mem_cons_self, q.symm⟩
        ·have hb : (y == z.1) = false := by simp [q]
         rw [List.lookup_cons, hb] at e
         obtain ⟨z', h1, h2⟩ := ih e
         exact ⟨z', List.mem_cons_of_mem _ h1, h2⟩
      exact go r hy)
  obtain ⟨z, hz, rfl⟩ := hmem
  rcases hk z hz with q | q
  ·exact .inl q
  ·have hnl : (fnEnv fd s.heap.objs.size a).kindOf (Str.ofString z.1) ≠ some .local := by rw [hkind, q]; decide
   obtain ⟨w, h1, h2⟩ := (B.look (k := (fnEnv fd s.heap.objs.size a).kindOf) hn hy fun zz => none).2 hnl
   obtain ⟨c, hc⟩ := cellsFrom_has (n := s.heap.objs.size + 1) (mem_of_lookup q)
   have := cellAt hc
   rw [h1] at this
   exact .inr ⟨.inl q, c, w, lookup_uniq keys hc, this, h2.mono (fun zz zz e => e) still⟩
 ·have hm := mem_of_lookup hy
  have ho := List.mem_cons_of_mem s.heap.objs.size (List.mem_map.mpr ⟨_, hm, rfl⟩ : c ∈ (cellsFrom (s.heap.objs.size + 1) fd.scope.names []).map (·.2))
  exact ⟨⟨_, cellAt hm⟩, (fresh ho).μ, Nat.ne_of_gt (x.above y c hm)⟩
 ·obtain ⟨⟨y', k⟩, hy', e⟩ := List.mem_map.mp hy
  obtain ⟨hy1, hy2⟩ := List.mem_filter.mp hy'
  simp at hy2 e
  subst e; rw [hy2] at hy1
  obtain ⟨c, hc⟩ := cellsFrom_has (n := s.heap.objs.size + 1) hy1
  exact ⟨c, lookup_uniq keys hc, List.mem_cons_of_mem _ (List.mem_map.mpr ⟨_, hc, rfl⟩)⟩
 ·exact absurd (List.mem_map.mpr ⟨(y, NameKind.cell), List.mem_filter.mpr ⟨cellsFrom_name (mem_of_lookup hy), by rfl⟩, rfl⟩) hw
theorem leave_fn {fr : List Env} {e : Env} {own μ μ' : List Addr} {hp hp' : AH} {s s₁ s' : Shared} {L : Addr} (he : e.frame = some L) (hL : s.heap.get? L = none) (hown : ∀ b ∈ own, s.heap.get? b = none) (H : HInv G fr μ hp s) (x₀ : Ext [] fr μ hp s μ hp s₁) (x : Ext own (e :: fr) μ hp s₁ μ' hp' s') (H' : HInv G (e :: fr) μ' hp' s') :
  Ext [] fr μ hp s μ' hp' s' ∧ HInv G fr μ' hp' s' := by
 refine ⟨⟨?_, ?_, fun b o h => ?_, fun b o h hm zz => ?_, fun n c hc => ?_⟩, ⟨H'.base, H'.len, H'.nod, H'.obj, H'.low, fun e' he' => H'.frs e' (List.mem_cons_of_mem _ he')⟩⟩
 ·obtain ⟨ν, rfl, hν⟩ := x.pre
  refine ⟨ν, rfl, fun a ha => ?_⟩
  cases e : s.heap.get? a with
  | none => rfl
  | some o => obtain ⟨o', h'⟩ := x₀.alive a o e; have := hν a ha; rw [h'] at this; cases this
 ·obtain ⟨h1, t1, e1⟩ := x₀.same
  obtain ⟨h2, t2, e2⟩ := x.same
  exact ⟨h2, t2, by rw [e2, e1]⟩
 ·obtain ⟨o', h'⟩ := x₀.alive b o h
  exact x.alive b o' h'
 ·obtain ⟨sl, h1, h2⟩ := x₀.keep b o h hm (by simp)
  obtain ⟨sl', h3, h4⟩ := x.keep b _ h1 hm fun q => by rw [hown b q] at h; cases h
  refine ⟨sl', h3, fun hf => (h4 fun q => ?_).trans (h2 hf)⟩
  have q : b ∈ List.filterMap (·.frame) (e :: fr) := q
  rw [List.filterMap_cons, he] at q
  rcases List.mem_cons.mp q with q | q
  ·subst q; rw [hL] at h; cases h
  ·exact hf q
 ·obtain ⟨c₁, h1, l1, e1⟩ := x₀.vers n c hc
  obtain ⟨c₂, h2, l2, e2⟩ := x.vers n c₁ h1
  refine ⟨c₂, h2, Nat.le_trans l1 l2, fun e => ?_⟩
  have q1 : c.2 = c₁.2 := by omega
  have q2 : c₁.2 = c₂.2 := by omega
  obtain ⟨r1, k1⟩ := e1 q1
  obtain ⟨r2, k2⟩ := e2 q2
  exact ⟨r2.trans r1, fun a ha => (k2 a (x₀.mu ha)).trans (k1 a ha)⟩
noncomputable def retV (x : AFlow) (h : AH) : Option (AV × AH) := x.casesOn (some (.none, h)) none none (fun v => some (v, h)) fun zz => none
noncomputable def retX (x : AFlow) (h : AH) : Option (Except String AV × AH) := x.casesOn (some (.ok .none, h)) none none (fun v => some (.ok v, h)) fun k => some (.error k, h)
noncomputable def aDef (f : List AV → Option (List (String × AV))) (body : AM AFlow) : List AV → AHM AV := fun args hp => bO (f args) fun bs => bO (body ⟨bs, hp⟩) fun q => retV q.1 q.2.hp
noncomputable def aDefX (f : List AV → Option (List (String × AV))) (body : AM AFlow) : List AV → AHM (Except String AV) := fun args hp => bO (f args) fun bs => bO (body ⟨bs, hp⟩) fun q => retX q.1 q.2.hp
noncomputable def SimCallX (G : Glob) (hd : Bool) (d : Nat) (w : Value) (m : List AV → AHM (Except String AV)) : Prop :=
 ∀ (args : List AV) (A : Around) (fr : List Env) (μ : List Addr) (hp : AH) (s : Shared) (r : Except String AV) (hp' : AH) (vs : List Value), AOk A fr hd d → HInv G fr μ hp s → VRs G μ s.heap args vs → m args hp = some (r, hp') →
  ∀ (Q : Value → Shared → Prop) (E : Value → Shared → Prop), (∀ v b s' μ', r = .ok v → Ext [] fr μ hp s μ' hp' s' → HInv G fr μ' hp' s' → VR G μ' s'.heap v b → Q b s') →
   (∀ e k s' μ' sf, r = .error k → Ext [] fr μ hp s μ' hp' s' → HInv G fr μ' hp' s' → Fly G μ' s.heap e (excCls G k) s'.heap sf → (sf = .new ∨ sf = .out .none) → E (.ref e) s') → wpAny G.M A (call w vs) Q E s
theorem deeper_ok {A : Around} {fr : List Env} {e : Env} (hA : AOk A fr hd (d + 1)) : AOk (A.deeper e) (e :: fr) hd d where
 frames := by show A.frames.map _ = _; rw [hA.frames]; rfl
 depth := by have := hA.depth; show A.depth + 1 + 3 * d + 3 < _; omega
 units := by have := hA.units; show A.units + 3 + 40 * d + 100 < _; omega
 hnd := hA.hnd
noncomputable def SimCodeX (G : Glob) (hd : Bool) (d : Nat) (w : Value) (m : List AV → AHM (Except String AV)) : Prop :=
 ∀ (args : List AV) (A : Around) (fr : List Env) (μ : List Addr) (hp : AH) (s : Shared) (r : Except String AV) (hp' : AH) (vs : List Value), AOk A fr hd d → HInv G fr μ hp s → VRs G μ s.heap args vs → m args hp = some (r, hp') →
  ∀ (R : Result → Shared → Prop), (∀ v b s' μ', r = .ok v → Ext [] fr μ hp s μ' hp' s' → HInv G fr μ' hp' s' → VR G μ' s'.heap v b → R (.ok (.ret b)) s') →
   (∀ e k s' μ' sf, r = .error k → Ext [] fr μ hp s μ' hp' s' → HInv G fr μ' hp' s' → Fly G μ' s.heap e (excCls G k) s'.heap sf → (sf = .new ∨ sf = .out .none) → R (.error (.ref e)) s') → codeAny G.M A (.call w ⟨vs, []⟩) R s
theorem SimCodeX.toCall {w : Value} {m : List AV → AHM (Except String AV)} (S : SimCodeX G hd d w m) : SimCallX G hd d w m := by
 intro args A fr μ hp s r hp' vs hA H rs hm Q E hQ hE
 exact wpAny_call (S args A fr μ hp s r hp' vs hA H rs hm _ hQ hE)
theorem code_defX {a : Addr} {fd : FuncData} {b : List Stmt} {f : List AV → Option (List (String × AV))} {body : AM AFlow} (gk : GOk G) (D : DefAt G a fd b) (hb : BindsTo G fd f)
  (hf : ∀ args bs, f args = some bs → (bs.map (·.1)).Nodup ∧ ∀ x ∈ bs, fd.scope.names.lookup (Str.ofString x.1) = some .local ∨ fd.scope.names.lookup (Str.ofString x.1) = some .cell)
  (S : SimB G (fnSC fd.scope) hd d body b) : SimCodeX G hd (d + 1) (.ref a) (aDefX f body) := by
 intro args A fr μ hp s r hp' vs hA H rs hm R hQ hE
 refine bO_some hm fun bs hbs hm => bO_some hm fun q hbd hm => ?_
 ·obtain ⟨fl, st'⟩ := q
  obtain ⟨o, ho, hdat⟩ := D.obj
  obtain ⟨hn, hkk⟩ := hf _ _ hbs
  refine codeAny_call_function (by have := hA.depth; omega) (H.base _ _ ho) hdat D.ok.co D.ok.gen D.body (D.code.keeps H.base) ?_
  rw [D.clo]
  refine hb A.in1 fr μ hp s args vs bs H rs hbs _ _ fun binds s₁ x₁ H₁ B => ?_
  refine wpAny_newFunctionEnv_cells D.ok.kind (fun z hz => ?_) fun env he s₂ x => ?_
  ·obtain ⟨zn, zv⟩ := z
   have : ∃ y ∈ bs, Str.ofString y.1 = zn := by
    have h1 : zn ∈ binds.map (·.1) := List.mem_map.mpr ⟨_, hz, rfl⟩
    rw [B.keys] at h1
    exact List.mem_map.mp h1
   obtain ⟨y, hy, rfl⟩ := this
   rcases hkk y hy with q | q
   ·exact .inl q
   ·obtain ⟨c, hc⟩ := cellsFrom_has (n := s₁.heap.objs.size + 1) (mem_of_lookup q)
    obtain ⟨c', hc'⟩ := lookup_of_mem hc
    exact .inr ⟨q, by rw [hc']; rfl⟩
  ·subst he
   obtain ⟨I, x₂⟩ := enter_fn D H₁ B hn hkk x
   refine ⟨gk.nolimit.keeps I.h.base, codeAny_func ?_⟩
   have hA' := deeper_ok (e := fnEnv fd s₁.heap.objs.size a) hA
   have hown : ∀ c ∈ fnOwn fd s₁.heap.objs.size, s₁.heap.get? c = none := fun c hc => fnOwn_fresh hc
   have hLn : s₁.heap.get? s₁.heap.objs.size = none := Heap.get?_none_of_le (Nat.le_refl _)
   have fin : ∀ {μ' : List Addr} {st' : AS} {s' : Shared}, XT (fnOwn fd s₁.heap.objs.size) (fnEnv fd s₁.heap.objs.size a :: fr) μ ⟨bs, hp⟩ s₂ μ' st' s' → HInv G (fnEnv fd s₁.heap.objs.size a :: fr) μ' st'.hp s' → Ext [] fr μ hp s μ' st'.hp s' ∧ HInv G fr μ' st'.hp s' := fun {μ' st' s'} x' H' => by
    obtain ⟨y, H''⟩ := leave_fn (e := fnEnv fd s₁.heap.objs.size a) rfl hLn hown H₁ x₂ x' H'
    exact ⟨Ext.trans H.len x₁ y, H''⟩
   ·
    refine S (A.deeper (fnEnv fd s₁.heap.objs.size a)) fr (fnEnv fd s₁.heap.objs.size a) _ μ ⟨bs, hp⟩ s₂ fl st' hA' rfl I hbd _ _ (fun f' s' μ' x' I' r' => ?_) fun e k s' μ' sf e1 x' I' F hs => ?_
    ·obtain ⟨y, H''⟩ := fin x' I'.h
     cases r' with
     | next => cases hm; exact hQ _ _ _ _ rfl y H'' .none
     | ret r' => cases hm; exact hQ _ _ _ _ rfl y H'' r'
     | brk => cases hm
     | cont => cases hm
    ·subst e1
     cases hm
     refine leave_step hA'.frames rfl I'.h I.h.base x'.alive F hs fun h' j F'' => ?_
     obtain ⟨y, H''⟩ := fin (s' := { s' with heap := h' }) (Ext.junk x' I'.h I'.e.ownK I.h.len j) (I'.h.junk I.h.base j)
     exact hE e k _ μ' _ rfl y H'' (F''.weaken fun b o e => by
      obtain ⟨o1, e1⟩ := x₁.alive b o e
      exact x₂.alive b o1 e1) (.inr rfl)
noncomputable def SimCode (G : Glob) (hd : Bool) (d : Nat) (w : Value) (m : List AV → AHM AV) : Prop :=
 ∀ (args : List AV) (A : Around) (fr : List Env) (μ : List Addr) (hp : AH) (s : Shared) (z : AV) (hp' : AH) (vs : List Value), AOk A fr hd d → HInv G fr μ hp s → VRs G μ s.heap args vs → m args hp = some (z, hp') →
  ∀ (R : Result → Shared → Prop), (∀ b s' μ', Ext [] fr μ hp s μ' hp' s' → HInv G fr μ' hp' s' → VR G μ' s'.heap z b → R (.ok (.ret b)) s') → codeAny G.M A (.call w ⟨vs, []⟩) R s
theorem SimCode.toCall {w : Value} {m : List AV → AHM AV} (S : SimCode G hd d w m) : SimCall G hd d w m := by
 rintro args A fr μ hp s z hp' tr hA H zI11 hm Q E h
 obtain ⟨vs, rs, rfl⟩ := zI11
 exact wpAny_call (S args A fr μ hp s z hp' vs hA H rs hm _ h)
theorem code_def {a : Addr} {fd : FuncData} {b : List Stmt} {f : List AV → Option (List (String × AV))} {body : AM AFlow} (gk : GOk G) (D : DefAt G a fd b) (hb : BindsTo G fd f)
  (hf : ∀ args bs, f args = some bs → (bs.map (·.1)).Nodup ∧ ∀ x ∈ bs, fd.scope.names.lookup (Str.ofString x.1) = some .local ∨ fd.scope.names.lookup (Str.ofString x.1) = some .cell)
  (S : SimB G (fnSC fd.scope) hd d body b) : SimCode G hd (d + 1) (.ref a) (aDef f body) := by
 intro args A fr μ hp s z hp' vs hA H rs hm R h
 have hm' : aDefX f body args hp = some (.ok z, hp') := by
  refine bO_some hm fun bs h1 hm => bO_some hm fun q h2 hm => ?_
  show bO (f args) _ = _
  rw [h1]
  show bO (body ⟨bs, hp⟩) _ = _
  rw [h2]
  obtain ⟨fl, st⟩ := q
  cases fl with
  | next => cases hm; rfl
  | ret v => cases hm; rfl
  | _ => cases hm
 refine code_defX gk D hb hf S args A fr μ hp s _ hp' vs hA H rs hm' R (fun v b s' μ' e x H r => ?_) fun e k s' μ' sf e1 => by cases e1
 cases e
 exact h _ _ _ x H r
theorem binds_plain {fd : FuncData} {ns : List String} (hb : ∀ vs : List Value, vs.length = ns.length → bindArgs fd ⟨vs, []⟩ = pure ((ns.map Str.ofString).zip vs)) : BindsTo G fd (fun args => if args.length = ns.length then some (ns.zip args) else none) := by
 intro A fr μ hp s args vs bs H rs hm Q E h
 dsimp only at hm
 split at hm
 ·rename_i hl
  cases hm
  rw [hb vs (by rw [← rs.length]; exact hl)]
  refine wpAny_pure (h _ _ Ext.refl H ?_)
  clear hb h
  induction ns generalizing args vs with
  | nil => exact .nil
  | cons n ns ih =>
   cases rs with
   | nil => cases hl
   | cons r rs => exact .cons r (ih _ _ rs (by simpa using hl))
 ·cases hm
end
section
variable {G : Glob} {sc : SC} {hd : Bool} {d : Nat}
noncomputable def KeepsAt (M : Model) (P : Heap → Prop) (f : Value) : Prop := ∀ h, P h → ∃ k, (k = Keeper.frame ∨ k = Keeper.machine ∨ k = Keeper.boundFrame) ∧ Looks M h (keeperOf f) k
noncomputable def SimArgsC (G : Glob) (sc : SC) (hd : Bool) (d : Nat) (m : AM (List AV)) (es : List Expr) : Prop :=
 ∀ (A : Around) (fr : List Env) (env : Env) (own μ : List Addr) (st : AS) (s : Shared) (vs : List AV) (st₁ : AS) (pos : Pos) (f : Value) (first : List Value) (P : Heap → Prop), AOk A fr hd d → Inv G sc fr env own μ st s → m st = some (vs, st₁) → KeepsAt G.M P f →
  ∀ (Q : Value → Shared → Prop) (E : Value → Shared → Prop), (∀ ws s₁ μ₁, XT own fr μ st s μ₁ st₁ s₁ → Inv G sc fr env own μ₁ st₁ s₁ → VRs G μ₁ s₁.heap vs ws → P s₁.heap ∧ wpAny G.M A (call f (first ++ ws)) Q E s₁) →
   wpAny G.M A (callWith pos f first (backTo pos (starEach es env)) []) Q E s
theorem SimArgs.toC {m : AM (List AV)} {es : List Expr} (S : SimArgs G sc hd d m es) : SimArgsC G sc hd d m es := by
 intro A fr env own μ st s vs st₁ pos f first P hA I hm hk Q E h
 exact callWith_of (by rw [S.less.plain]; rfl) hk (S.less.ev _ _ _ _ _ env pos f (S.sim pos A fr env own μ st s vs st₁ hA I hm _ _ fun ws s₁ μ₁ x₁ I₁ r₁ => h ws s₁ μ₁ x₁ I₁ r₁))
noncomputable def starOf (v : AV) (hp : AH) : Option (List AV) := bO (bE v.tup? (bL hp v fun zz xs zz => some xs)) fun xs => bG (xs.length ≤ 1000000) (some xs)
theorem star_is {A : Around} {fr : List Env} {env : Env} {own μ : List Addr} {st : AS} {s : Shared} {v : AV} {w : Value} {xs : List AV} {Q : List Value → Shared → Prop} {E : Value → Shared → Prop} (I : Inv G sc fr env own μ st s) (r : VR G μ s.heap v w) (hv : starOf v st.hp = some xs)
  (h : ∀ ws s', XT own fr μ st s μ st s' → Inv G sc fr env own μ st s' → VRs G μ s'.heap xs ws → Q ws s') : StarOf G.M A E w Q s := by
 have key : ∀ {T : String} {a : Addr} {o : Obj} {ws : List Value} {n : Nat}, T = "list" ∨ T = "tuple" → s.heap.get? a = some o → o.cls = .type T → o.data = .seq ws.toArray n → VRs G μ s.heap xs ws → xs.length ≤ 1000000 → StarOf G.M A E (.ref a) Q s := by
  intro T a o ws n hT ho hc hd k hl
  have hT' : s.TypeIs (.ref a) T := ⟨o, ho, hc⟩
  have z : wpAny G.M A (collect (.ref a)) Q E s := by
   refine wpAny_collect_seq a hT ho hc hd (fun h' hk => ?_) (by rw [List.size_toArray, ← k.length, sizeLine_eq]; omega)
   have g := I.h.grow (h' := h') (tk := s.toks) hk
   exact h _ _ g.2.weaken (I.heap g.2 g.1) (k.ext I.h (by intro a ha; cases ha) g.2)
  unfold StarOf notIterableAtAll
  rcases hT with rfl | rfl
  ·exact wpAny_bind (wpAny_specialOf hT' PySem.F.slot_list_iter.lookup (wpAny_pure ⟨rfl, z⟩))
  ·exact wpAny_bind (wpAny_specialOf hT' PySem.F.slot_tuple_iter.lookup (wpAny_pure ⟨rfl, z⟩))
 refine bO_some hv fun ys e hv => bG_some hv fun hl hv => ?_
 cases hv
 refine bE_some e (fun e => ?_) fun e => ?_
 ·rw [AV.of_tup? e] at r
  obtain ⟨_, _, _, _, rfl, h1, h2, h3, h4, h5⟩ := r.of_tup
  exact key (.inr rfl) h1 h2 h3 h5 hl
 ·apply vrL I.h r e; intro r' ys k a ws n hr ha g1 k1 e
  cases e
  exact key (.inl rfl) g1 rfl rfl k1 hl
noncomputable def bStar (m : AM AV) : AM (List AV) := do
 let v ← m
 see (starOf v)
theorem argsc_star {m : AM AV} {e : Expr} {p : Pos} (S : SimE G sc hd d m e) (he : autoParam (∀ env, starEach [.Starred e p] env = [(true, eval e env)]) aR) : SimArgsC G sc hd d (bStar m) [.Starred e p] := by
 intro A fr env own μ st s vs st₁ pos f first P hA I hm hk Q E h
 rw [he]
 refine ks_call rfl hk (ks_lone (sim_bind2 S hA I hm fun v st₂ w s₂ μ₂ hm₂ x₂ I₂ r₂ => ?_))
 obtain ⟨rfl, hv⟩ := see_some hm₂
 exact star_is I₂ r₂ hv fun ws s₃ x₃ I₃ r₃ => h ws s₃ μ₂ (I.trans x₂ x₃) I₃ r₃
noncomputable def bConsStar (m k : AM AV) : AM (List AV) := do
 let x ← m
 let xs ← bStar k
 pure (x :: xs)
theorem argsc_cons_star {m k : AM AV} {e e2 : Expr} {p : Pos} (S : SimE G sc hd d m e) (T : SimE G sc hd d k e2) (he : autoParam (∀ env, starEach [e, .Starred e2 p] env = (false, eval e env) :: starEach [.Starred e2 p] env) aR) (he2 : autoParam (∀ env, starEach [.Starred e2 p] env = [(true, eval e2 env)]) aR) : SimArgsC G sc hd d (bConsStar m k) [e, .Starred e2 p] := by
 intro A fr env own μ st s vs st₁ pos f first P hA I hm hk Q E h
 rw [he]
 refine ks_call (by rw [he2]; rfl) hk (Calls.evalArgs_plain (Calls.spliced_cons (sim_bind2 S hA I hm fun v st₂ w s₂ μ₂ hm₂ x₂ I₂ r₂ => ?_)))
 refine items_star (rest := []) (he := he2 env) ?_
 refine Mine.hold fun gL bk => ?_
 obtain ⟨xs, st₃, h1, h2⟩ := am_bind_some hm₂
 cases h2
 refine bk ?_; clear bk gL
 refine sim_bind2 T hA I₂ h1 fun v' st₄ w' s₄ μ₄ hm₄ x₄ I₄ r₄ => ?_
 obtain ⟨rfl, hv⟩ := see_some hm₄
 refine star_is I₄ r₄ hv fun ws s₅ x₅ I₅ r₅ => Calls.spliced_nil ?_
 rw [List.append_nil]
 exact h _ s₅ μ₄ (I.trans x₂ (I₂.trans x₄ x₅)) I₅ (.cons (I₄.vr x₅ (I₂.vr x₄ r₂)) r₅)
theorem keeps_builtin {M : Model} {P : Heap → Prop} {n : String} : KeepsAt M P (.builtin n) := fun h zz => ⟨.machine, .inr (.inl rfl), Looks.of_pure rfl⟩
noncomputable def bCallX (m : List AV → AHM (Except String AV)) (args : AM (List AV)) : AM (Except String AV) := do
 let vs ← args
 lift (m vs)
theorem SimCallX.use {w : Value} {m : List AV → AHM (Except String AV)} (S : SimCallX G hd d w m) {A : Around} {fr : List Env} {env : Env} {own μ : List Addr} {st st' : AS} {s : Shared} {vs : List AV} {ws : List Value} {r : Except String AV} (hA : AOk A fr hd d) (I : Inv G sc fr env own μ st s) (rs : VRs G μ s.heap vs ws) (hm : lift (m vs) st = some (r, st'))
  {Q : Value → Shared → Prop} {E : Value → Shared → Prop} (hQ : ∀ v b s' μ', r = .ok v → XT own fr μ st s μ' st' s' → Inv G sc fr env own μ' st' s' → VR G μ' s'.heap v b → Q b s')
  (hE : ∀ e k s' μ' sf, r = .error k → XT own fr μ st s μ' st' s' → Inv G sc fr env own μ' st' s' → Fly G μ' s.heap e (excCls G k) s'.heap sf → (sf = .new ∨ sf = .out .none) → E (.ref e) s') : wpAny G.M A (call w ws) Q E s := by
 refine Mine.hold fun gL bk => ?_
 obtain ⟨hp', h1, rfl⟩ := lift_some hm
 refine bk ?_; clear bk gL
 exact S vs A fr μ st.hp s r hp' ws hA I.h rs h1 Q E (fun v b s' μ' e x H r => hQ v b s' μ' e x.weaken (I.heap x H) r) fun e k s' μ' sf e1 x H F hs => hE e k s' μ' sf e1 x.weaken (I.heap x H) F hs
theorem stOk_of {env : Env} {sf : FlySt} (h : sf = .new ∨ sf = .out .none) : StOk env sf := h.elim .inl fun q => .inr (.inl q)
theorem sim_callC {x : String} {p pos : Pos} {w : Value} {f : List AV → AHM AV} {m : AM (List AV)} {es : List Expr} (gk : GOk G) (hx : sc.scope.names.lookup (Str.ofString x) = some .globalImplicit) (hw : GlobV G x w) (hc : KeepsAt G.M (fun h => G.h₀.StaysIn h) w) (SC : SimCall G hd d w f)
  (SA : SimArgsC G sc hd d m es) (hdb : autoParam ((Str.ofString x == ("__debug__" : PySem.Str)) = false) aR) : SimE G sc hd d (bCall f m) (.Call (.Name (Str.ofString x) p) es [] pos) := by
 intro A fr env own μ st s z st' hA I hm Q E h
 refine Mine.hold fun gL bk => ?_
 obtain ⟨vs, st₁, h1, h2⟩ := am_bind_some hm
 refine bk ?_; clear bk gL
 refine wpAny_Call_NameR (wpAny_Name (loadGlobal_is gk I.h I.e.ok hx hw ?_) hdb)
 refine SA A fr env own μ st s vs st₁ pos w [] _ hA I h1 hc Q E fun ws s₁ μ₁ x₁ I₁ r₁ => ⟨I₁.h.base, ?_⟩
 exact (SC vs).use hA I₁ ⟨ws, r₁, rfl⟩ h2 fun b s₂ μ₂ x₂ I₂ r₂ => h _ _ _ (I.trans x₁ x₂) I₂ r₂
theorem sim_callCX {x : String} {p pos : Pos} {w : Value} {f : List AV → AHM (Except String AV)} {m : AM (List AV)} {es : List Expr} (gk : GOk G) (hx : sc.scope.names.lookup (Str.ofString x) = some .globalImplicit) (hw : GlobV G x w) (hc : KeepsAt G.M (fun h => G.h₀.StaysIn h) w) (SC : SimCallX G hd d w f)
  (SA : SimArgsC G sc hd d m es) (hdb : autoParam ((Str.ofString x == ("__debug__" : PySem.Str)) = false) aR) : SimX G sc hd d (bCallX f m) (.Call (.Name (Str.ofString x) p) es [] pos) := by
 intro A outer env own μ st s r st' hA hf I hm Q E hQ hE
 refine Mine.hold fun gL bk => ?_
 obtain ⟨vs, st₁, h1, h2⟩ := am_bind_some hm
 refine bk ?_; clear bk gL
 refine wpAny_Call_NameR (wpAny_Name (loadGlobal_is gk I.h I.e.ok hx hw ?_) hdb)
 refine SA A _ env own μ st s vs st₁ pos w [] _ hA I h1 hc Q E fun ws s₁ μ₁ x₁ I₁ r₁ => ⟨I₁.h.base, ?_⟩
 exact SC.use hA I₁ r₁ h2 (fun v b s₂ μ₂ e x₂ I₂ r₂ => hQ v b s₂ μ₂ e (I.trans x₁ x₂) I₂ r₂) fun e k s₂ μ₂ sf e1 x₂ I₂ F hs => hE e k s₂ μ₂ sf e1 (I.trans x₁ x₂) I₂ (F.weaken x₁.alive) (stOk_of hs)
structure MethAt (K : Frag) (C f : Addr) (name : String) : Prop where
 hg : plainGet K C (Str.ofString name) = true
 hf : findIn K (.ref C) (Str.ofString name) = some (some (.ref f))
 ht : isFn K (.ref f) = true
 hk : keepIn K (.ref f) = true
noncomputable def ownM (c name : String) (o : AV) (hp : AH) : Option Unit :=
 bC hp o fun zz x zz => bO x.inst? fun p => bG (p.1 = c) (bO hp[p.2]? fun c => bO c.1.attrs? fun fs => bG ((fs.lookup name).isNone = true) (some ()))
theorem ownM_is {A : Around} {fr : List Env} {μ : List Addr} {hp : AH} {s : Shared} {K : Frag} {c name : String} {C f : Addr} {o : AV} {ov : Value} {pl : Sem Bool} {Q : Value × List Value → Shared → Prop} {E : Value → Shared → Prop} (k : K.In G.h₀) (hC : G.addr c = some C) (Mt : MethAt K C f name) (H : HInv G fr μ hp s) (ro : VR G μ s.heap o ov) (hm : ownM c name o hp = some ())
  (h : Q (.ref f, [ov]) s) : wpAny G.M A (getMethod ov (Str.ofString name) pl) Q E s := by
 have X : K.In s.heap := k.keeps H.base
 revert h
 apply vrC H ro hm; intro r x ver a ob hr ha hob hor hm h
 refine bO_some hm fun p e1 hm => bG_some hm fun hcc hm => bO_some hm fun cc hfs hm => bO_some hm fun fs e2 hm => bG_some hm fun hn hm => ?_
 rw [AObj.of_inst? e1, hcc] at hor
 refine Mine.hold fun gL bk => ?_
 obtain ⟨_, _, rfl, hC', hdx⟩ := hor.of_inst
 rw [hC] at hC'; cases hC'
 obtain ⟨od, hod, hodr⟩ := H.obj _ _ _ hfs hdx
 rw [AObj.of_attrs? e2] at hodr
 obtain ⟨_, _, rfl, ar⟩ := hodr.of_attrs
 refine bk ?_; clear bk gL
 have hl := (ar.look (name := name)).2 (by simpa using hn)
 have Ia : PySem.W.InstAt s.heap _ _ _ (some (dictOf _ _)) := ⟨hob, rfl, rfl, hod⟩
 exact method_fn X Ia (plainGet_of Mt.hg).1 (plainGet_of Mt.hg).2 Mt.hf (beq_iff_eq.mp Mt.ht) (by show (lookIn _ (dictOf _ _)).map _ = _; rw [lookIn_dict, hl]; rfl) h
noncomputable def bMethO (c name : String) (f : List AV → AHM AV) (mo : AM AV) (args : AM (List AV)) : AM AV := do
 let o ← mo
 see (ownM c name o)
 let vs ← args
 lift (f (o :: vs))
noncomputable def bMethOX (c name : String) (f : List AV → AHM (Except String AV)) (mo : AM AV) (args : AM (List AV)) : AM (Except String AV) := do
 let o ← mo
 see (ownM c name o)
 let vs ← args
 lift (f (o :: vs))
theorem sim_methO {K : Frag} {c name : String} {C fa : Addr} {f : List AV → AHM AV} {mo : AM AV} {m : AM (List AV)} {o : Expr} {es : List Expr} {apos pos : Pos} (k : K.In G.h₀) (hC : G.addr c = some C) (Mt : MethAt K C fa name) (SC : SimCall G hd d (.ref fa) f) (So : SimE G sc hd d mo o) (SA : SimArgsC G sc hd d m es)
  (he : ∀ env : Env, ∃ pl, eval (.Call (.Attribute o (Str.ofString name) apos) es [] pos) env = (do let ov ← eval o env; standAt apos.atName; let (f, first) ← holding [ov] (getMethod ov (Str.ofString name) pl); callWith pos f first (backTo pos (starEach es env)) []) := by exact fun zz => ⟨_, rfl⟩) :
  SimE G sc hd d (bMethO c name f mo m) (.Call (.Attribute o (Str.ofString name) apos) es [] pos) := by
 intro A fr env own μ st s z st' hA I hm Q E h
 obtain ⟨pl, hpl⟩ := he env
 refine MethodCall_ (pl := pl) (sim_bind2 So hA I hm fun ov st₁ ow s₁ μ₁ hm₁ x₁ I₁ r₁ => ?_) hpl
 refine Mine.hold fun gL bk => ?_
 obtain ⟨u, st₁', h1, hm₂⟩ := am_bind_some hm₁
 obtain ⟨rfl, hv⟩ := see_some h1
 obtain ⟨vs, st₂, h2, h3⟩ := am_bind_some hm₂
 refine bk ?_; clear bk gL
 refine ownM_is k hC Mt I₁.h r₁ hv ?_
 refine SA A fr env own μ₁ st₁' s₁ vs st₂ pos _ [ow] (fun h => K.In h) hA I₁ h2 (keeps_K Mt.hk) Q E fun ws s₂ μ₂ x₂ I₂ r₂ => ⟨k.keeps I₂.h.base, ?_⟩
 exact (SC (ov :: vs)).use hA I₂ ⟨ow :: ws, .cons (I₁.vr x₂ r₁) r₂, rfl⟩ h3 fun b s₃ μ₃ x₃ I₃ r₃ => h _ _ _ (I.trans x₁ (I₁.trans x₂ x₃)) I₃ r₃
theorem sim_methOX {K : Frag} {c name : String} {C fa : Addr} {f : List AV → AHM (Except String AV)} {mo : AM AV} {m : AM (List AV)} {o : Expr} {es : List Expr} {apos pos : Pos} (k : K.In G.h₀) (hC : G.addr c = some C) (Mt : MethAt K C fa name) (SC : SimCallX G hd d (.ref fa) f) (So : SimE G sc hd d mo o) (SA : SimArgsC G sc hd d m es)
  (he : ∀ env : Env, ∃ pl, eval (.Call (.Attribute o (Str.ofString name) apos) es [] pos) env = (do let ov ← eval o env; standAt apos.atName; let (f, first) ← holding [ov] (getMethod ov (Str.ofString name) pl); callWith pos f first (backTo pos (starEach es env)) []) := by exact fun zz => ⟨_, rfl⟩) :
  SimX G sc hd d (bMethOX c name f mo m) (.Call (.Attribute o (Str.ofString name) apos) es [] pos) := by
 intro A outer env own μ st s r st' hA hf I hm Q E hQ hE
 obtain ⟨pl, hpl⟩ := he env
 refine MethodCall_ (pl := pl) (sim_bind2 So hA I hm fun ov st₁ ow s₁ μ₁ hm₁ x₁ I₁ r₁ => ?_) hpl
 refine Mine.hold fun gL bk => ?_
 obtain ⟨u, st₁', h1, hm₂⟩ := am_bind_some hm₁
 obtain ⟨rfl, hv⟩ := see_some h1
 obtain ⟨vs, st₂, h2, h3⟩ := am_bind_some hm₂
 refine bk ?_; clear bk gL
 refine ownM_is k hC Mt I₁.h r₁ hv ?_
 refine SA A _ env own μ₁ st₁' s₁ vs st₂ pos _ [ow] (fun h => K.In h) hA I₁ h2 (keeps_K Mt.hk) Q E fun ws s₂ μ₂ x₂ I₂ r₂ => ⟨k.keeps I₂.h.base, ?_⟩
 exact SC.use hA I₂ (.cons (I₁.vr x₂ r₁) r₂) h3 (fun v b s₃ μ₃ e x₃ I₃ r₃ => hQ v b s₃ μ₃ e (I.trans x₁ (I₁.trans x₂ x₃)) I₃ r₃) fun e k s₃ μ₃ sf e1 x₃ I₃ F hs => hE e k s₃ μ₃ sf e1 (I.trans x₁ (I₁.trans x₂ x₃)) I₃ ((F.weaken x₂.alive).weaken x₁.alive) (stOk_of hs)
structure MakeAt (K : Frag) (C f : Addr) : Prop where
 hm : makesIn K C = true
 hi : findIn K (.ref C) "__init__" = some (some (.ref f))
 hf : typeIn K (.ref f) = some (.type "function")
noncomputable def aMake (c : String) (slotted : Bool) (init : List AV → AHM AV) : List AV → AHM AV := fun args hp =>
 bO (init (.ref (hp.length + 1) :: args) (hp ++ [(.attrs [], 0), (if slotted = true then .sinst c hp.length [] else .inst c hp.length, 0)])) fun q => bG (q.1.isNone = true) (some (.ref (hp.length + 1), q.2))
theorem under_make {A : Around} {fr : List Env} {C : Addr} {vals : List Value} (hA : AOk A fr hd (d + 1)) : AOk (A.under (.builtin "type.__call__" ⟨.ref C :: vals, []⟩)) fr hd d where
 frames := by
  have e : (A.under (.builtin "type.__call__" ⟨.ref C :: vals, []⟩)).frames = A.frames := rfl
  rw [e]; exact hA.frames
 depth := by
  have := hA.depth
  rw [depth_under_make]; omega
 units := by
  have := hA.units
  have e : (A.under (.builtin "type.__call__" ⟨.ref C :: vals, []⟩)).units = A.units + 1 := rfl
  rw [e]; omega
 hnd := hA.hnd
theorem call_make {K : Frag} {c : String} {C f : Addr} {slotted : Bool} {init : List AV → AHM AV} (k : K.In G.h₀) (hC : G.addr c = some C) (Mk : MakeAt K C f) (S : SimCode G hd d (.ref f) init) : SimCall G hd (d + 1) (.ref C) (aMake c slotted init) := by
 rintro args A fr μ hp s z hp' tr hA H zI11 hm Q E h
 refine Mine.hold fun gL bk => ?_
 obtain ⟨vs, rs, rfl⟩ := zI11
 refine bk ?_; clear bk gL
 refine bO_some hm fun q hin hm => bG_some hm fun hq hm => ?_
 ·cases hm
  obtain ⟨v, hp'⟩ := q
  cases isNone_of hq
  have X : K.In s.heap := k.keeps H.base
  refine wpAny_call ?_
  refine Mine.hold fun gL bk => ?_
  obtain ⟨hh, g, dr, t, os⟩ := s
  refine bk ?_; clear bk gL
  refine make_core (makes_of X Mk.hm) (looks_findIn X Mk.hi) (fun self => bind_fn X self Mk.hf) (.inl rfl) ?_
  have g1 := H.alloc (h' := hh.push emptyDict) (tk := t) (x := .attrs []) (fun b o e => Heap.get?_push_of_some _ e) (Heap.get?_none_of_le (Nat.le_refl _)) (Heap.get?_push_size _ rfl) (.attrs (es := []) (n := 0) .nil)
  have hdx : (μ ++ [hh.objs.size])[hp.length]? = some hh.objs.size := by rw [← H.len, List.getElem?_append_right (Nat.le_refl _), Nat.sub_self]; rfl
  have hor : OR G (μ ++ [hh.objs.size]) (hh.push emptyDict) (if slotted = true then .sinst c hp.length [] else .inst c hp.length) (instObj C hh.objs.size) := by
   cases slotted with
   | true => exact .sinst (vs := []) hC hdx .nil
   | false => exact .inst hC hdx
  have hsz : (hh.push emptyDict).objs.size = hh.objs.size + 1 := Heap.size_push ..
  have g2 := g1.1.alloc (h' := (hh.push emptyDict).push (instObj C hh.objs.size)) (tk := t) (fun b o e => Heap.get?_push_of_some _ e) (Heap.get?_none_of_le (Nat.le_refl _)) (Heap.get?_push_size _ rfl) hor
  have hx : Ext [] fr μ hp ⟨hh, g, dr, t, os⟩ (μ ++ [hh.objs.size] ++ [(hh.push emptyDict).objs.size]) (hp ++ [(.attrs [], 0)] ++ [((if slotted = true then .sinst c hp.length [] else .inst c hp.length), 0)]) ⟨(hh.push emptyDict).push (instObj C hh.objs.size), g, dr, t, os⟩ := Ext.trans H.len g1.2 g2.2
  have hl2 : (hp ++ [(AObj.attrs [], 0)]).length = hp.length + 1 := by simp
  have rself : VR G (μ ++ [hh.objs.size] ++ [(hh.push emptyDict).objs.size]) ((hh.push emptyDict).push (instObj C hh.objs.size)) (.ref (hp.length + 1)) (.ref (hh.objs.size + 1)) := by
   have := ref_new (G := G) (h := (hh.push emptyDict).push (instObj C hh.objs.size)) (a := (hh.push emptyDict).objs.size) g1.1.len
   rw [hl2] at this
   rw [hsz] at this ⊢
   exact this
  have rargs := rs.ext H (by intro a ha; cases ha) hx
  have eh : hp ++ [(AObj.attrs [], 0), ((if slotted = true then .sinst c hp.length [] else .inst c hp.length), 0)] = hp ++ [(AObj.attrs [], 0)] ++ [((if slotted = true then .sinst c hp.length [] else .inst c hp.length), 0)] := by simp
  rw [eh] at hin
  have hA' := under_make (C := C) (vals := vs) hA
  refine S (.ref (hp.length + 1) :: args) (A.under (.builtin "type.__call__" ⟨.ref C :: vs, []⟩)) fr _ _ ⟨(hh.push emptyDict).push (instObj C hh.objs.size), g, dr, t, os⟩ .none hp' (.ref (hh.objs.size + 1) :: vs) hA' g2.1 (.cons rself rargs) hin _ fun b s' μ' x' H' r' => ?_
  cases r'
  refine ⟨rfl, h _ _ _ (Ext.trans H.len hx x') H' ?_⟩
  cases rself with | ref hr => exact .ref (x'.mu hr)
end
section
variable {G : Glob} {sc : SC} {hd : Bool} {d : Nat}
noncomputable def noExc (h : AM AFlow) : AM AFlow := do
 let g ← h
 match g with
 | .exc _ => AM.bad
 | g => pure g
noncomputable def bTry (k : String) (m h : AM AFlow) : AM AFlow := do
 let f ← m
 match f with
 | .exc k' => if k' = k then noExc h else AM.bad
 | f => pure f
theorem looks_cls {M : Model} {h : Heap} {e : Addr} {oe : Obj} (he : h.get? e = some oe) : Looks M h (typeOf (.ref e)) oe.cls := (Looks.ld (part := none) he).andThen .now
theorem sims_try {K : Frag} {k x : String} {cw : Value} {m h : AM AFlow} {body suite : List Stmt} {b₀ : Stmt} {px hp pos : Pos} (gk : GOk G) (X : K.In G.h₀) (hx : sc.scope.names.lookup (Str.ofString x) = some .globalImplicit) (hw : GlobV G x cw) (hm : exmOne K (excCls G k) cw = some true)
  (S : SimB G sc hd d m body) (Sh : SimB G sc false d h (b₀ :: suite)) (hdb : autoParam ((Str.ofString x == ("__debug__" : PySem.Str)) = false) aR) :
  Sim1 G sc hd d (bTry k m h) (.Try body [.ExceptHandler (some (.Name (Str.ofString x) px)) none (b₀ :: suite) hp] [] [] pos) := by
 intro A outer env own μ st s fl st' hA hf I hrun Q E hQ hE
 obtain ⟨f, st₁, h1, h2⟩ := am_bind_some hrun
 refine wpAny_Try_except (S A outer env own μ st s f st₁ hA hf I h1 _ _ (fun f' s₁ μ₁ x₁ I₁ r₁ => ?_) fun e k' s₁ μ₁ sf e1 x₁ I₁ F hs => ?_)
 ·cases r₁ with
  | next => cases h2; exact wpAny_execs_nil (hQ _ _ _ x₁ I₁ .next)
  | brk => cases h2; exact hQ _ _ _ x₁ I₁ .brk
  | cont => cases h2; exact hQ _ _ _ x₁ I₁ .cont
  | ret r => cases h2; exact hQ _ _ _ x₁ I₁ (.ret r)
 ·subst e1
  dsimp only at h2
  split at h2
  ·rename_i hk
   subst hk
   obtain ⟨g, st₂, h3, h4⟩ := am_bind_some h2
   refine note_step hA.frames hf I₁.h x₁.alive F hs fun h' j F' => ?_
   have H' := I₁.h.junk I.h.base j
   refine flight_step none H' F' fun h'' j' F'' => ?_
   have J := j.trans j'
   have I₃ : Inv G sc (env :: outer) env own μ₁ st₁ { s₁ with heap := h'' } := ⟨I₁.h.junk I.h.base J, I₁.e.junk I₁.h J⟩
   have X₃ := Ext.junk x₁ I₁.h I₁.e.ownK I.h.len J
   refine wpAny_handleBy_cons (codeAny_handlers_test (wpAny_Name (loadGlobal_is gk I₃.h I₃.e.ok hx hw ?_) hdb)) (by intro q; cases q)
   obtain ⟨oe, ws, a0, he, hcls, _⟩ := id F''
   have L := looks_cls (M := G.M) he
   rw [hcls] at L
   refine (exm_one (X.keeps I₃.h.base) L hm).here ?_
   refine codeAny_handlers_suite (flight_step none I₃.h F'' fun h₃ j₃ F₃ => ?_)
   have I₄ : Inv G sc (env :: outer) env own μ₁ st₁ { s₁ with heap := h₃ } := ⟨I₃.h.junk I.h.base j₃, I₃.e.junk I₃.h j₃⟩
   have X₄ := Ext.junk X₃ I₃.h I₃.e.ownK I.h.len j₃
   have hA' : AOk (A.mark (some (.ref e))) (env :: outer) false d := ⟨hA.frames, hA.depth, hA.units, fun q => by cases q⟩
   refine Sh (A.mark (some (.ref e))) outer env own μ₁ st₁ _ g st₂ hA' hf I₄ h3 _ _ (fun f' s₅ μ₅ x₅ I₅ r₅ => ?_) fun e' k' s₅ μ₅ sf' e1 => ?_
   ·have XX := I.trans X₄ x₅
    cases r₅ with
    | next => cases h4; exact hQ _ _ _ XX I₅ .next
    | brk => cases h4; exact hQ _ _ _ XX I₅ .brk
    | cont => cases h4; exact hQ _ _ _ XX I₅ .cont
    | ret r => cases h4; exact hQ _ _ _ XX I₅ (.ret r)
   ·subst e1; cases h4
  ·cases h2
end
section
variable {G : Glob} {sc : SC} {hd : Bool} {d : Nat}
theorem fly_new {fr : List Env} {μ : List Addr} {hp : AH} {s : Shared} {h' : Heap} {e : Addr} {cls : String} (H : HInv G fr μ hp s) (x : Heap.NewExc s.heap h' e cls) : Fly G μ s.heap e (.type cls) h' .new := by
 refine Mine.hold fun gL bk => ?_
 obtain ⟨ob, t, h1, h2, h3⟩ := x.there
 refine bk ?_; clear bk gL
 have F := H.fresh x.new
 exact ⟨ob, _, t, h1, h2, h3, rfl, F.μ, F.low, x.new, rfl⟩
noncomputable def aRemove : List AV → AHM (Except String AV) := fun args hp => bA2 args fun o i => bI i fun k => bL hp o fun r xs ver => bO (avInts xs) fun ns => bG (ns.length ≤ 1000000) (if ns.contains k then some (.ok .none, hp.set r (.list ((ns.erase k).map .int), ver + 1)) else some (.error "ValueError", hp))
theorem ints_kf {vs : List Value} {ns : List Int} (k : IntsAre vs ns) : kf_ints vs = true := by
 induction k with
 | nil => rfl
 | cons _ _ _ ih => exact ih
theorem isInt_at {k : Int} {vs : List Value} {ns : List Int} (h : IntsAre vs ns) : ∀ {i : Nat} {v : Value}, vs[i]? = some v → ∃ n, ns[i]? = some n ∧ PyProof.Rows.isInt k v = (n == k) := by
 induction h with
 | nil => intro i v e; simp at e
 | cons n _ _ ih =>
  intro i v e
  cases i with
  | zero => cases e; exact ⟨n, rfl, rfl⟩
  | succ i => exact ih e
theorem ints_eraseIdx {vs : List Value} {ns : List Int} (h : IntsAre vs ns) : ∀ i : Nat, IntsAre (vs.eraseIdx i) (ns.eraseIdx i) := by
 induction h with
 | nil => exact fun zz => .nil
 | cons n t h ih =>
  intro i
  cases i with
  | zero => exact h
  | succ i => exact .cons n t (ih i)
theorem call_remove (hve : G.addr "ValueError" = none) : SimCallX G true d (.builtin "list.remove") aRemove := by
 intro args A fr μ hp s r hp' vs hA H rs hm Q E hQ hE
 apply vr2 rs hm; intro o i w u ro ri hm
 apply vrI ri hm; intro k t hm
 apply vrL H ro hm; intro q xs ver a ws n hr ha g1 k1 hm
 refine bO_some hm fun ns hns hm => bG_some hm fun hl hm => ?_
 rw [avInts_is hns] at k1
 have hi := k1.ints
 have hlen : ws.length = ns.length := hi.length
 split at hm
 ·rename_i hc
  cases hm
  have hj : ns.idxOf k < ns.length := List.idxOf_lt_length_iff.mpr (by simpa using hc)
  have hit : ns[ns.idxOf k]? = some k := by rw [List.getElem?_eq_getElem hj]; simp
  have hz : ws.toArray.size ≤ sizeLine := by rw [List.size_toArray, hlen, sizeLine_eq]; omega
  refine call_meets PySem.F.slot_list_remove ⟨_, g1, rfl⟩ PySem.F.entry_list_remove (PySem.F.args_list_remove_2 _ _)
   (MeetsSeq.list_remove a ws.toArray n (.int k t) (PyProof.Rows.isInt k) (fun y hy => kf_eq (ints_kf hi) y (by simpa using hy)) (ns.idxOf k) (by simpa [hlen] using hj) ?_ (fun m hm hlt => ?_) hz) ⟨g1, ?_⟩
  ·have hv : ws[ns.idxOf k]? = some ws[ns.idxOf k] := List.getElem?_eq_getElem (by omega)
   refine Mine.hold fun gL bk => ?_
   obtain ⟨m, h1, h2⟩ := isInt_at (k := k) hi hv
   rw [hit] at h1; cases h1
   refine bk ?_; clear bk gL
   simpa using h2
  ·have hm' : m < ws.length := by simpa using hm
   have hv : ws[m]? = some ws[m] := List.getElem?_eq_getElem hm'
   refine Mine.hold fun gL bk => ?_
   obtain ⟨z, h1, h2⟩ := isInt_at (k := k) hi hv
   refine bk ?_; clear bk gL
   have : z ≠ k := fun e => by
    subst e
    have := List.not_of_lt_findIdx (p := (· == z)) (xs := ns) hlt
    obtain ⟨hm2, e2⟩ := List.getElem?_eq_some_iff.mp h1
    rw [e2] at this; simp at this
   have e3 : (ws.toArray)[m] = ws[m] := by simp
   rw [e3, h2]; simpa using this
  ·have g := list_put H hr ha g1 (f := fun xs => xs.eraseIdxIfInBounds (ns.idxOf k)) (ws := ws.eraseIdx (ns.idxOf k)) (ys := (ns.erase k).map .int) (by
    apply Array.toList_inj.mp
    simp [Array.toList_eraseIdxIfInBounds]) (by
    rw [List.erase_eq_eraseIdx_of_idxOf rfl]
    exact VRs.ofInts (ints_eraseIdx hi _)) s.toks
   exact hQ _ _ _ μ rfl g.2 g.1 .none
 ·rename_i hc
  cases hm
  have hno : ∀ (m : Nat) (hm : m < ws.toArray.size), PyProof.Rows.isInt k ws.toArray[m] = false := fun m hm => by
   have hm' : m < ws.length := by simpa using hm
   have hv : ws[m]? = some ws[m] := List.getElem?_eq_getElem hm'
   obtain ⟨z, h1, h2⟩ := isInt_at (k := k) hi hv
   have e3 : (ws.toArray)[m] = ws[m] := by simp
   rw [e3, h2]
   have : z ≠ k := fun e => by
    subst e
    exact hc (by simpa using List.mem_of_getElem? h1)
   simpa using this
  refine call_meets PySem.F.slot_list_remove ⟨_, g1, rfl⟩ PySem.F.entry_list_remove (PySem.F.args_list_remove_2 _ _)
   (MeetsSeq.list_remove_none a ws.toArray n (.int k t) (PyProof.Rows.isInt k) (fun y hy => kf_eq (ints_kf hi) y (by simpa using hy)) hno) ⟨g1, hA.hnd rfl, fun h' tk e hn => ?_⟩
  have g := H.grow (h' := h') (tk := tk) hn.keeps
  have F := fly_new H hn
  exact hE e _ _ μ .new rfl g.2 g.1 (by
   show Fly G μ s.heap e (excCls G "ValueError") h' .new
   unfold excCls; rw [hve]; exact F) (.inl rfl)
noncomputable def bMethX (T : String) (f : List AV → AHM (Except String AV)) (m₀ : AM AV) (args : AM (List AV)) : AM (Except String AV) := do
 let o ← m₀
 isTy T o
 let vs ← args
 lift (f (o :: vs))
theorem sim_methX {T id name : String} {f : List AV → AHM (Except String AV)} {m₀ : AM AV} {m : AM (List AV)} {o : Expr} {es : List Expr} {apos pos : Pos} (pa : PlainAttrs T) (slot : Slot T name id) (hty : typeOf (.builtin id) = pure (.type "method_descriptor")) (SC : SimCallX G hd d (.builtin id) f)
  (S₀ : SimE G sc hd d m₀ o) (SA : SimArgs G sc hd d m es) (hline : autoParam ((apos.endLine == pos.line) = true) aR) (hbase : autoParam (∀ env : Env, attributeBase o (Str.ofString name) env (eval o env) = eval o env) aR) (hlen : es.length < 30 := by decide) :
  SimX G sc hd d (bMethX T f m₀ m) (.Call (.Attribute o (Str.ofString name) apos) es [] pos) := by
 intro A outer env own μ st s r st' hA hf I hm Q E hQ hE
 refine Mine.hold fun gL bk => ?_
 obtain ⟨ov, st₁, h0, hm1⟩ := am_bind_some hm
 obtain ⟨u, st₁', h1, hm2⟩ := am_bind_some hm1
 obtain ⟨rfl, hc⟩ := see_some h1
 refine bk ?_; clear bk gL
 split at hc
 ·rename_i hT
  refine Mine.hold fun gL bk => ?_
  obtain ⟨vs, st₂, h2, h3⟩ := am_bind_some hm2
  refine bk ?_; clear bk gL
  refine meth_on pa slot hty hline hbase hlen S₀ SA hA I h0 hT h2 fun w ws s₂ μ₂ x₂ I₂ r₁ r₂ => ?_
  exact SC.use hA I₂ (.cons r₁ r₂) h3 (fun v b s₃ μ₃ e x₃ I₃ r₃ => hQ v b s₃ μ₃ e (I.trans x₂ x₃) I₃ r₃) fun e k s₃ μ₃ sf e1 x₃ I₃ F hs => hE e k s₃ μ₃ sf e1 (I.trans x₂ x₃) I₃ (F.weaken x₂.alive) (stOk_of hs)
 ·cases hc
noncomputable def bRaise (k : String) (m : AM (List AV)) : AM AFlow := do
 let vs ← m
 small vs.length
 pure (.exc k)
theorem sims_raise {B newId initId k x : String} {C : Addr} {bm : List Value} {m : AM (List AV)} {es : List Expr} {np cpos pos : Pos} (gk : GOk G) (hk : G.addr k = some C) (O : OwnCls (Str.ofString x) C bm newId G.mg G.h₀) (FB : ExcBaseFacts B newId initId bm)
  (hx : sc.scope.names.lookup (Str.ofString x) = some .globalImplicit) (SA : SimArgs G sc true d m es) (hdb : autoParam ((Str.ofString x == ("__debug__" : PySem.Str)) = false) aR) :
  Sim1 G sc true d (bRaise k m) (.Raise (some (.Call (.Name (Str.ofString x) np) es [] cpos)) none pos) := by
 intro A outer env own μ st s fl st' hA hf I hrun Q E hQ hE
 refine Mine.hold fun gL bk => ?_
 obtain ⟨vs, st₁, h1, h2⟩ := am_bind_some hrun
 obtain ⟨u, st₂, h3, h4⟩ := am_bind_some h2
 obtain ⟨rfl, hlen⟩ := small_some h3
 cases h4
 obtain ⟨tl, N, nm, q, bs, hdct, sn, sub, ab, col, dd, k0, k1, k2, k3, k5, mN, hC, hN, hni, T⟩ := O.obj
 refine bk ?_; clear bk gL
 refine wpAny_Raise_call_subT (C := C) (nm := nm) (q := q) (N := N) (bs := bs) (bm := tl) (hdct := hdct) (sn := sn) (sub := sub) (ab := ab) (col := col) (dd := dd) (k0 := k0) (k1 := k1) (k2 := k2) (k3 := k3) (k5 := k5)
  FB (mN := mN) (T.hasType FB.hasBase) (hA.hnd rfl) (SA.less.plain env cpos) hni (wpAny_Name (loadGlobal_is gk I.h I.e.ok hx (.inl O.bound) ⟨rfl, ?_⟩) hdb)
 refine SA.less.ev _ _ _ _ _ env cpos _ ?_
 refine SA.sim cpos A _ env own μ st s vs _ hA I h1 _ _ fun ws s₁ μ₁ x₁ I₁ r₁ => ⟨rfl, by rw [← r₁.length, sizeLine_eq]; omega, I₁.h.base _ _ hC, hN.keeps I₁.h.base, T.keeps I₁.h.base, fun h' e hx' => ?_⟩
 refine Mine.hold fun gL bk => ?_
 obtain ⟨t, g1, g2, g3⟩ := hx'.there
 refine bk ?_; clear bk gL
 have g := I₁.h.grow (h' := h') (tk := s₁.toks) hx'.keeps
 have F := I₁.h.fresh hx'.new
 have hF : Fly G μ₁ s₁.heap e (excCls G k) h' .new := ⟨_, _, .ref t, g1, by unfold excCls; rw [hk], rfl, rfl, F.μ, F.low, hx'.new, rfl⟩
 exact hE e k _ μ₁ .new rfl (I.trans x₁ g.2.weaken) (I₁.heap g.2 g.1) (hF.weaken x₁.alive) (.inl rfl)
end
section
variable {G : Glob} {sc : SC} {hd : Bool} {d : Nat}
section
variable {prog : Program} {w : World} {A : Around} {E : Value → Shared → Prop} {s : Shared}
theorem li_item {it l : Addr} {i : Nat} {items : Array Value} {x : Value} {n : Nat} {Q : Fin → Shared → Prop} (hit : s.heap.get? it = some ⟨.type "list_iterator", none, .fields #[.ref l, .int i 0], #[]⟩) (hl : ∃ ol, s.heap.get? l = some ol ∧ ol.data = .seq items n) (hx : items[i]? = some x)
  (hQ : ∀ h', h'.get? it = some ⟨.type "list_iterator", none, .fields #[.ref l, .int (i + 1 : Nat) 0], #[]⟩ → Heap.SameBut it s.heap h' → Q (.done (.ret x)) { s with heap := h' }) : wpAny (model prog w) A (Builtin.«list_iterator.__next__» ⟨[.ref it], []⟩) Q E s := by
 obtain ⟨ol, hol, hdl⟩ := hl
 show wpAny _ _ (field (.ref it) 0 >>= _) _ _ s
 refine wpAny_bind (wpAny_field hit rfl (x := .ref l) rfl ?_)
 show wpAny _ _ (if (Value.ref l == Value.none) = true then _ else _) _ _ s
 rw [if_neg (show ¬ ((Value.ref l == Value.none) = true) from Bool.false_ne_true)]
 show wpAny _ _ (field (.ref it) 1 >>= _) _ _ s
 refine wpAny_bind (wpAny_field hit rfl (x := .int i 0) rfl ?_)
 show wpAny _ _ (seqItems? (.ref l) >>= _) _ _ s
 refine wpAny_bind (wpAny_seqItems hol hdl ?_)
 simp only [Int.toNat_natCast, hx]
 refine wpAny_bind (wpAny_setField hit rfl (by simp) (wpAny_pure (hQ _ ?_ (Heap.SameBut.update ..))))
 rw [Heap.get?_update_self _ hit (Obj.isFreed_of_fields (Obj.data_mapFields rfl _))]
 simp [Obj.mapFields, rawInt]
theorem ti_item {it l : Addr} {i : Nat} {items : Array Value} {x : Value} {n : Nat} {Q : Fin → Shared → Prop} (hit : s.heap.get? it = some ⟨.type "tuple_iterator", none, .fields #[.ref l, .int i 0], #[]⟩) (hl : ∃ ol, s.heap.get? l = some ol ∧ ol.data = .seq items n) (hx : items[i]? = some x)
  (hQ : ∀ h', h'.get? it = some ⟨.type "tuple_iterator", none, .fields #[.ref l, .int (i + 1 : Nat) 0], #[]⟩ → Heap.SameBut it s.heap h' → Q (.done (.ret x)) { s with heap := h' }) : wpAny (model prog w) A (Builtin.«tuple_iterator.__next__» ⟨[.ref it], []⟩) Q E s := by
 obtain ⟨ol, hol, hdl⟩ := hl
 show wpAny _ _ (field (.ref it) 0 >>= _) _ _ s
 refine wpAny_bind (wpAny_field hit rfl (x := .ref l) rfl ?_)
 show wpAny _ _ (if (Value.ref l == Value.none) = true then _ else _) _ _ s
 rw [if_neg (show ¬ ((Value.ref l == Value.none) = true) from Bool.false_ne_true)]
 show wpAny _ _ (field (.ref it) 1 >>= _) _ _ s
 refine wpAny_bind (wpAny_field hit rfl (x := .int i 0) rfl ?_)
 show wpAny _ _ (seqItems? (.ref l) >>= _) _ _ s
 refine wpAny_bind (wpAny_seqItems hol hdl ?_)
 simp only [Int.toNat_natCast, hx]
 refine wpAny_bind (wpAny_setField hit rfl (by simp) (wpAny_pure (hQ _ ?_ (Heap.SameBut.update ..))))
 rw [Heap.get?_update_self _ hit (Obj.isFreed_of_fields (Obj.data_mapFields rfl _))]
 simp [Obj.mapFields, rawInt]
structure Ended (h h' : Heap) (it e : Addr) : Prop where
 keep : Heap.ExtBut it h h'
 it : ∃ o, h'.get? it = some o
 new : h.get? e = none
 exc : ∃ oe vs a0, h'.get? e = some oe ∧ oe.cls = .type "StopIteration" ∧ oe.data = .fields vs ∧ vs[0]? = some a0 ∧ vs[1]? = some .none
theorem stop_is {it : Addr} {o : Obj} {fs : Array Value} {Q : Fin → Shared → Prop} {h₁ : Heap} (hh : A.handled = none) (hs : Heap.SameBut it s.heap h₁) (ho : h₁.get? it = some o) (hE : ∀ h' e, Ended s.heap h' it e → E (.ref e) { s with heap := h' }) :
  wpAny (model prog w) A (newExc (.type "StopIteration") [] >>= fun e => (raiseNew e : Sem Fin)) Q E { s with heap := h₁ } := by
 refine wpAny_bind ?_
 simp only [newExc, newTuple]
 refine wpAny_bind (wpAny_newObj_type ?_ (by size_fits))
 refine wpAny_bind (m := firstArgMember _ _) (wpAny_of_eq (a := Value.none) (by first | rfl | (simp only [firstArgMember]; rfl)) ?_)
 refine wpAny_newObj_type ?_ (by size_fits)
 simp only [raiseNew]
 refine wpAny_bind (wpAny_handled ?_)
 rw [hh]
 refine wpAny_bind (wpAny_pure (wpAny_throw (hE _ _ ⟨(hs.extBut.push _).push _, ⟨o, Heap.get?_push_of_some _ (Heap.get?_push_of_some _ ho)⟩, ?_, ⟨_, _, _, Heap.get?_push_size _ rfl, rfl, rfl, rfl, rfl⟩⟩)))
 refine Heap.get?_none_of_le ?_
 rw [Heap.size_push, hs.1]
 exact Nat.le_succ _
theorem li_end {it l : Addr} {i : Nat} {items : Array Value} {n : Nat} {Q : Fin → Shared → Prop} (hh : A.handled = none) (hit : s.heap.get? it = some ⟨.type "list_iterator", none, .fields #[.ref l, .int i 0], #[]⟩) (hl : ∃ ol, s.heap.get? l = some ol ∧ ol.data = .seq items n) (hx : items[i]? = none)
  (hE : ∀ h' e, Ended s.heap h' it e → E (.ref e) { s with heap := h' }) : wpAny (model prog w) A (Builtin.«list_iterator.__next__» ⟨[.ref it], []⟩) Q E s := by
 obtain ⟨ol, hol, hdl⟩ := hl
 show wpAny _ _ (field (.ref it) 0 >>= _) _ _ s
 refine wpAny_bind (wpAny_field hit rfl (x := .ref l) rfl ?_)
 show wpAny _ _ (if (Value.ref l == Value.none) = true then _ else _) _ _ s
 rw [if_neg (show ¬ ((Value.ref l == Value.none) = true) from Bool.false_ne_true)]
 show wpAny _ _ (field (.ref it) 1 >>= _) _ _ s
 refine wpAny_bind (wpAny_field hit rfl (x := .int i 0) rfl ?_)
 show wpAny _ _ (seqItems? (.ref l) >>= _) _ _ s
 refine wpAny_bind (wpAny_seqItems hol hdl ?_)
 simp only [Int.toNat_natCast, hx]
 refine wpAny_bind (wpAny_rule (wpAny_bind (wpAny_setField hit rfl (by simp) ?_)))
 exact stop_is (fs := #[]) hh (Heap.SameBut.update ..) (Heap.get?_update_self _ hit (Obj.isFreed_of_fields (Obj.data_mapFields rfl _))) hE
theorem ti_end {it l : Addr} {i : Nat} {items : Array Value} {n : Nat} {Q : Fin → Shared → Prop} (hh : A.handled = none) (hit : s.heap.get? it = some ⟨.type "tuple_iterator", none, .fields #[.ref l, .int i 0], #[]⟩) (hl : ∃ ol, s.heap.get? l = some ol ∧ ol.data = .seq items n) (hx : items[i]? = none)
  (hE : ∀ h' e, Ended s.heap h' it e → E (.ref e) { s with heap := h' }) : wpAny (model prog w) A (Builtin.«tuple_iterator.__next__» ⟨[.ref it], []⟩) Q E s := by
 obtain ⟨ol, hol, hdl⟩ := hl
 show wpAny _ _ (field (.ref it) 0 >>= _) _ _ s
 refine wpAny_bind (wpAny_field hit rfl (x := .ref l) rfl ?_)
 show wpAny _ _ (if (Value.ref l == Value.none) = true then _ else _) _ _ s
 rw [if_neg (show ¬ ((Value.ref l == Value.none) = true) from Bool.false_ne_true)]
 show wpAny _ _ (field (.ref it) 1 >>= _) _ _ s
 refine wpAny_bind (wpAny_field hit rfl (x := .int i 0) rfl ?_)
 show wpAny _ _ (seqItems? (.ref l) >>= _) _ _ s
 refine wpAny_bind (wpAny_seqItems hol hdl ?_)
 simp only [Int.toNat_natCast, hx]
 refine wpAny_bind (wpAny_rule (wpAny_bind (wpAny_setField hit rfl (by simp) ?_)))
 exact stop_is (fs := #[]) hh (Heap.SameBut.update ..) (Heap.get?_update_self _ hit (Obj.isFreed_of_fields (Obj.data_mapFields rfl _))) hE
end
noncomputable def stepR (n k : Nat) (o : Option AV) (x' : AObj) (hp : AH) : Option (Except String AV × AH) := o.casesOn (some (.error "StopIteration", hp.set n (.junk, k + 1))) fun x => some (.ok x, hp.set n (x', k + 1))
theorem stepR_v (n k : Nat) (x : AV) (x' : AObj) (hp : AH) : stepR n k (some x) x' hp = some (.ok x, hp.set n (x', k + 1)) := rfl
theorem stepR_n (n k : Nat) (x' : AObj) (hp : AH) : stepR n k none x' hp = some (.error "StopIteration", hp.set n (.junk, k + 1)) := rfl
noncomputable def aStep (v : AV) : AHM (Except String AV) := fun hp => bC hp v fun n x k =>
 bE (bO x.liter? fun p => bO hp[p.1]? fun c => bO c.1.list? fun xs => stepR n k xs[p.2]? (.liter p.1 (p.2 + 1)) hp) (bO x.titer? fun p => stepR n k p.1[p.2]? (.titer p.1 (p.2 + 1)) hp)
theorem step_is {A : Around} {fr : List Env} {μ : List Addr} {hp hp' : AH} {s : Shared} {v : AV} {w : Value} {r : Except String AV} (hse : G.addr "StopIteration" = none) (hh : A.handled = none) (H : HInv G fr μ hp s) (rv : VR G μ s.heap v w) (hm : aStep v hp = some (r, hp')) {Q : Value → Shared → Prop} {E : Value → Shared → Prop}
  (hQ : ∀ v b s' μ', r = .ok v → Ext [] fr μ hp s μ' hp' s' → HInv G fr μ' hp' s' → VR G μ' s'.heap v b → Q b s')
  (hE : ∀ e k s' μ' sf, r = .error k → Ext [] fr μ hp s μ' hp' s' → HInv G fr μ' hp' s' → Fly G μ' s.heap e (excCls G k) s'.heap sf → (sf = .new ∨ sf = .out .none) → E (.ref e) s') :
  ∃ T id b, (∀ n l i k, v = .ref n → hp[n]? = some (.liter l i, k) → id = "list_iterator.__next__") ∧ s.TypeIs w T ∧ Slot T "__next__" id ∧ entryFor table id = some b ∧ argsOk id ⟨[w], []⟩ ∧ wpAny G.M A (b ⟨[w], []⟩) (fun fin s' => ∃ v, fin = .done (.ret v) ∧ Q v s') E s := by
 have ended : ∀ {n k : Nat} {a : Addr} {c : AObj}, hp[n]? = some (c, k) → μ[n]? = some a → hp' = hp.set n (.junk, k + 1) → r = .error "StopIteration" → ∀ h' e, Ended s.heap h' a e → E (.ref e) { s with heap := h' } := fun {n k a c} hn ha e1 e2 h' e hx => by
  subst e1
  obtain ⟨o, ho⟩ := hx.it
  have g := H.put (tk := s.toks) (c := (c, k)) (x := .junk) hn ha (fun b o hb e => hx.keep b o hb e) ho (.junk (Heap.get?_some_iff.mp ho).2)
  obtain ⟨oe, vs, a0, q1, q2, q3, q4, q5⟩ := hx.exc
  have F := H.fresh hx.new
  exact hE e _ _ μ .new e2 g.2 g.1 ⟨oe, vs, a0, q1, by rw [q2]; unfold excCls; rw [hse], q3, q4, F.μ, F.low, hx.new, q5⟩ (.inl rfl)
 refine bO_some hm fun n ev hm1 => bO_some hm1 fun c hn hm2 => ?_
 clear hm hm1
 rw [AV.of_ref? ev] at rv ⊢
 obtain ⟨a, rfl, ha⟩ := rv.of_ref
 obtain ⟨o, ho, hor⟩ := H.at ha hn
 refine bE_some hm2 (fun hm => bO_some hm fun p ep hm1 => bO_some hm1 fun c' hl hm3 => bO_some hm3 fun xs ec hm4 => ?_) fun hm => bO_some hm fun p ep hm4 => ?_
 ·clear hm2 hm hm1 hm3
  rw [AObj.of_liter? ep] at hor
  obtain ⟨_, rfl, hla⟩ := hor.of_liter
  obtain ⟨vs, m, g1, k1⟩ := H.list (at_list hl ec) hla
  have hn := at_liter hn ep
  refine ⟨"list_iterator", _, _, fun zz zz zz zz zz zz => rfl, ⟨_, ho, rfl⟩, slot_listiter_next, entry_listiter_next, args_listiter_next _, ?_⟩
  cases hx : xs[p.2]? with
  | some x =>
   rw [hx] at hm4
   cases hm4
   obtain ⟨u, hu, ru⟩ := k1.get hx
   refine li_item ho ⟨_, g1, rfl⟩ (by simpa using hu) fun h' q1 q2 => ⟨_, rfl, ?_⟩
   have hk : ∀ b o, b ≠ a → s.heap.get? b = some o → h'.get? b = some o := fun b o hb e => (q2.2 b hb).trans e
   have g := H.put (tk := s.toks) (x := .liter p.1 (p.2 + 1)) hn ha hk q1 (.liter hla)
   exact hQ _ _ _ μ rfl g.2 g.1 (ru.ext H (by intro a ha; cases ha) g.2)
  | none =>
   rw [hx] at hm4
   cases hm4
   exact li_end hh ho ⟨_, g1, rfl⟩ (by
    rw [List.getElem?_toArray, List.getElem?_eq_none_iff, ← k1.length]
    exact List.getElem?_eq_none_iff.mp hx) (ended hn ha rfl rfl)
 ·clear hm2 hm
  rw [AObj.of_titer? ep] at hor
  obtain ⟨_, rfl, rt⟩ := hor.of_titer
  obtain ⟨_, _, _, _, e, h1, h2, h3, h4, h5⟩ := rt.of_tup
  cases e
  have hn := at_titer hn ep
  refine ⟨"tuple_iterator", _, _, fun n' l i k e e' => ?_, ⟨_, ho, rfl⟩, F.slot_tuple_iterator_next, F.entry_tuple_iterator_next, F.args_tuple_iterator_next_1 _, ?_⟩
  ·cases e
   rw [hn] at e'
   cases e'
  cases hx : p.1[p.2]? with
  | some x =>
   rw [hx] at hm4
   cases hm4
   obtain ⟨u, hu, ru⟩ := h5.get hx
   refine ti_item ho ⟨_, h1, h3⟩ (by simpa using hu) fun h' q1 q2 => ⟨_, rfl, ?_⟩
   have hk : ∀ b o, b ≠ a → s.heap.get? b = some o → h'.get? b = some o := fun b o hb e => (q2.2 b hb).trans e
   have st := H.still_put (List.mem_of_getElem? ha) hk
   have g := H.put (tk := s.toks) (x := .titer p.1 (p.2 + 1)) hn ha hk q1 (.titer ((VR.tup h1 h2 h3 h4 h5).mono (fun zz zz e => e) st))
   exact hQ _ _ _ μ rfl g.2 g.1 (ru.ext H (by intro a ha; cases ha) g.2)
  | none =>
   rw [hx] at hm4
   cases hm4
   exact ti_end hh ho ⟨_, h1, h3⟩ (by
    rw [List.getElem?_toArray, List.getElem?_eq_none_iff, ← h5.length]
    exact List.getElem?_eq_none_iff.mp hx) (ended hn ha rfl rfl)
noncomputable def aIter : List AV → AHM AV := fun args hp => bA1 args fun o => bO (bE (bL hp o fun r zz zz => some (.liter r 0)) (bO o.tup? fun xs => some (.titer xs 0))) fun x => aNew x hp
theorem call_iter : SimCall G hd d (.builtin "iter") aIter := by
 rintro args A fr μ hp s z hp' tr hA H zI11 hm Q E h
 obtain ⟨vs, rs, rfl⟩ := zI11
 have body : ∀ {a b : Addr} {o : Obj}, wpAny G.M A.in1 (pyIter (.ref a)) (fun v s' => Q v s') E s → wpAny G.M A (call (.builtin "iter") [.ref a]) Q E s := fun {a b o} hp => by
  refine Calls.call_function_entry (by decide +kernel) (by decide +kernel) kdk_entry_iter (kdk_args_iter _) ?_
  unfold Builtin.«iter»
  refine wpAny_bind (m := someArgs "iter" 1 2 _) (wpAny_of_eq (a := [Value.ref a]) (by first | rfl | kernel_rfl!) ?_)
  show wpAny _ _ (pyIter (.ref a) >>= _) _ _ _
  exact wpAny_bind (wpAny_mono hp (fun v s' hq => wpAny_pure ⟨_, rfl, hq⟩) fun zz zz e => e)
 apply vr1 rs hm; intro o w ro hm
 refine bO_some hm fun y hy hm => ?_
 cases hm
 refine bE_some hy (fun hy => ?_) fun hy => bO_some hy fun xs e hy => ?_
 ·apply vrL H ro hy; intro r xs k a ws n hr ha g1 k1 hy
  cases hy
  refine body (b := 0) (o := default) (wpAny_pyIter_list ⟨_, g1, rfl, n, rfl⟩ ?_)
  have g := H.alloc (tk := s.toks) (x := .liter r 0) (fun b o e => Heap.get?_push_of_some _ e) (Heap.get?_none_of_le (Nat.le_refl _)) (Heap.get?_push_size s.heap (o := { cls := .type "list_iterator", data := .fields #[.ref _, .int 0 0] }) rfl) (.liter ha)
  exact h _ _ _ g.2 g.1 (ref_new H.len)
 ·cases hy
  rw [AV.of_tup? e] at ro
  have r₁' := ro
  obtain ⟨_, _, _, _, rfl, h1, h2, h3, h4, h5⟩ := ro.of_tup
  refine body (b := 0) (o := default) (wpAny_pyIter_tuple ⟨_, h1, h2, _, h3⟩ ?_)
  have g := H.alloc (tk := s.toks) (x := .titer xs 0) (fun b o e => Heap.get?_push_of_some _ e) (Heap.get?_none_of_le (Nat.le_refl _)) (Heap.get?_push_size s.heap (o := { cls := .type "tuple_iterator", data := .fields #[.ref _, .int 0 0] }) rfl) (.titer r₁')
  exact h _ _ _ g.2 g.1 (ref_new H.len)
noncomputable def aNext : List AV → AHM (Except String AV) := fun args hp => bA1 args fun v => aStep v hp
theorem call_next (hse : G.addr "StopIteration" = none) : SimCallX G true d (.builtin "next") aNext := by
 intro args A fr μ hp s r hp' vs hA H rs hm Q E hQ hE
 apply vr1 rs hm; intro v w r₁ hm
 obtain ⟨T, id, b, _, hT, slot, hb, ha, ht⟩ := step_is (A := A.in1.in1) (Q := Q) (E := E) hse (hA.hnd rfl) H r₁ hm hQ hE
 have hc := wpAny_call_entry (A := A.in1) (rest := []) slot hT hb ht ha
 refine Calls.call_function_entry (by decide +kernel) (by decide +kernel) kdk_entry_next (kdk_args_next _) ?_
 unfold Builtin.«next»
 refine wpAny_bind (m := someArgs "next" 1 2 _) (wpAny_of_eq (a := [w]) (by first | rfl | kernel_rfl!) ?_)
 dsimp only
 refine wpAny_bind (wpAny_specialOf (name := Str.ofString "__next__") hT slot.lookup ?_)
 refine wpAny_ite_split (fun hab => by cases hab) (fun zz => ?_)
 refine wpAny_bind (wpAny_callSpecial?_slot (name := Str.ofString "__next__") hT slot (wpAny_mono hc (fun v s' hq => ?_) fun zz zz e => e))
 exact wpAny_pure ⟨_, rfl, hq⟩
end
namespace F2
theorem slot_wd_get : Slot "wrapper_descriptor" "__get__" "wrapper_descriptor.__get__" :=
 .of (owner := "wrapper_descriptor") (n := "__get__") (by rw [typeLookup_type, builtinLookup_eq_fast]; kernel_rfl) (by decide +kernel) (by decide +kernel) (by decide +kernel)
  (by first | exact .inl (by decide +kernel) | exact .inr (by decide +kernel)) (by rw [isSubtype_type]; kernel_rfl)
theorem wd_set : typeLookup (.type "wrapper_descriptor") "__set__" = pure none := by rw [typeLookup_type, builtinLookup_eq_fast]; kernel_rfl
theorem wd_del : typeLookup (.type "wrapper_descriptor") "__delete__" = pure none := by rw [typeLookup_type, builtinLookup_eq_fast]; kernel_rfl
theorem entry_wd_get : entryFor table "wrapper_descriptor.__get__" = some Builtin.«wrapper_descriptor.__get__» := entryFor_of_tree (by kernel_rfl)
theorem args_wd_get (a b c : Value) : argsOk "wrapper_descriptor.__get__" ⟨[a, b, c], []⟩ := by unfold argsOk; kernel_rfl
end F2
structure Wrapped (T n ga id : String) : Prop where
 slot : Slot T "__getattribute__" ga
 entry : entryFor table ga = some Builtin.«object.__getattribute__»
 args : ∀ a b, argsOk ga ⟨[a, b], []⟩
 lk : typeLookup (.type T) (Str.ofString n) = pure (some (.builtin id))
 ty : typeOf (.builtin id) = pure (.type "wrapper_descriptor")
 low : (["__module__", "__name__", "__qualname__", "__doc__", "__annotations__"] : List PySem.Str).contains (Str.ofString n) = false
 mod : (Value.type T == Value.type "module") = false
 sub : isSubtype (.type T) (.type (".".intercalate (id.cutAt '.').dropLast)) = pure true
theorem wrapped_contains : Wrapped "list" "__contains__" "list.__getattribute__" "list.__contains__" where
 slot := F.slot_list_getattribute
 entry := F.entry_list_ga
 args := F.args_list_getattribute_2
 lk := by rw [typeLookup_type, builtinLookup_eq_fast]; kernel_rfl
 ty := by kernel_rfl
 low := by decide +kernel
 mod := by decide
 sub := by
  have e0 : "list.__contains__".cutAt '.' = ["list", "__contains__"] := by first | rfl | decide +kernel
  rw [e0, isSubtype_type]; kernel_rfl
theorem wrapped_lnext : Wrapped "list_iterator" "__next__" "object.__getattribute__" "list_iterator.__next__" where
 slot := .of (owner := "object") (n := "__getattribute__") (by rw [typeLookup_type, builtinLookup_eq_fast]; kernel_rfl) (by decide +kernel) (by decide +kernel) (by decide +kernel)
  (by first | exact .inl (by decide +kernel) | exact .inr (by decide +kernel)) (by rw [isSubtype_type]; kernel_rfl)
 entry := entryFor_of_tree (by kernel_rfl)
 args := fun a b => by unfold argsOk; kernel_rfl
 lk := by rw [typeLookup_type, builtinLookup_eq_fast]; kernel_rfl
 ty := by kernel_rfl
 low := by decide +kernel
 mod := by decide
 sub := by
  have e0 : "list_iterator.__next__".cutAt '.' = ["list_iterator", "__next__"] := by first | rfl | decide +kernel
  rw [e0, isSubtype_type]; kernel_rfl
section
variable {prog : Program} {w : World} {A : Around} {E : Value → Shared → Prop} {h : Heap} {g : Array GenState} {d : Drawn} {t : Nat} {os : OsState} {a : Addr} {o : Obj} {T n ga id : String}
noncomputable def NoCls (o : Obj) : Prop := ∀ c, o.data ≠ .cls c
theorem ownDict_none {Q : Option Addr → Shared → Prop} {s : Shared} (hx : s.heap.get? a = some o) (hc : o.cls = .type T) (hd : NoCls o) (hn : o.dict = none) (hq : Q none s) : wpAny (model prog w) A (match o.data with | .cls c => pure (some c.ns) | _ => instanceDict a false) Q E s := by
 have key : wpAny (model prog w) A (instanceDict a false) Q E s := by
  unfold instanceDict
  refine wpAny_bind (wpAny_loadPart hx ?_)
  rw [hc]
  dsimp only
  rw [hn]
  exact wpAny_pure hq
 split
 ·rename_i c e; exact absurd e (hd c)
 ·exact key
theorem wrapped_get {R : Result → Shared → Prop} (W : Wrapped T n ga id) (hx : h.get? a = some o) (hc : o.cls = .type T) (hq : R (.ok (.ret (.ref h.objs.size))) ⟨h.push { cls := .type "method-wrapper", data := .fields #[.builtin id, .ref a] }, g, d, t, os⟩) :
  codeAny (model prog w) A (.call (.builtin "wrapper_descriptor.__get__") ⟨[.builtin id, .ref a, .type T], []⟩) R ⟨h, g, d, t, os⟩ := by
 have hT : (⟨h, g, d, t, os⟩ : Shared).TypeIs (.ref a) T := ⟨_, hx, hc⟩
 have hT5 : (⟨h, g, d, t, os⟩ : Shared).TypeIs (.builtin id) "wrapper_descriptor" := W.ty
 have f8 := W.sub
 refine codeAny_call_builtin F2.slot_wd_get.plain F2.entry_wd_get (F2.slot_wd_get.check _ _ _ _ _ _ _ _ hT5 (F2.args_wd_get _ _ _) ?_)
 repeat (any_goals (first | assumption | wp_step))
theorem wrapped_entry {tk : Tok} {Q : Fin → Shared → Prop} (W : Wrapped T n ga id) (hx : h.get? a = some o) (hc : o.cls = .type T) (hd : NoCls o) (hn : o.dict = none) (hq : Q (.done (.ret (.ref h.objs.size))) ⟨h.push { cls := .type "method-wrapper", data := .fields #[.builtin id, .ref a] }, g, d, t, os⟩) :
  wpAny (model prog w) A (Builtin.«object.__getattribute__» ⟨[.ref a, .str (Str.ofString n) tk], []⟩) Q E ⟨h, g, d, t, os⟩ := by
 have hT : (⟨h, g, d, t, os⟩ : Shared).TypeIs (.ref a) T := ⟨_, hx, hc⟩
 have hT5 : (⟨h, g, d, t, os⟩ : Shared).TypeIs (.builtin id) "wrapper_descriptor" := W.ty
 have f4 := W.lk
 have f5 := W.ty
 have f6 := F2.slot_wd_get.lookup
 have f7 := F2.wd_set
 have f9 := W.mod
 have f10 := F2.wd_del
 repeat (any_goals (first | assumption | wp_step))
 have f11 := W.low
 refine ownDict_none hx hc hd hn ?_
 repeat (any_goals (first | assumption | wp_step))
 refine wpAny_ite_split (fun hab => absurd hab (by rw [f11]; exact Bool.false_ne_true)) (fun zz => ?_)
 repeat (any_goals (first | assumption | wp_step))
 refine wrapped_get W hx hc ?_
 repeat (any_goals (first | assumption | wp_step))
theorem wrapped_call {tk : Tok} {R : Result → Shared → Prop} (W : Wrapped T n ga id) (hx : h.get? a = some o) (hc : o.cls = .type T) (hd : NoCls o) (hn : o.dict = none) (hq : R (.ok (.ret (.ref h.objs.size))) ⟨h.push { cls := .type "method-wrapper", data := .fields #[.builtin id, .ref a] }, g, d, t, os⟩) :
  codeAny (model prog w) A (.call (.builtin ga) ⟨[.ref a, .str (Str.ofString n) tk], []⟩) R ⟨h, g, d, t, os⟩ :=
 codeAny_call_builtin W.slot.plain W.entry (W.slot.check _ _ _ _ _ _ _ _ (show (⟨h, g, d, t, os⟩ : Shared).TypeIs (.ref a) T from ⟨_, hx, hc⟩) (W.args _ _) (wrapped_entry W hx hc hd hn hq))
theorem wrapped_by {tk : Tok} {fill expr : Bool} {Q : Value → Shared → Prop} (W : Wrapped T n ga id) (hx : h.get? a = some o) (hc : o.cls = .type T) (hd : NoCls o) (hn : o.dict = none) (hq : Q (.ref h.objs.size) ⟨h.push { cls := .type "method-wrapper", data := .fields #[.builtin id, .ref a] }, g, d, t, os⟩) :
  wpAny (model prog w) A (getAttrBy (.ref a) (.str (Str.ofString n) tk) fill expr) Q E ⟨h, g, d, t, os⟩ := by
 have hT : (⟨h, g, d, t, os⟩ : Shared).TypeIs (.ref a) T := ⟨_, hx, hc⟩
 have f2 := W.slot.lookup
 have f3 := W.slot.bind (.ref a)
 have hx0 : (expr && onTheHeap (Value.builtin ga)) = false := by cases expr <;> rfl
 repeat (any_goals (first | assumption | wp_step))
 refine wrapped_call W hx hc hd hn ?_
 repeat (any_goals (first | assumption | wp_step))
theorem wrapped_attr {expr : Bool} {Q : Value → Shared → Prop} (W : Wrapped T n ga id) (hx : h.get? a = some o) (hc : o.cls = .type T) (hd : NoCls o) (hn : o.dict = none) (hq : Q (.ref h.objs.size) ⟨h.push { cls := .type "method-wrapper", data := .fields #[.builtin id, .ref a] }, g, d, t + 1, os⟩) :
  wpAny (model prog w) A (getAttr (.ref a) (Str.ofString n) expr) Q E ⟨h, g, d, t, os⟩ := by
 unfold getAttr
 repeat (any_goals (first | assumption | with_reducible apply wrapped_by W hx hc hd hn | wp_step))
end
section
variable {G : Glob} {sc : SC} {hd : Bool} {d : Nat}
noncomputable def aWrap (name : String) (o : AV) : AHM AV := fun hp => bC hp o fun r x zz => bO (bE (bG (name = "__contains__") (bO x.list? fun zz => some "list.__contains__")) (bG (name = "__next__") (bO x.liter? fun zz => some "list_iterator.__next__"))) fun id => aNew (.bound id r) hp
theorem wrap_is {A : Around} {fr : List Env} {μ : List Addr} {hp hp' : AH} {s : Shared} {name : String} {o v : AV} {ov : Value} (H : HInv G fr μ hp s) (ro : VR G μ s.heap o ov) (hm : aWrap name o hp = some (v, hp')) {Q : Value → Shared → Prop} {E : Value → Shared → Prop}
  (h : ∀ w s' μ', Ext [] fr μ hp s μ' hp' s' → HInv G fr μ' hp' s' → VR G μ' s'.heap v w → Q w s') : wpAny G.M A (getAttr ov (Str.ofString name) true) Q E s := by
 revert h
 apply vrC H ro hm; intro r x ver a o hr ha ho hor hm h
 ·
  have fin : ∀ {T ga id : String} {ob : Obj}, Wrapped T name ga id → s.heap.get? a = some ob → ob.cls = .type T → NoCls ob → ob.dict = none → aNew (.bound id r) hp = some (v, hp') → wpAny G.M A (getAttr (.ref a) (Str.ofString name) true) Q E s := by
   intro T ga id ob W hob hc hd hn hv
   cases hv
   obtain ⟨hh, g, dd, t, os⟩ := s
   refine wrapped_attr W hob hc hd hn ?_
   have g := H.alloc (tk := t + 1) (x := .bound id r) (fun b o e => Heap.get?_push_of_some _ e) (Heap.get?_none_of_le (Nat.le_refl _)) (Heap.get?_push_size hh (o := { cls := .type "method-wrapper", data := .fields #[.builtin id, .ref a] }) rfl) (.bound ha)
   exact h _ _ _ g.2 g.1 (ref_new H.len)
  refine bO_some hm fun id hid hz => bE_some hid (fun hm1 => bG_some hm1 fun e hm2 => bO_some hm2 fun xs ex hi => ?_) fun hm1 => bG_some hm1 fun e hm2 => bO_some hm2 fun p ep hi => ?_
  ·clear hm hm1 hm2 hid
   cases hi
   subst e
   rw [AObj.of_list? ex] at hor
   obtain ⟨ws, n, rfl, k1⟩ := hor.of_list
   exact fin wrapped_contains ho rfl (fun c e => by cases e) rfl hz
  ·clear hm hm1 hm2 hid
   cases hi
   subst e
   rw [AObj.of_liter? ep] at hor
   obtain ⟨_, rfl, hla⟩ := hor.of_liter
   exact fin wrapped_lnext ho rfl (fun c e => by cases e) rfl hz
noncomputable def bWrap (name : String) (m : AM AV) : AM AV := do
 let o ← m
 lift (aWrap name o)
theorem sim_wrap {name : String} {m : AM AV} {e : Expr} {pos : Pos} (S : SimE G sc hd d m e)
  (he : autoParam (∀ env : Env, eval (.Attribute e (Str.ofString name) pos) env = (do let o ← eval e env; standAt pos.atName; let r ← holding [o] (getAttr o (Str.ofString name) true); letTemporaryGo e o r; pure r)) aR) :
  SimE G sc hd d (bWrap name m) (.Attribute e (Str.ofString name) pos) := by
 intro A fr env own μ st s z st' hA I hm Q E h
 refine Attribute_any_ (sim_bind2 S hA I hm fun o st₁ ov s₁ μ₁ hm₁ x₁ I₁ r₁ => ?_) (he env)
 refine Mine.hold fun gL bk => ?_
 obtain ⟨hp₂, hv, rfl⟩ := lift_some hm₁
 refine bk ?_; clear bk gL
 exact wrap_is I₁.h r₁ hv fun w s₂ μ₂ x₂ H₂ rw' => h _ _ _ (I.trans x₁ x₂.weaken) (I₁.heap x₂ H₂) rw'
theorem check_lcont (l : Addr) (x : Value) : checkBoundCall "list.__contains__" ⟨[.ref l, x], []⟩ = pure () := by kernel_rfl
theorem check_lnext (a : Addr) : checkBoundCall "list_iterator.__next__" ⟨[.ref a], []⟩ = pure () := by kernel_rfl
theorem call_wrapped {A : Around} {s : Shared} {u l : Addr} {id : String} {b : Builtin} {vs : List Value} {Q : Value → Shared → Prop} {E : Value → Shared → Prop} (ho : s.heap.get? u = some ⟨.type "method-wrapper", none, .fields #[.builtin id, .ref l], #[]⟩)
  (hc : checkBoundCall id ⟨.ref l :: vs, []⟩ = pure ()) (hq : Code.quiet (.builtin id ⟨.ref l :: vs, []⟩) = true) (hb : entryFor table id = some b)
  (h : codeAny G.M A (.builtin id ⟨.ref l :: vs, []⟩) (fun r s' => match r with | .ok (.ret v) => Q v s' | .ok _ => False | .error e => E e s') s) : wpAny G.M A (call (.ref u) vs) Q E s := by
 refine wpAny_call (codeAny_of_tree ?_)
 show wpAny _ A.in1 (callAny (.ref u) ⟨vs, []⟩) _ _ s
 simp only [callAny]
 refine wpAny_bind (wpAny_load ho ?_)
 simp only [show (Value.type "method-wrapper" == Value.type "method" || Value.type "method-wrapper" == Value.type "builtin_function_or_method" || Value.type "method-wrapper" == Value.type "method-wrapper") = true by decide, if_true]
 refine wpAny_ite_split (fun zz => ?_) (fun hab => absurd (by decide) hab)
 refine wpAny_bind (wpAny_of_eq (a := ()) hc ?_)
 refine wpAny_bind (wpAny_pure (wpAny_pure ?_))
 exact ⟨hq, h⟩
noncomputable def aCallB (f : AV) (args : List AV) : AHM (Except String AV) := fun hp => bC hp f fun zz x zz => bO x.bound? fun p =>
 bE (bG (p.1 = "list.__contains__") (bA1 args fun x => bO hp[p.2]? fun c => bO c.1.list? fun zz => bO (aMem x (.ref p.2) hp) fun b => some (.ok (.bool b), hp)))
  (bG (p.1 = "list_iterator.__next__") (bA0 args (bO hp[p.2]? fun c => bO c.1.liter? fun zz => aStep (.ref p.2) hp)))
noncomputable def WrapP (a : Addr) (h : Heap) : Prop := ∃ id la, h.get? a = some ⟨.type "method-wrapper", none, .fields #[.builtin id, .ref la], #[]⟩
theorem keeps_wrap {M : Model} {a : Addr} : KeepsAt M (WrapP a) (.ref a) := fun h ⟨id, la, hP⟩ => ⟨.machine, .inr (.inl rfl), by
 unfold keeperOf
 intro A Q E s' hk hq
 refine wpAny_bind (wpAny_load (hk _ _ hP) ?_)
 exact wpAny_pure hq⟩
theorem callB_is {A : Around} {fr : List Env} {μ : List Addr} {hp hp' : AH} {s : Shared} {f : AV} {fv : Value} {args : List AV} {vs : List Value} {r : Except String AV} (hse : G.addr "StopIteration" = none) (hu : A.units + 20 < cLine) (hh : A.handled = none) (H : HInv G fr μ hp s) (rf : VR G μ s.heap f fv) (ra : VRs G μ s.heap args vs) (hm : aCallB f args hp = some (r, hp')) {Q : Value → Shared → Prop} {E : Value → Shared → Prop}
  (hQ : ∀ v b s' μ', r = .ok v → Ext [] fr μ hp s μ' hp' s' → HInv G fr μ' hp' s' → VR G μ' s'.heap v b → Q b s')
  (hE : ∀ e k s' μ' sf, r = .error k → Ext [] fr μ hp s μ' hp' s' → HInv G fr μ' hp' s' → Fly G μ' s.heap e (excCls G k) s'.heap sf → (sf = .new ∨ sf = .out .none) → E (.ref e) s') :
  ∃ a, fv = .ref a ∧ WrapP a s.heap ∧ wpAny G.M A (call fv vs) Q E s := by
 revert hE hQ
 apply vrC H rf hm; intro n x k a ob hn ha hob hor hm hQ hE
 refine bO_some hm fun p ep hm1 => ?_
 clear hm
 rw [AObj.of_bound? ep] at hor
 obtain ⟨la, rfl, hla⟩ := hor.of_bound
 refine ⟨a, rfl, ⟨_, _, hob⟩, ?_⟩
 refine bE_some hm1 (fun hm => bG_some hm fun e hm2 => ?_) fun hm => bG_some hm fun e hm2 => ?_
 ·clear hm1 hm
  rw [e] at hob
  revert hE hQ
  apply vr1 ra hm2; intro x u r₁ hm hQ hE
  refine bO_some hm fun c hl hm1 => bO_some hm1 fun xs ec hm3 => bO_some hm3 fun b hb hz => ?_
  clear hm hm1 hm2 hm3
  have hl := at_list hl ec
  cases hz
  refine Mine.hold fun gL bk => ?_
  obtain ⟨ws, m, g1, k1⟩ := H.list hl hla
  refine bk ?_; clear bk gL
  refine bO_some (aMem_ref hl hb) fun da e1 hb1 => bO_some hb1 fun ds e2 hb2 => ?_
  clear hb hb1
  refine Mine.hold fun gL bk => ?_
  cases hb2
  obtain ⟨⟨as, q1⟩, l1, d1⟩ := adata_reads H 8 _ _ _ e1 r₁
  obtain ⟨⟨bs, q2⟩, l2, d2⟩ := mapO_reads H e2 k1
  refine bk ?_; clear bk gL
  have hpl : plainId "list.__contains__" = true := by decide +kernel
  refine call_wrapped hob (check_lcont _ _) (plainId_quiet hpl _) F.entry_list_contains ?_
  refine codeAny_builtin F.entry_list_contains ?_
  rw [Around.under_plainId hpl _]
  have e3 := SeqAt.any_by_data (s := s) (vs := ws.toArray) (d := da) (by simpa using q2) l2
  refine SeqAt.list_containsAt la ws.toArray m none #[] _ (fun y => PyData.eqv (SeqAt.readOf s.heap y) da) G.prog G.w _ _ s ⟨g1, SeqAt.items_eqAt (by simpa using q2) q1 l2 l1 (by have := Nat.min_le_left (PyData.depthAll ds) da.depth; show _ + _ + _ < _; omega), ?_⟩
  rw [e3]
  exact hQ _ _ _ μ rfl Ext.refl H (.bool _)
 ·clear hm1 hm
  rw [e] at hob
  revert hE hQ
  apply vr0 ra hm2; intro hm hQ hE
  refine bO_some hm fun c hl hm1 => bO_some hm1 fun q ec hz => ?_
  clear hm hm1 hm2
  refine Mine.hold fun gL bk => ?_
  obtain ⟨T, id, b, hk, hT, slot, hb, hargs, ht⟩ := step_is (A := A.in1) hse hh H (.ref hla) hz hQ hE
  cases hk _ _ _ _ rfl (at_liter hl ec)
  rw [entry_listiter_next] at hb
  cases hb
  refine bk ?_; clear bk gL
  have hpl : plainId "list_iterator.__next__" = true := by decide +kernel
  refine call_wrapped hob (check_lnext _) (plainId_quiet hpl _) entry_listiter_next ?_
  refine codeAny_builtin entry_listiter_next ?_
  rw [Around.under_plainId hpl _]
  exact wpAny_mono ht (fun fin s' ⟨v, e, q⟩ => (by subst e; exact q)) fun zz zz q => q
noncomputable def bCallB (mf : AM AV) (args : AM (List AV)) : AM (Except String AV) := do
 let f ← mf
 let vs ← args
 lift (aCallB f vs)
theorem callB_use {ef : Expr} {pos : Pos} {mf : AM AV} {m : AM (List AV)} {es : List Expr} (hse : G.addr "StopIteration" = none) (SF : SimE G sc true d mf ef) (SA : SimArgsC G sc true d m es)
  (he : ∀ env : Env, eval (.Call ef es [] pos) env = (do callWith pos (← eval ef env) [] (backTo pos (starEach es env)) []))
  {A : Around} {fr : List Env} {env : Env} {own μ : List Addr} {st st' : AS} {s : Shared} {r : Except String AV} (hA : AOk A fr true d) (I : Inv G sc fr env own μ st s) (hm : bCallB mf m st = some (r, st')) {Q : Value → Shared → Prop} {E : Value → Shared → Prop}
  (hQ : ∀ v w s' μ', r = .ok v → XT own fr μ st s μ' st' s' → Inv G sc fr env own μ' st' s' → VR G μ' s'.heap v w → Q w s')
  (hE : ∀ e k s' μ' sf, r = .error k → XT own fr μ st s μ' st' s' → Inv G sc fr env own μ' st' s' → Fly G μ' s.heap e (excCls G k) s'.heap sf → (sf = .new ∨ sf = .out .none) → E (.ref e) s') : wpAny G.M A (eval (.Call ef es [] pos) env) Q E s := by
 rw [he]
 refine wpAny_bind (sim_bind2 SF hA I hm fun f st₁ fv s₁ μ₁ hm₁ x₁ I₁ r₁ => ?_)
 refine Mine.hold fun gL bk => ?_
 obtain ⟨vs, st₂, h3, h4⟩ := am_bind_some hm₁
 have hf : ∃ n, f = .ref n := by
  obtain ⟨hp', h5, _⟩ := lift_some h4
  exact bO_some h5 fun n e zz => ⟨n, AV.of_ref? e⟩
 obtain ⟨n, rfl⟩ := hf
 obtain ⟨a, rfl, ha⟩ := r₁.of_ref
 refine bk ?_; clear bk gL
 refine SA A fr env own μ₁ st₁ s₁ vs st₂ pos (.ref a) [] (WrapP a) hA I₁ h3 keeps_wrap Q E fun ws s₂ μ₂ x₂ I₂ r₂ => ?_
 refine Mine.hold fun gL bk => ?_
 obtain ⟨hp', h5, rfl⟩ := lift_some h4
 obtain ⟨a', e, hw, hc⟩ := callB_is (A := A) (Q := Q) (E := E) hse (by have := hA.units; omega) (hA.hnd rfl) I₂.h (I₁.vr x₂ (.ref ha)) r₂ h5
  (fun v b s₃ μ₃ e x₃ H₃ r₃ => hQ v b s₃ μ₃ e (I.trans (I.trans x₁ x₂) x₃.weaken) (I₂.heap x₃ H₃) r₃)
  (fun e k s₃ μ₃ sf e1 x₃ H₃ F hs => hE e k s₃ μ₃ sf e1 (I.trans (I.trans x₁ x₂) x₃.weaken) (I₂.heap x₃ H₃) (F.weaken (fun b o hb => by
   obtain ⟨o₁, h₁⟩ := x₁.alive b o hb
   exact x₂.alive b o₁ h₁)) hs)
 cases e
 refine bk ?_; clear bk gL
 exact ⟨hw, hc⟩
theorem sim_callB {ef : Expr} {pos : Pos} {mf : AM AV} {m : AM (List AV)} {es : List Expr} (hse : G.addr "StopIteration" = none) (SF : SimE G sc true d mf ef) (SA : SimArgsC G sc true d m es)
  (he : autoParam (∀ env : Env, eval (.Call ef es [] pos) env = (do callWith pos (← eval ef env) [] (backTo pos (starEach es env)) [])) aR) : SimX G sc true d (bCallB mf m) (.Call ef es [] pos) := by
 intro A outer env own μ st s r st' hA hf I hm Q E hQ hE
 exact callB_use hse SF SA he hA I hm hQ fun e k s' μ' sf e1 x I' F hs => hE e k s' μ' sf e1 x I' F (stOk_of hs)
noncomputable def bOk (m : AM (Except String AV)) : AM AV := do
 let r ← m
 match r with
 | .ok v => pure v
 | .error _ => AM.bad
theorem bOk_some {m : AM (Except String AV)} {st st' : AS} {v : AV} (h : bOk m st = some (v, st')) : m st = some (.ok v, st') := by
 refine Mine.hold fun gL bk => ?_
 obtain ⟨r, st₁, h1, h2⟩ := am_bind_some h
 refine bk ?_; clear bk gL
 cases r with
 | ok u => cases h2; exact h1
 | error k => cases h2
theorem sim_callBE {ef : Expr} {pos : Pos} {mf : AM AV} {m : AM (List AV)} {es : List Expr} (hse : G.addr "StopIteration" = none) (SF : SimE G sc true d mf ef) (SA : SimArgsC G sc true d m es)
  (he : autoParam (∀ env : Env, eval (.Call ef es [] pos) env = (do callWith pos (← eval ef env) [] (backTo pos (starEach es env)) [])) aR) : SimE G sc true d (bOk (bCallB mf m)) (.Call ef es [] pos) := by
 intro A fr env own μ st s v st' hA I hm Q E h
 refine callB_use hse SF SA he hA I (bOk_some hm) (fun u w s' μ' e x I' r' => ?_) fun e k s' μ' sf e1 => by cases e1
 cases e
 exact h _ _ _ x I' r'
end
section
variable {G : Glob} {sc : SC} {hd : Bool} {d : Nat}
structure OwnIter (G : Glob) (K : Frag) (cn : String) (C fn fi : Addr) : Prop where
 hC : G.addr cn = some C
 k : K.In G.h₀
 nx : findIn K (.ref C) "__next__" = some (some (.ref fn))
 nxf : isFn K (.ref fn) = true
 it : findIn K (.ref C) "__iter__" = some (some (.ref fi))
 itf : isFn K (.ref fi) = true
 ln : findIn K (.ref C) "__len__" = some none
 lh : findIn K (.ref C) "__length_hint__" = some none
noncomputable def isOwn (cn : String) (r : Nat) (hp : AH) : Bool := (bO hp[r]? fun c => bO c.1.sinst? fun p => some (p.1 == cn)).getD false
noncomputable def drainS (l : Nat) (ih : AHM Unit) (r : Except String AV) (hp : AH) : Option (Unit × AH) := r.casesOn (fun k => bG (k = "StopIteration") (some ((), hp))) fun v => bO hp[l]? fun c => bO c.1.list? fun xs => bG (xs.length < 1000000) (ih (hp.set l (.list (xs ++ [v]), c.2 + 1)))
noncomputable def aDrain (cn : String) (mn : List AV → AHM (Except String AV)) (l r : Nat) : Nat → AHM Unit := Nat.rec (fun zz => none) fun zz ih hp => bG (isOwn cn r hp = true) (bO (mn [.ref r] hp) fun x => drainS l ih x.1 x.2)
theorem isOwn_at {fr : List Env} {μ : List Addr} {hp : AH} {s : Shared} {cn : String} {C : Addr} {r : Nat} {a : Addr} (H : HInv G fr μ hp s) (hC : G.addr cn = some C) (ha : μ[r]? = some a) (h : isOwn cn r hp = true) : ∃ ox od, InstAt s.heap a ox C od := by
 have h' : (bO hp[r]? fun c => bO c.1.sinst? fun p => some (p.1 == cn)) = some true := by
  unfold isOwn at h
  cases e : (bO hp[r]? fun c => bO c.1.sinst? fun p => some (p.1 == cn)) with
  | none => rw [e] at h; cases h
  | some b => rw [e] at h; exact congrArg some h
 refine bO_some h' fun c hr h1 => bO_some h1 fun p ep h2 => ?_
 ·refine Mine.hold fun gL bk => ?_
  obtain ⟨ob, hob, hor⟩ := H.at ha hr
  rw [AObj.of_sinst? ep] at hor
  obtain ⟨_, _, _, rfl, hC', hdx, sr⟩ := hor.of_sinst
  rw [beq_iff_eq.mp (Option.some.inj h2), hC] at hC'
  cases hC'
  obtain ⟨od, hod⟩ := H.ex (List.mem_of_getElem? hdx)
  refine bk ?_; clear bk gL
  exact ⟨_, some od, hob, rfl, rfl, hod⟩
theorem own_next {M : Model} {A : Around} {E : Value → Shared → Prop} {s : Shared} {K : Frag} {x C f : Addr} {ox : Obj} {od : Option Obj} {Q : Option Value → Shared → Prop} (X : K.In s.heap) (I : InstAt s.heap x ox C od) (hs : findIn K (.ref C) "__next__" = some (some (.ref f))) (hf : isFn K (.ref f) = true)
  (h : wpAny M A (call (.ref f) [.ref x]) (fun v s' => Q (some v) s') (fun e s' => wpAny M A (isInstance e (.type "StopIteration")) (fun b s₂ => if b = true then Q none s₂ else E e s₂) E s') s) : wpAny M A (pyNext (.ref x)) Q E s := by
 unfold pyNext
 refine wpAny_bind (wpAny_attempt (special_fn (name := "__next__") (args := []) X I hs (beq_iff_eq.mp hf) (wpAny_mono h (fun v s' hq => ?_) (fun e s' he => ?_))))
 ·exact wpAny_pure hq
 ·refine wpAny_bind (wpAny_mono he (fun b s₂ hb => ?_) fun zz zz z => z)
  cases b with
  | true => exact wpAny_pure hb
  | false => exact wpAny_throw hb
theorem own_iter {M : Model} {A : Around} {E : Value → Shared → Prop} {s : Shared} {K : Frag} {x C f g : Addr} {ox : Obj} {od : Option Obj} {Q : Value → Shared → Prop} (X : K.In s.heap) (I : InstAt s.heap x ox C od) (hs : findIn K (.ref C) "__iter__" = some (some (.ref f))) (hf : isFn K (.ref f) = true) (hn : findIn K (.ref C) "__next__" = some (some (.ref g)))
  (h : wpAny M A (call (.ref f) [.ref x]) (fun v s' => v = .ref x ∧ K.In s'.heap ∧ (∃ ox' od', InstAt s'.heap x ox' C od') ∧ Q (.ref x) s') E s) : wpAny M A (pyIter (.ref x)) Q E s := by
 refine (?_ : wpAny M A (pyIter (.ref x)) Q E s)
 have fin : wpAny M A (call (.ref f) [.ref x] >>= fun v => pure (some v)) (fun r s' => r = some (.ref x) ∧ K.In s'.heap ∧ (∃ ox' od', InstAt s'.heap x ox' C od') ∧ Q (.ref x) s') E s :=
  wpAny_bind (wpAny_mono h (fun v s' h' => wpAny_pure ⟨by rw [h'.1], h'.2⟩) fun zz zz z => z)
 have one : ∀ refuse : Sem Value, wpAny M A (callSpecialIfBoundUnlessNone? (.ref x) "__iter__" refuse) (fun r s' => r = some (.ref x) ∧ K.In s'.heap ∧ (∃ ox' od', InstAt s'.heap x ox' C od') ∧ Q (.ref x) s') E s := by
  intro refuse
  simp only [callSpecialIfBoundUnlessNone?, bindSpecialIfBound?]
  refine wpAny_holding (wpAny_bind (wpAny_bind (wpAny_bind (I.type.here ((looks_findIn X hs).here ?_)))))
  refine wpAny_bind (wpAny_askSetting (wpAny_ite ?_))
  have fin2 : wpAny M A (if (Value.ref f == Value.none) = true then (refuse >>= fun v => pure (some v)) else (call (.ref f) [.ref x] >>= fun v => pure (some v))) (fun r s' => r = some (.ref x) ∧ K.In s'.heap ∧ (∃ ox' od', InstAt s'.heap x ox' C od') ∧ Q (.ref x) s') E s := by
   rw [if_neg (show ¬ ((Value.ref f == Value.none) = true) from Bool.false_ne_true)]
   exact fin
  split
  ·exact wpAny_bind ((bind_fn X _ (beq_iff_eq.mp hf)).here (wpAny_pure (by exact fin2)))
  ·exact wpAny_tryCatch (wpAny_bind ((bind_fn X _ (beq_iff_eq.mp hf)).here (wpAny_pure (by exact fin2))))
 unfold pyIter
 refine wpAny_bind (wpAny_bind (I.type.here ((looks_findIn X hs).here ?_)))
 show wpAny M A (callSpecialIfBoundUnlessNone? (.ref x) "__iter__" _ >>= _) Q E s
 refine wpAny_bind (wpAny_mono (one _) (fun r s' hr => ?_) fun zz zz z => z)
 refine Mine.hold fun gL bk => ?_
 obtain ⟨rfl, X', ⟨ox', od', I'⟩, hv⟩ := hr
 refine bk ?_; clear bk gL
 refine wpAny_bind (wpAny_bind (I'.type.here ((looks_findIn X' hn).here ?_)))
 exact wpAny_pure hv
theorem aDrain_succ {cn : String} {mn : List AV → AHM (Except String AV)} {l r k : Nat} {hp : AH} : aDrain cn mn l r (k + 1) hp = bG (isOwn cn r hp = true) (bO (mn [.ref r] hp) fun x => drainS l (aDrain cn mn l r k) x.1 x.2) := rfl
theorem drain_is {K : Frag} {cn : String} {C fn fi : Addr} {mn : List AV → AHM (Except String AV)} (gk : GOk G) (hse : G.addr "StopIteration" = none) (O : OwnIter G K cn C fn fi) (S : SimCallX G true d (.ref fn) mn) {l r : Nat} {al ar : Addr} {res : Value} :
  ∀ (k : Nat) (A : Around) (fr : List Env) (μ : List Addr) (hp hp' : AH) (s : Shared), AOk A.in1 fr true d → HInv G fr μ hp s → μ[l]? = some al → μ[r]? = some ar → aDrain cn mn l r k hp = some ((), hp') →
   ∀ (R : Result → Shared → Prop), (∀ s' μ', Ext [] fr μ hp s μ' hp' s' → HInv G fr μ' hp' s' → R (.ok (.ret res)) s') → codeAny G.M A (.builtin "list.extend.loop" ⟨[.ref al, .ref ar, res], []⟩) R s := by
 intro k
 induction k with
 | zero => intro A fr μ hp hp' s hA H hl hr hm; cases hm
 | succ k ih =>
  intro A fr μ hp hp' s hA H hl hr hm R hR
  refine codeAny_builtin F.entry_extend_loop ?_
  rw [Around.under_plainId F.plain_extend_loop _]
  show wpAny _ A.in1 (pyNext (.ref ar) >>= _) _ _ s
  rw [aDrain_succ] at hm
  refine bG_some hm fun ho hm1 => bO_some hm1 fun x hmn hz => ?_
  clear hm hm1
  have hm := hz
  clear hz
  refine Mine.hold fun gL bk => ?_
  obtain ⟨ox, od, I⟩ := isOwn_at H O.hC hr ho
  obtain ⟨rr, hp₁⟩ := x
  refine bk ?_; clear bk gL
  refine wpAny_bind (own_next (O.k.keeps H.base) I O.nx O.nxf ?_)
  refine S [.ref r] A.in1 fr μ hp s rr hp₁ [.ref ar] hA H (.cons (.ref hr) .nil) hmn _ _ (fun v w s₁ μ₁ e x₁ H₁ r₁ => ?_) fun e k' s₁ μ₁ sf e1 x₁ H₁ F hs => ?_
  ·subst e
   refine bO_some hm fun c hl₁ hm1 => bO_some hm1 fun xs ec hm2 => bG_some hm2 fun hlen hz => ?_
   clear hm hm1 hm2
   have hl₁ := at_list hl₁ ec
   show wpAny _ A.in1 (updateSeq al (·.push w) >>= _) _ _ _
   refine Mine.hold fun gL bk => ?_
   obtain ⟨ws, n, g1, k1⟩ := H₁.list hl₁ (x₁.mu hl)
   refine bk ?_; clear bk gL
   refine wpAny_bind (wpAny_updateSeq g1 rfl ?_ (by rw [List.size_toArray, ← k1.length, sizeLine_eq]; omega) (by rw [Array.size_push, List.size_toArray, ← k1.length, sizeLine_eq]; omega))
   have g := list_put H₁ hl₁ (x₁.mu hl) g1 (f := fun xs => xs.push w) (ws := ws ++ [w]) (by simp) (k1.append (.cons r₁ .nil)) s₁.toks
   exact wpAny_pure ⟨plainId_quiet F.plain_extend_loop _, ih A fr μ₁ _ hp' _ hA g.1 (x₁.mu hl) (x₁.mu hr) hz R fun s' μ' x' H' => hR s' μ' (Ext.trans H.len x₁ (Ext.trans H₁.len g.2 x')) H'⟩
  ·subst e1
   refine bG_some hm fun ek hm => ?_
   refine Mine.hold fun gL bk => ?_
   subst ek
   cases hm
   obtain ⟨oe, vs, a0, q1, q2, q3, q4, q5⟩ := F
   refine bk ?_; clear bk gL
   refine wpAny_isInstance (T := "StopIteration") (b := true) ⟨oe, q1, by rw [q2]; unfold excCls; rw [hse]⟩ (by rw [isSubtype_type]; kernel_rfl) ?_
   exact wpAny_pure (hR _ _ x₁ H₁)
noncomputable def aRewrite (l : Nat) : AHM Unit := fun hp => bO hp[l]? fun c => bO c.1.list? fun xs => bG (xs.length < 1000000) (some ((), hp.set l (.list xs, c.2 + 1)))
noncomputable def aDrained (cn : String) (mn : List AV → AHM (Except String AV)) (l r : Nat) (hp hp' : AH) : Prop := ∃ n, aDrain cn mn l r n hp = some ((), hp')
open Classical in
noncomputable def aDrainAll (cn : String) (mn : List AV → AHM (Except String AV)) (l r : Nat) : AHM AV := fun hp => if h : ∃ hp', aDrained cn mn l r hp hp' then some (.ref l, h.choose) else none
noncomputable def aListOwn (cn : String) (mi : List AV → AHM AV) (mn : List AV → AHM (Except String AV)) : List AV → AHM AV := fun args hp => bA1 args fun v => bO v.ref? fun r => bO (aRewrite hp.length (hp ++ [(.list [], 0)])) fun x => bG (isOwn cn r x.2 = true) (bO (mi [.ref r] x.2) fun y => bO y.1.ref? fun r' => bG (r' = r ∧ isOwn cn r y.2 = true) (bO (aRewrite hp.length y.2) fun z => aDrainAll cn mn hp.length r z.2))
theorem rewrite_is {fr : List Env} {μ : List Addr} {hp hp' : AH} {s : Shared} {l : Nat} {al : Addr} {f : Array Value → Array Value} {u : Unit} (H : HInv G fr μ hp s) (hl : μ[l]? = some al) (hm : aRewrite l hp = some (u, hp')) :
  ∃ vs n, s.heap.get? al = some ⟨.type "list", none, .seq (vs : List Value).toArray n, #[]⟩ ∧ vs.length < 1000000 ∧ (f vs.toArray = vs.toArray → HInv G fr μ hp' { s with heap := s.heap.update al (Obj.mapSeq f) } ∧ Ext [] fr μ hp s μ hp' { s with heap := s.heap.update al (Obj.mapSeq f) }) := by
 refine bO_some hm fun c h hm1 => bO_some hm1 fun xs ec hm2 => bG_some hm2 fun hlen hz => ?_
 clear hm hm1 hm2
 have h := at_list h ec
 refine Mine.hold fun gL bk => ?_
 cases hz
 obtain ⟨ws, n, g1, k1⟩ := H.list h hl
 refine bk ?_; clear bk gL
 exact ⟨ws, n, g1, by rw [← k1.length]; exact hlen, fun e => list_put H h hl g1 e k1 s.toks⟩
theorem touch_is {fr : List Env} {μ : List Addr} {hp hp' : AH} {s : Shared} {l : Nat} {al : Addr} {u : Unit} {A : Around} {Q : Unit → Shared → Prop} {E : Value → Shared → Prop} (H : HInv G fr μ hp s) (hl : μ[l]? = some al) (hm : aRewrite l hp = some (u, hp'))
  (h : ∀ s', HInv G fr μ hp' s' → Ext [] fr μ hp s μ hp' s' → Q () s') : wpAny G.M A (updateSeq al (·.push .none) >>= fun zz => updateSeq al (·.pop)) Q E s := by
 refine bO_some hm fun c hr hm1 => bO_some hm1 fun xs ec hm2 => bG_some hm2 fun hlen hz => ?_
 clear hm hm1 hm2
 ··have hr := at_list hr ec
   refine Mine.hold fun gL bk => ?_
   cases hz
   obtain ⟨ws, n, g1, k1⟩ := H.list hr hl
   obtain ⟨n₁, hn₁⟩ := mapSeq_list (vs := ws.toArray) (n := n) (·.push Value.none)
   obtain ⟨n₂, hn₂⟩ := mapSeq_list (vs := ws.toArray.push Value.none) (n := n₁) (·.pop)
   refine bk ?_; clear bk gL
   have g2 := Heap.get?_update_self (Obj.mapSeq (·.push Value.none)) g1 (by rw [hn₁]; rfl)
   rw [hn₁] at g2
   have hs : ws.toArray.size < 1000000 := by rw [List.size_toArray, ← k1.length]; exact hlen
   refine wpAny_bind (wpAny_updateSeq g1 rfl ?_ (by rw [sizeLine_eq]; omega) (by rw [Array.size_push, sizeLine_eq]; omega))
   refine wpAny_updateSeq g2 rfl ?_ (by rw [Array.size_push, sizeLine_eq]; omega) (by rw [Array.size_pop, Array.size_push, sizeLine_eq]; omega)
   have hk : ∀ b o, b ≠ al → s.heap.get? b = some o → ((s.heap.update al (Obj.mapSeq (·.push Value.none))).update al (Obj.mapSeq (·.pop))).get? b = some o :=
    fun b o hb e => (Heap.get?_update_other _ _ (Ne.symm hb)).trans ((Heap.get?_update_other _ _ (Ne.symm hb)).trans e)
   have g := H.put (tk := s.toks) (x := .list xs) hr hl hk (Heap.get?_update_self _ g2 (by rw [hn₂]; rfl)) (by
    rw [hn₂, Array.pop_push]
    exact .list (k1.mono (fun zz zz e => e) (H.still_put (List.mem_of_getElem? hl) hk)))
   exact h _ g.1 g.2
theorem call_listOwn {K : Frag} {cn : String} {C fn fi : Addr} {mi : List AV → AHM AV} {mn : List AV → AHM (Except String AV)} (gk : GOk G) (hse : G.addr "StopIteration" = none) (O : OwnIter G K cn C fn fi) (SN : SimCallX G true d (.ref fn) mn) (SI : SimCall G true d (.ref fi) mi) :
  SimCall G true (d + 1) (.type "list") (aListOwn cn mi mn) := by
 rintro args A fr μ hp s z hp' tr hA H zI11 hm Q E h
 refine Mine.hold fun gL bk => ?_
 obtain ⟨vs, rs, rfl⟩ := zI11
 refine bk ?_; clear bk gL
 have hA2 : AOk A.in1.in1 fr true d := ⟨hA.frames, by have := hA.depth; show A.depth + _ + _ < _; omega, by have := hA.units; show A.units + 1 + 1 + _ + _ < _; omega, hA.hnd⟩
 revert h
 apply vr1 rs hm; intro v w ro hm h
 refine bO_some hm fun r er hm1 => bO_some hm1 fun x e₂ hm2 => bG_some hm2 fun o₂ hm3 => bO_some hm3 fun y e₃ hm4 => bO_some hm4 fun r' er' hm5 => bG_some hm5 fun hr₃ hm6 => bO_some hm6 fun zz e₄ hm7 => ?_
 clear hm hm1 hm2 hm3 hm4 hm5 hm6
 have hm := hm7
 clear hm7
 rw [AV.of_ref? er] at ro
 obtain ⟨ar, rfl, hr⟩ := ro.of_ref
 have o₃ := hr₃.2
 have e₃ : mi [.ref r] x.2 = some (.ref r, y.2) := by
  rw [e₃, show y = (.ref r, y.2) from by rw [← hr₃.1, ← AV.of_ref? er']]
 refine callType_codes (Q₁ := fun obj s₁ => obj = .ref s.heap.objs.size ∧ s₁ = { s with heap := s.heap.push { cls := .type "list", data := .seq #[] } }) F.called_list (F.typeCall_list_1 _) F.entry_list_init
  (code_list_new _ ⟨rfl, rfl⟩) fun obj s₁ h₁ => ?_
 obtain ⟨rfl, rfl⟩ := h₁
 have hS : (s.heap.push { cls := .type "list", data := .seq #[] }).get? s.heap.objs.size = some { cls := .type "list", data := .seq #[] } := Heap.get?_push_size _ rfl
 refine ⟨⟨_, hS, rfl⟩, F.args_list_init_2 _ _, ?_⟩
 have a₁ := H.alloc (tk := s.toks) (x := .list []) (fun b o e => Heap.get?_push_of_some _ e) (Heap.get?_none_of_le (Nat.le_refl _)) hS (.list (vs := []) (n := 0) .nil)
 obtain ⟨H₁, x₁⟩ := a₁
 have hl₁ : (μ ++ [s.heap.objs.size])[hp.length]? = some s.heap.objs.size := by rw [← H.len, List.getElem?_append_right (Nat.le_refl _), Nat.sub_self]; rfl
 show wpAny _ A.in1.in1 (do let old ← Builtin.List.listItems (.ref s.heap.objs.size); Builtin.List.listUpdate (.ref s.heap.objs.size) (fun zz => #[]); letGo old.toList.reverse; Builtin.List.listExtendWith (.ref s.heap.objs.size) (.ref ar) .none) _ _ _
 refine wpAny_bind ?_
 unfold Builtin.List.listItems
 refine wpAny_bind (wpAny_seqItems hS rfl (wpAny_pure ?_))
 show wpAny _ A.in1.in1 (updateSeq s.heap.objs.size (fun zz => #[]) >>= fun zz => letGo (#[] : Array Value).toList.reverse >>= fun zz => Builtin.List.listExtendWith (.ref s.heap.objs.size) (.ref ar) .none) _ _ _
 refine wpAny_bind (wpAny_updateSeq hS rfl ?_)
 refine wpAny_bind (wpAny_letGo ?_)
 refine Mine.hold fun gL bk => ?_
 obtain ⟨vs, n, g, _, k⟩ := rewrite_is (f := fun zz => #[]) H₁ hl₁ e₂
 rw [hS] at g
 have ev : vs.toArray = #[] := by
  have := congrArg (fun o : Option Obj => o.map (·.data)) g
  simp at this
  have := this.1
  rw [← this]
 obtain ⟨H₂, x₂⟩ := k ev.symm
 have hne : s.heap.objs.size ≠ ar := fun e => by
  obtain ⟨o, ho⟩ := H.ex (List.mem_of_getElem? hr)
  rw [← e, Heap.get?_none_of_le (Nat.le_refl _)] at ho; cases ho
 have hl₂ := x₂.mu hl₁
 have hr₂ := x₂.mu (x₁.mu hr)
 obtain ⟨ox, od, I₂⟩ := isOwn_at H₂ O.hC hr₂ o₂
 refine bk ?_; clear bk gL
 unfold Builtin.List.listExtendWith
 refine wpAny_bind (I₂.type.here ?_)
 have h1 : Builtin.List.listSameRef (.ref s.heap.objs.size) (.ref ar) = false := by simp [Builtin.List.listSameRef, hne]
 have h2 : (Value.ref C == Value.type "list") = false := rfl
 have h3 : (Value.ref C == Value.type "tuple") = false := rfl
 simp only [h1, h2, h3, Bool.or_false, Bool.false_eq_true, if_false]
 have X₂ := O.k.keeps H₂.base
 refine wpAny_bind (own_iter X₂ I₂ O.it O.itf O.nx ?_)
 refine SI [.ref r] A.in1.in1 fr _ x.2 _ (.ref r) y.2 _ hA2 H₂ ⟨[.ref ar], .cons (.ref hr₂) .nil, rfl⟩ e₃ _ _ fun b s₃ μ₃ x₃ H₃ rb => ?_
 refine Mine.hold fun gL bk => ?_
 obtain ⟨a, rfl, hb⟩ := rb.of_ref
 have hr₃ := x₃.mu hr₂
 rw [hr₃] at hb
 cases hb
 obtain ⟨ox₃, od₃, I₃⟩ := isOwn_at H₃ O.hC hr₃ o₃
 refine bk ?_; clear bk gL
 have X₃ := O.k.keeps H₃.base
 refine ⟨rfl, X₃, ⟨_, _, I₃⟩, ?_⟩
 refine wpAny_bind (wpAny_holding ?_)
 unfold Builtin.List.listLengthHint
 refine wpAny_bind (wpAny_bind (I₃.type.here ((looks_findIn X₃ O.ln).here ?_)))
 show wpAny _ A.in1.in1 (specialOf (Value.ref ar) (Str.ofString "__length_hint__") >>= _) _ _ _
 refine wpAny_bind (wpAny_bind (I₃.type.here ((looks_findIn X₃ O.lh).here ?_)))
 refine wpAny_pure ?_
 show wpAny _ A.in1.in1 (rule "list.extend.makes-room" >>= fun zz => Builtin.List.listTouch (.ref s.heap.objs.size) >>= fun zz =>
  again (.builtin "list.extend.loop" ⟨[.ref s.heap.objs.size, .ref ar, .none], []⟩)) _ _ _
 refine wpAny_bind (wpAny_rule ?_)
 refine wpAny_bind ?_
 show wpAny _ A.in1.in1 (updateSeq s.heap.objs.size (·.push .none) >>= fun zz => updateSeq s.heap.objs.size (·.pop)) _ _ _
 have hl₃ := x₃.mu hl₂
 refine touch_is H₃ hl₃ e₄ fun s₄ H₄ x₄ => ?_
 unfold aDrainAll at hm
 split at hm
 ·rename_i hex
  refine Mine.hold fun gL bk => ?_
  cases hm
  obtain ⟨n, hn⟩ := hex.choose_spec
  refine bk ?_; clear bk gL
  have hl₄ := x₄.mu hl₃
  refine wpAny_pure ⟨plainId_quiet F.plain_extend_loop _, drain_is gk hse O SN n A.in1 fr _ zz.2 _ s₄ hA2 H₄ hl₄ (x₄.mu hr₃) hn _ fun s₅ μ₅ x₅ H₅ => ⟨rfl, ?_⟩⟩
  refine h _ _ _ ?_ H₅ (.ref (x₅.mu hl₄))
  exact Ext.trans H.len x₁ (Ext.trans H₁.len x₂ (Ext.trans H₂.len x₃ (Ext.trans H₃.len x₄ x₅)))
 ·cases hm
end
section
variable {G : Glob} {sc : SC} {hd : Bool} {d : Nat}
noncomputable def aRange : List AV → AHM AV := fun args hp => bA1 args fun v => bI v fun n => bG (0 ≤ n ∧ n ≤ 100000) (aNew (.rng n.toNat) hp)
theorem call_range : SimCall G hd d (.type "range") aRange := by
 rintro args A fr μ hp s z hp' tr hA H zI11 hm Q E h
 obtain ⟨vs, rs, rfl⟩ := zI11
 apply vr1 rs hm; intro v w rv hm
 apply vrI rv hm; intro n t hm
 refine bG_some hm fun hn hm => ?_
 cases hm
 refine call_range_1 ?_
 have e : ((n.toNat : Nat) : Int) = n := Int.toNat_of_nonneg hn.1
 have g := H.alloc (tk := s.toks + 1 + 1) (x := .rng n.toNat) (fun b o e => Heap.get?_push_of_some _ e) (Heap.get?_none_of_le (Nat.le_refl _)) (Heap.get?_push_size s.heap (o := { cls := .type "range", data := .fields #[.int 0 s.toks, .int n t, .int 1 (s.toks + 1)] }) rfl) (by
  have := OR.rng (G := G) (μ := μ) (h := s.heap) (n := n.toNat) (t := s.toks) (u := t) (v := s.toks + 1)
  rw [e] at this; exact this)
 exact h _ _ _ g.2 g.1 (ref_new H.len)
noncomputable def aListR : List AV → AHM AV := fun args hp => bA1 args fun v => bC hp v fun zz x zz => bO x.rng? fun n => bG (n ≤ 100000) (aNew (.list ((List.range n).map fun (i : Nat) => AV.int (i : Int))) hp)
theorem vrs_ints {μ : List Addr} {h : Heap} (n : Nat) : ∀ (k : Nat) (vs : List Value), vs.length = n → (∀ j v, vs[j]? = some v → ∃ t, v = Value.int ((k + j : Nat) : Int) t) → VRs G μ h ((List.range' k n).map fun (i : Nat) => AV.int (i : Int)) vs := by
 induction n with
 | zero =>
  intro k vs hl _
  rw [List.eq_nil_of_length_eq_zero hl]
  exact .nil
 | succ n ih =>
  intro k vs hl hv
  cases vs with
  | nil => cases hl
  | cons v vs =>
   obtain ⟨t, rfl⟩ := hv 0 v rfl
   rw [List.range'_succ, List.map_cons]
   refine .cons (.int _ _) (ih (k + 1) vs (by simpa using hl) fun j w hw => ?_)
   obtain ⟨t', rfl⟩ := hv (j + 1) w (by simpa using hw)
   exact ⟨t', by rw [show k + 1 + j = k + (j + 1) by omega]⟩
theorem call_listR : SimCall G true d (.type "list") aListR := by
 rintro args A fr μ hp s z hp' tr hA H zI11 hm Q E h
 obtain ⟨vs, rs, rfl⟩ := zI11
 revert h
 apply vr1 rs hm; intro v w ro hm
 apply vrC H ro hm; intro r x k a o hr ha ho hor hm h
 refine bO_some hm fun n en hm => bG_some hm fun hn hm => ?_
 ···rw [AObj.of_rng? en] at hor
    cases hm
    obtain ⟨_, _, _, rfl⟩ := hor.of_rng
    have hsz : Builtin.Range.rangeSize 0 n 1 = (n : Int) := by rw [rangeSize_one]; split <;> omega
    refine call_list_range (hA.hnd rfl) ho (small_one (by decide) (by decide) (by omega) (by omega)) hsz (by omega) fun h' tk acc' c' hk hD hI => ?_
    have g := H.alloc (tk := tk) (x := .list ((List.range n).map fun (i : Nat) => AV.int (i : Int))) hk (Heap.get?_none_of_le (Nat.le_refl _)) hD (by
     have := vrs_ints (G := G) (μ := μ) (h := s.heap) n 0 acc'.toList (by simpa using hI.1) fun j v hv => by
      obtain ⟨t, e⟩ := hI.2 j v (by simpa using hv)
      exact ⟨t, by rw [e]; simp⟩
     rw [← List.range_eq_range'] at this
     exact OR.list (n := c') this)
    exact h _ _ _ g.2 g.1 (ref_new H.len)
theorem sim_joined1 {m : AM AV} {e : Expr} {pos : Pos} (S : SimE G sc hd d m e) : SimE G sc hd d m (.JoinedStr [e] pos) := by
 intro A fr env own μ st s z st' hA I hm Q E h
 exact wpAny_JoinedStr_one (S A fr env own μ st s z st' hA I hm Q E h)
noncomputable def bUnpack (m : AM AV) (f : AV → AM Unit) : AM AFlow := do
 let v ← m
 f v
 pure .next
theorem sims_unpack {m : AM AV} {f : AV → AM Unit} {value : Expr} {elts : List Expr} {k : Nat} {tpos pos : Pos} (S : SimE G sc true d m value) (T : SimTgt G sc d f (.Tuple elts k tpos))
  (hs : autoParam (∀ env : Env, swapsWithSole [.Tuple elts k tpos] value pos.line env = pure false) aR) (hw : autoParam (∀ env : Env, swappedStores [.Tuple elts k tpos] value env = pure none) aR) : Sim1 G sc true d (bUnpack m f) (.Assign [.Tuple elts k tpos] value pos) := by
 intro A outer env own μ st s fl st' hA hf I hm Q E h hE
 refine Assign_Tuple (sim_bind2 S hA I hm fun v st₁ w s₁ μ₁ hm₁ x₁ I₁ r₁ => ?_) (hs env) (hw env)
 obtain ⟨u, st2, h3, h4⟩ := am_bind_some hm₁
 cases h4
 exact T A _ env own μ₁ st₁ s₁ v w st' hA I₁ r₁ h3 _ _ fun s₂ μ₂ x₂ I₂ => h _ _ _ (I.trans x₁ x₂) I₂ .next
end
section
variable {G : Glob} {sc : SC} {hd : Bool} {d : Nat}
noncomputable def aView (T : String) : List AV → AHM AV := fun args hp => bA1 args fun o => bD hp o fun r zz zz => aNew (.dview T r) hp
theorem call_items (gx : GX G) : SimCall G hd d (.builtin "dict.items") (aView "dict_items") := by
 rintro args A fr μ hp s z hp' tr hA H zI11 hm Q E h
 refine Mine.hold fun gL bk => ?_
 obtain ⟨vs, rs, rfl⟩ := zI11
 refine bk ?_; clear bk gL
 apply vr1 rs hm; intro o w ro hm
 apply vrD H ro hm; intro r es ver a kvs hr ha hd hk hm
 cases hm
 have g := H.alloc (tk := s.toks) (x := .dview "dict_items" r) (fun b o e => Heap.get?_push_of_some _ e) (Heap.get?_none_of_le (Nat.le_refl _)) (Heap.get?_push_size s.heap (o := { cls := .type "dict_items", data := .fields #[.ref a] }) rfl) (.dview ha)
 exact call_meetsIn F.slot_dict_items hd.typeIs F.entry_dict_items (F.args_dict_items_1 _) (meets_dict_items (intKind G.prog G.w) _ (H.sys gx (List.mem_of_getElem? ha))) ⟨⟨_, hd⟩, h _ _ _ g.2 g.1 (ref_new H.len)⟩
theorem call_values (gx : GX G) : SimCall G hd d (.builtin "dict.values") (aView "dict_values") := by
 rintro args A fr μ hp s z hp' tr hA H zI11 hm Q E h
 refine Mine.hold fun gL bk => ?_
 obtain ⟨vs, rs, rfl⟩ := zI11
 refine bk ?_; clear bk gL
 apply vr1 rs hm; intro o w ro hm
 apply vrD H ro hm; intro r es ver a kvs hr ha hd hk hm
 cases hm
 have g := H.alloc (tk := s.toks) (x := .dview "dict_values" r) (fun b o e => Heap.get?_push_of_some _ e) (Heap.get?_none_of_le (Nat.le_refl _)) (Heap.get?_push_size s.heap (o := { cls := .type "dict_values", data := .fields #[.ref a] }) rfl) (.dview ha)
 exact call_meetsIn F.slot_dict_values hd.typeIs F.entry_dict_values (F.args_dict_values_1 _) (meets_dict_values (intKind G.prog G.w) _ (H.sys gx (List.mem_of_getElem? ha))) ⟨⟨_, hd⟩, h _ _ _ g.2 g.1 (ref_new H.len)⟩
noncomputable def viewOf (T : String) (f : Int × AV → AV) (v : AV) (hp : AH) : Option AIt :=
 bC hp v fun zz x zz => bO x.dview? fun p => bG (p.1 = T) (bO hp[p.2]? fun c => bO c.1.dict? fun es => some ⟨[(p.2, (.dict es, c.2))], es.map f⟩)
noncomputable def bValues (m : AM AV) : AM AIt := do
 let v ← m
 see (viewOf "dict_values" (·.2) v)
noncomputable def bItems (m : AM AV) : AM AIt := do
 let v ← m
 see (viewOf "dict_items" (fun e => .tup [.int e.1, e.2]) v)
theorem simi_values {m : AM AV} {e tgt : Expr} (S : SimE G sc true d m e) (ht : TgtShape tgt) : SimI G sc d tgt (bValues m) e := by
 intro A fr env own μ st s ai st' hA I hm Q E h
 refine sim_bind2 S hA I hm fun v st₁ w s₁ μ₁ hm₁ x₁ I₁ r₁ => ?_
 obtain ⟨rfl, hv⟩ := see_some hm₁
 have hh := hA.hnd rfl
 apply vrC I₁.h r₁ hv; intro n x kk' a₁ ov hr' hn hov hor hv
 refine bO_some hv fun p e1 hv => bG_some hv fun eT hv => bO_some hv fun c hr hv => bO_some hv fun es e2 hv => ?_
 cases hv
 rw [AObj.of_dview? e1, eT] at hor
 refine Mine.hold fun gL bk => ?_
 obtain ⟨y, k⟩ := c
 obtain rfl : y = .dict es := AObj.of_dict? e2
 obtain ⟨a, rfl, h1⟩ := hor.of_dview
 obtain ⟨kvs, hdo, hkv⟩ := I₁.h.dict hr h1
 obtain ⟨ep, hdat⟩ := hdo.dictAt
 obtain ⟨o, ho, _⟩ := I₁.h.at h1 hr
 refine bk ?_; clear bk gL
 refine wpAny_pyIter_values ⟨_, hov, rfl, rfl⟩ hdat ?_
 have F : Fresh G μ₁ s₁ s₁.heap.objs.size := I₁.h.fresh (Heap.get?_none_of_le (Nat.le_refl _))
 have hne : a ≠ s₁.heap.objs.size := fun q => by rw [q, F.n] at ho; cases ho
 have g := I₁.h.grow (h' := s₁.heap.push { cls := .type "dict_valueiterator", data := .fields #[.ref a, .int 0 0, .int kvs.length 0, .int ep 0] }) (tk := s₁.toks) fun b o e => Heap.get?_push_of_some _ e
 have hlen : (es.map (·.2)).length = kvs.length := by rw [List.length_map, hkv.length]
 have W := Walks.dictValues (prog := G.prog) (w := G.w) (knd := intKind G.prog G.w) hh s₁.heap.objs.size a hne kvs ep
 have W' : Walks G.prog G.w A s₁.heap.objs.size [s₁.heap.objs.size, a] [s₁.heap.objs.size] (es.map (·.2)).length (fun i v => ∃ k, kvs[i]? = some (k, v))
  (fun i h => h.IsValIter s₁.heap.objs.size a i kvs.length ep ∧ h.DictAt (intKind G.prog G.w) a kvs ep) := by rw [hlen]; exact W
 have WG := WalkG.ofWalks' (tgt := tgt) W' (fun i v s R E hP hst hR => by
   obtain ⟨⟨oi, h5, h6, _⟩, _⟩ := hst
   exact go_plain ht h5 h6 (by decide) hR)
 refine h s₁.heap.objs.size _ μ₁ _ _ _ _ _ (es.map (·.2)) _ (x₁.trans I.h.len g.2.weaken) (I₁.heap g.2 g.1)
  (itOk_one (ai := ⟨[(p.2, (.dict es, k))], es.map (·.2)⟩) (h' := s₁.heap.push { cls := .type "dict_valueiterator", data := .fields #[.ref a, .int 0 0, .int kvs.length 0, .int ep 0] }) (tk := s₁.toks) WG F x₁.alive (Heap.get?_push_size _ rfl) rfl ⟨⟨_, Heap.get?_push_size _ rfl, rfl, rfl⟩, hdat.push _⟩ (by simpa using hr) (fun b hb => ?_) (fun i hh hs => ?_) (fun g hg q => ?_) (hkv.vals.ext I₁.h (by intro a ha; cases ha) g.2) (fun i v hh' μ' hi hP hvs => ?_))
 ·simp at hb; subst hb
  exact .inl ⟨_, List.mem_cons_self, h1⟩
 ·obtain ⟨⟨oi, h5, _, h7⟩, _⟩ := hs
  exact ⟨oi, _, h5, h7⟩
 ·exact F.μ (List.mem_of_getElem? q)
 ·obtain ⟨key, e1⟩ := hP
  exact hvs.get' (by rw [List.getElem?_map, e1]; rfl)
theorem entry_items_iter : entryFor table "dict_itemiterator.__iter__" = some Builtin.«dict_keyiterator.__iter__» :=
 entryFor_alias (id' := "dict_keyiterator.__iter__") (by kernel_rfl) rfl (by decide +kernel) (by kernel_rfl)
theorem walksT_items {A : Around} (hh : A.handled = none) (it a : Addr) (hne : a ≠ it) (kvs : List (Int × Value)) (ep : Nat) :
  WalksT G.prog G.w A it [it, a] [it] kvs.length (fun i vals => ∃ k key v, kvs[i]? = some (k, v) ∧ (intKind G.prog G.w).is k key = true ∧ vals = #[key, v])
   (fun i h => (∃ ok ov, IsItemIter h it a i kvs.length ep ok ov) ∧ h.DictAt (intKind G.prog G.w) a kvs ep)
   (fun i T h => (∃ ok ov, IsItemIterOut h it a (i + 1) kvs.length ep ok ov T) ∧ h.DictAt (intKind G.prog G.w) a kvs ep ∧ T ≠ it) where
 sub := fun b hb => by simp at hb; simp [hb]
 frame := fun i h h' st hk => by
  refine Mine.hold fun gL bk => ?_
  obtain ⟨⟨ok, ov, x⟩, y⟩ := st
  refine bk ?_; clear bk gL
  exact ⟨⟨ok, ov, hk it (by simp) _ x⟩, y.at' fun o e => hk a (by simp) o e⟩
 item := fun i s Q E hi st hQ => by
  refine Mine.hold fun gL bk => ?_
  obtain ⟨⟨ok, ov, x⟩, y⟩ := st
  obtain ⟨⟨k, v⟩, hx⟩ : ∃ p, kvs[i]? = some p := ⟨kvs[i], by simp [hi]⟩
  refine bk ?_; clear bk gL
  refine wpAny_pyNext_items_item x y hx fun key h' hkey hit' hT hsz hk => ?_
  exact hQ s.heap.objs.size #[key, v] h' s.toks ⟨k, key, v, hx, hkey, rfl⟩ (Nat.le_refl _) ⟨_, hT, rfl, _, rfl⟩ ⟨⟨_, _, hit'⟩, y.at' fun o e => hk a o hne e, Nat.ne_of_gt (Heap.lt_size x)⟩
   fun b o hb e => hk b o (fun q => hb (by simp [q])) e
 go := fun elts k pos i T s Q E hm hQ => by
  refine Mine.hold fun gL bk => ?_
  obtain ⟨⟨ok, ov, x⟩, y, z⟩ := hm
  refine bk ?_; clear bk gL
  refine wpAny_letOwnedTupleGo_items x fun h' he' hs' => hQ h' ⟨⟨ok, ov, he'⟩, y.at' fun o e => (hs'.2 a hne).trans e⟩ fun b o hb e => ?_
  exact (hs'.2 b fun q => hb (by simp [q])).trans e
 apart := fun i T h hm hT => hm.2.2 (by simpa using hT)
 done := fun s Q E st hQ => by
  refine Mine.hold fun gL bk => ?_
  obtain ⟨⟨ok, ov, x⟩, y⟩ := st
  refine bk ?_; clear bk gL
  exact wpAny_pyNext_items_end hh x y (by simp) fun h' he => hQ h' s.toks fun b o hb e => he b o (fun q => hb (by simp [q])) e
 self := fun i s Q E st hQ => by
  refine Mine.hold fun gL bk => ?_
  obtain ⟨⟨ok, ov, x⟩, y⟩ := st
  refine bk ?_; clear bk gL
  have hT : s.TypeIs (.ref it) "dict_itemiterator" := ⟨_, x, rfl⟩
  refine wpAny_pyIter_slot hT F.slot_dict_itemiterator_iter (wpAny_call_entry F.slot_dict_itemiterator_iter hT entry_items_iter ?_ (F.args_dict_itemiterator_iter_1 _))
  show wpAny _ _ (ret (.ref it)) _ _ s
  exact wpAny_pure ⟨_, rfl, "dict_itemiterator", _, hT, F.slot_dict_itemiterator_next.lookup, hQ⟩
theorem simi_items {m : AM AV} {e : Expr} {ts : List Expr} {kk : Nat} {tp : Pos} (S : SimE G sc true d m e) : SimI G sc d (.Tuple ts kk tp) (bItems m) e := by
 intro A fr env own μ st s ai st' hA I hm Q E h
 refine sim_bind2 S hA I hm fun v st₁ w s₁ μ₁ hm₁ x₁ I₁ r₁ => ?_
 obtain ⟨rfl, hv⟩ := see_some hm₁
 have hh := hA.hnd rfl
 apply vrC I₁.h r₁ hv; intro n x kk' a₁ ov hr' hn hov hor hv
 refine bO_some hv fun p e1 hv => bG_some hv fun eT hv => bO_some hv fun c hr hv => bO_some hv fun es e2 hv => ?_
 cases hv
 rw [AObj.of_dview? e1, eT] at hor
 refine Mine.hold fun gL bk => ?_
 obtain ⟨y, k⟩ := c
 obtain rfl : y = .dict es := AObj.of_dict? e2
 obtain ⟨a, rfl, h1⟩ := hor.of_dview
 obtain ⟨kvs, hdo, hkv⟩ := I₁.h.dict hr h1
 obtain ⟨ep, hdat⟩ := hdo.dictAt
 obtain ⟨o, ho, _⟩ := I₁.h.at h1 hr
 refine bk ?_; clear bk gL
 refine wpAny_pyIter_items ⟨_, hov, rfl, rfl⟩ hdat ?_
 have F : Fresh G μ₁ s₁ s₁.heap.objs.size := I₁.h.fresh (Heap.get?_none_of_le (Nat.le_refl _))
 have hne : a ≠ s₁.heap.objs.size := fun q => by rw [q, F.n] at ho; cases ho
 have g := I₁.h.grow (h' := s₁.heap.push { cls := .type "dict_itemiterator", data := .fields #[.none, .bool false, .ref a, .int 0 0, .int kvs.length 0, .int ep 0, .none, .none] }) (tk := s₁.toks) fun b o e => Heap.get?_push_of_some _ e
 have hlen : (es.map fun e => AV.tup [.int e.1, e.2]).length = kvs.length := by rw [List.length_map, hkv.length]
 have W := walksT_items (G := G) hh s₁.heap.objs.size a hne kvs ep
 have WG := WalkG.ofWalksT (es := ts) (kk := kk) (pos := tp) W
 rw [← hlen] at WG
 refine h s₁.heap.objs.size _ μ₁ _ _ _ _ _ (es.map (·.2)) _ (x₁.trans I.h.len g.2.weaken) (I₁.heap g.2 g.1) ⟨WG, ⟨⟨_, _, by rw [hlen]; exact Heap.get?_push_size _ rfl⟩, hdat.push _⟩, by simpa using hr, fun b hb => ?_, fun b hb => ?_, fun i h₁ hs b hb => ⟨fun q => by simp at q, .inr ?_⟩, fun b hb ⟨g, hg, _, q⟩ => ?_, fun b hb => by simp at hb, hkv.vals.ext I₁.h (by intro a ha; cases ha) g.2, fun i v h₁ hh₁ μ' hi hP hvs hal => ?_⟩
 ·simp at hb
  rcases hb with rfl | rfl
  ·exact .inr ⟨F.μ, _, Heap.get?_push_size _ rfl, .inl (fields_not_lock rfl)⟩
  ·exact .inl ⟨_, List.mem_cons_self, h1⟩
 ·simp at hb; subst hb
  refine ⟨?_, F.low, .inr F.μ⟩
  cases e : s.heap.get? s₁.heap.objs.size with
  | none => rfl
  | some o => obtain ⟨o', e'⟩ := x₁.alive _ _ e; rw [F.n] at e'; cases e'
 ·obtain ⟨⟨ok, ov, q1⟩, _⟩ := hs
  simp at hb; subst hb
  exact ⟨_, _, q1, rfl⟩
 ·simp at hg; subst hg
  simp at hb; subst hb
  exact absurd (List.mem_of_getElem? q) F.μ
 ·obtain ⟨T, vals, rfl, hT, ⟨o, q1, q2, q3, q4⟩, k', key, y, q5, q7, q6⟩ := hP
  refine Mine.hold fun gL bk => ?_
  obtain ⟨x, hx, _⟩ := hkv.get q5
  obtain ⟨z, hz, hr⟩ := hvs.get' (i := i) (v := y) (by rw [List.getElem?_map, q5]; rfl)
  rw [List.getElem?_map, hx] at hz
  cases hz
  refine bk ?_; clear bk gL
  refine ⟨.tup [.int k', x], by rw [List.getElem?_map, hx]; rfl, .tup (vs := [key, y]) q1 q2 (by rw [q4, q6]) (fun hm => ?_) (.cons (isInt_VR q7) (.cons hr .nil))⟩
  obtain ⟨o', ho'⟩ := hal T hm
  rw [hT] at ho'; cases ho'
end
section
variable {G : Glob} {sc : SC} {hd : Bool} {d : Nat}
theorem br_zip {μ : List Addr} {h : Heap} {ns : List String} {args : List AV} {vs : List Value} (k : VRs G μ h args vs) : BR G μ h (ns.zip args) ((ns.map Str.ofString).zip vs) :=
 k.ind (P := fun args vs => ∀ ns : List String, BR G μ h (ns.zip args) ((ns.map Str.ofString).zip vs)) (fun ns => by cases ns <;> exact .nil) (fun r zz ih ns => by
  cases ns with
  | nil => exact .nil
  | cons n ns => exact .cons r (ih ns)) ns
theorem br_append {μ : List Addr} {h : Heap} {ys : List (String × AV)} {ws : List (PySem.Str × Value)} (k : BR G μ h ys ws) {xs : List (String × AV)} {vs : List (PySem.Str × Value)} (k' : BR G μ h xs vs) : BR G μ h (xs ++ ys) (vs ++ ws) := by
 induction k' with
 | nil => exact k
 | cons r _ ih => exact .cons r ih
theorem VRs.drop {μ : List Addr} {h : Heap} (n : Nat) {xs : List AV} {vs : List Value} (k : VRs G μ h xs vs) : VRs G μ h (xs.drop n) (vs.drop n) :=
 k.ind (P := fun xs vs => ∀ n, VRs G μ h (xs.drop n) (vs.drop n)) (fun n => by cases n <;> exact .nil) (fun r k ih n => by
  cases n with
  | zero => exact .cons r k
  | succ n => exact ih n) n
noncomputable def fRest (ns : List String) (va : String) (args : List AV) : Option (List (String × AV)) :=
 if ns.length ≤ args.length ∧ args.length ≤ 1000 then some (ns.zip args ++ [(va, .tup (args.drop ns.length))]) else none
theorem binds_rest {fd : FuncData} {ns : List String} {va : String} (hb : ∀ vs : List Value, ns.length ≤ vs.length → bindArgs fd ⟨vs, []⟩ = (newTuple (vs.drop ns.length) >>= fun t => pure ((ns.map Str.ofString).zip vs ++ [(Str.ofString va, t)]))) : BindsTo G fd (fRest ns va) := by
 intro A fr μ hp s args vs bs H rs hm Q E h
 unfold fRest at hm
 split at hm
 ·rename_i hl
  cases hm
  rw [hb vs (by rw [← rs.length]; exact hl.1)]
  have hn := H.grow (h' := s.heap.push { cls := .type "tuple", data := .seq (vs.drop ns.length).toArray }) (tk := s.toks) (fun b o e => Heap.get?_push_of_some _ e)
  refine wpAny_bind (wpAny_newObj_type ?_ (by
   have h1 : (vs.drop ns.length).length ≤ 1000 := by rw [List.length_drop, ← rs.length]; omega
   first | (simp only [sizeOk, List.size_toArray, sizeLine_eq]; omega) | trace_state))
  refine wpAny_pure (h _ _ hn.2 hn.1 (br_append (.cons (.tup (Heap.get?_push_size _ rfl) rfl rfl (fun hm => absurd (H.lt hm) (Nat.lt_irrefl _)) ((rs.drop _).ext H (by intro a ha; cases ha) hn.2)) .nil) (br_zip (rs.ext H (by intro a ha; cases ha) hn.2))))
 ·cases hm
theorem binds_def {fd : FuncData} {ns : List String} {T : Addr} {o : Obj} {items : Array Value} {n : Nat} (hd : fd.defaults = .ref T) (ho : G.h₀.get? T = some o) (hs : o.data = .seq items n)
  (hb : ∀ vs : List Value, vs.length = ns.length → ∃ k, bindArgs fd ⟨vs, []⟩ = (seqItems? fd.defaults >>= k) ∧ k (some items) = pure ((ns.map Str.ofString).zip vs)) : BindsTo G fd (fun args => if args.length = ns.length then some (ns.zip args) else none) := by
 intro A fr μ hp s args vs bs H rs hm Q E h
 dsimp only at hm
 split at hm
 ·rename_i hl
  cases hm
  obtain ⟨k, e1, e2⟩ := hb vs (by rw [← rs.length]; exact hl)
  rw [e1, hd]
  refine wpAny_bind (wpAny_seqItems (H.base _ _ ho) hs ?_)
  rw [e2]
  exact wpAny_pure (h _ _ Ext.refl H (br_zip rs))
 ·cases hm
theorem sim_dict0 {pos : Pos} : SimE G sc hd d (lift (aNew (.dict []))) (.Dict [] [] pos) := by
 intro A fr env own μ st s z st' hA I hm Q E h
 obtain ⟨hp', h4, rfl⟩ := lift_some hm
 cases h4
 refine wpAny_Dict_empty ?_
 obtain ⟨o, ho, hdo⟩ := Heap.dictOf_iff.mp (Heap.DictOf.new (knd := intKind G.prog G.w) s.heap)
 have g := I.h.alloc (tk := s.toks) (x := .dict []) (fun b o e => Heap.get?_push_of_some _ e) (Heap.get?_none_of_le (Nat.le_refl _)) ho (.dict hdo .nil)
 exact h _ _ _ g.2.weaken (I.heap g.2 g.1) (ref_new I.h.len)
end
section
variable {G : Glob} {sc : SC} {hd : Bool} {d : Nat}
structure BoundAt (K : Frag) (C f : Addr) (name : String) : Prop extends MethAt K C f name where
 hh : hasDictIn K C = true
 hgf : specialIn K (.ref f) "__get__" = some (some (.builtin "function.__get__"))
 hts : takesIn K (.ref f) = some false
 hcn : copiedNames.contains (Str.ofString name) = false
 hfn : fnIn K f = true
theorem ownB_is {A : Around} {fr : List Env} {μ : List Addr} {hp : AH} {s : Shared} {K : Frag} {c name : String} {C f : Addr} {o : AV} {ov : Value} {Q : Value → Shared → Prop} {E : Value → Shared → Prop} {u : Unit} (k : K.In G.h₀) (hC : G.addr c = some C) (Mt : BoundAt K C f name) (H : HInv G fr μ hp s) (ro : VR G μ s.heap o ov) (hm : ownM c name o hp = some u)
  (h : Q (.ref s.heap.objs.size) { s with heap := s.heap.push (methodObj (.ref f) ov), toks := s.toks + 1 }) : wpAny G.M A (getAttr ov (Str.ofString name) true) Q E s := by
 have X : K.In s.heap := k.keeps H.base
 revert h
 apply vrC H ro hm; intro r x ver a ob hr ha hob hor hm h
 refine bO_some hm fun p e1 hm => bG_some hm fun hcc hm => bO_some hm fun cc hfs hm => bO_some hm fun fs e2 hm => bG_some hm fun hn hm => ?_
 rw [AObj.of_inst? e1, hcc] at hor
 refine Mine.hold fun gL bk => ?_
 obtain ⟨_, _, rfl, hC', hdx⟩ := hor.of_inst
 rw [hC] at hC'; cases hC'
 obtain ⟨od, hod, hodr⟩ := H.obj _ _ _ hfs hdx
 rw [AObj.of_attrs? e2] at hodr
 obtain ⟨_, _, rfl, ar⟩ := hodr.of_attrs
 refine bk ?_; clear bk gL
 have hl := (ar.look (name := name)).2 (by simpa using hn)
 have Ia : PySem.W.InstAt s.heap _ _ _ (some (dictOf _ _)) := ⟨hob, rfl, rfl, hod⟩
 exact get_bind X Ia (plainGet_of Mt.hg).1 (findObj_fn Mt.hh Mt.hf Mt.hgf Mt.hts Mt.hcn (by show lookIn _ (dictOf _ _) = _; rw [lookIn_dict, hl])) (plainGet_of Mt.hg).2
  (wpAny_call (fn_get (s := { s with toks := s.toks + 1 }) X (beq_iff_eq.mp Mt.ht) (handed_on rfl h)))
theorem sim_methS {K : Frag} {c name : String} {C fa : Addr} {f : List AV → AHM AV} {mo : AM AV} {m : AM (List AV)} {o : Expr} {es : List Expr} {apos pos : Pos} (k : K.In G.h₀) (hC : G.addr c = some C) (Mt : BoundAt K C fa name) (SC : SimCode G hd d (.ref fa) f) (So : SimE G sc hd d mo o) (SA : SimArgsC G sc hd d m es)
  (he : autoParam (∀ env : Env, eval (.Call (.Attribute o (Str.ofString name) apos) es [] pos) env = (do let ov ← eval o env; standAt apos.atName; let (f, first) ← holding [ov] (do pure (← getAttr ov (Str.ofString name) true, [])); callWith pos f first (backTo pos (starEach es env)) [])) aR) :
  SimE G sc hd d (bMethO c name f mo m) (.Call (.Attribute o (Str.ofString name) apos) es [] pos) := by
 intro A fr env own μ st s z st' hA I hm Q E h
 show wpAny _ _ (eval _ env) _ _ _
 rw [he]
 refine wpAny_bind (sim_bind2 So hA I hm fun ov st₁ ow s₁ μ₁ hm₁ x₁ I₁ r₁ => wpAny_bind (wpAny_standAt ?_))
 refine Mine.hold fun gL bk => ?_
 obtain ⟨u, st₁', h1, hm₂⟩ := am_bind_some hm₁
 obtain ⟨rfl, hv⟩ := see_some h1
 obtain ⟨vs, st₂, h2, h3⟩ := am_bind_some hm₂
 refine bk ?_; clear bk gL
 refine wpAny_bind (wpAny_holding (wpAny_bind (ownB_is k hC Mt I₁.h r₁ hv (wpAny_pure ?_))))
 have g := I₁.h.grow (h' := s₁.heap.push (methodObj (.ref fa) ow)) (tk := s₁.toks + 1) fun b o e => Heap.get?_push_of_some _ e
 have I₂ := I₁.heap g.2 g.1
 have hq : s₁.heap.get? s₁.heap.objs.size = none := Heap.get?_none_of_le (Nat.le_refl _)
 have hqo : s₁.heap.objs.size ∉ own := fun hm => by
  obtain ⟨_, _, o, ho, _⟩ := I₁.e.ownp _ hm
  rw [hq] at ho; cases ho
 have F := I₁.h.fresh hq
 have hqf : s₁.heap.objs.size ∉ frA fr := fun hm => by
  obtain ⟨e, he, hf⟩ := List.mem_filterMap.mp hm
  obtain ⟨_, L, o, hL, ho, _⟩ := I₁.h.frs e he
  rw [hf] at hL; cases hL
  rw [hq] at ho; cases ho
 refine SA A fr env own μ₁ st₁' _ vs st₂ pos _ [] (MethP K s₁.heap.objs.size fa ow) hA I₂ h2 (keeps_M Mt.hfn) Q E fun ws s₂ μ₂ x₂ I₃ r₂ => ?_
 have hm : s₂.heap.get? s₁.heap.objs.size = some (methodObj (.ref fa) ow) := by
  obtain ⟨sl, e1, e2⟩ := x₂.keep _ _ (Heap.get?_push_size _ rfl) F.μ hqo
  rw [e1, e2 hqf]
 refine ⟨⟨hm, k.keeps I₃.h.base⟩, wpAny_call (method_call hm ?_)⟩
 refine Mine.hold fun gL bk => ?_
 obtain ⟨hp₃, h5, rfl⟩ := lift_some h3
 refine bk ?_; clear bk gL
 exact SC (ov :: vs) A fr μ₂ _ s₂ z hp₃ (ow :: ws) hA I₃.h (.cons (I₂.vr x₂ (I₁.vr g.2.weaken r₁)) r₂) h5 _ fun b s₃ μ₃ x₃ H₃ r₃ => h _ _ _ (I.trans x₁ (I₁.trans g.2.weaken (I₂.trans x₂ x₃.weaken))) (I₃.heap x₃ H₃) r₃
end
noncomputable def ixTab : List ((String × String) × Option Nat) := [(("_NodeInfo", "node"), some 0), (("_NodeInfo", "npredecessors"), some 1), (("_NodeInfo", "successors"), some 2), (("filterfalse", "_func"), some 0), (("filterfalse", "_it"), some 1),
 (("TopologicalSorter", "_node2info"), none), (("TopologicalSorter", "_ready_nodes"), none), (("TopologicalSorter", "_npassedout"), none), (("TopologicalSorter", "_nfinished"), none)]
noncomputable def ixOf (c n : String) : Option (Option Nat) := ixTab.lookup (c, n)
noncomputable def fArgs (ns : List String) (args : List AV) : Option (List (String × AV)) := if args.length = ns.length then some (ns.zip args) else none
noncomputable def niInit.prog : AM AFlow :=
 bSeq (bSetAttr ixOf "node" (bVar "self") (bVar "node"))
  (bSeq (bSetAttr ixOf "npredecessors" (bVar "self") (pure (AV.int 0)))
   (bSetAttr ixOf "successors" (bVar "self") (bList (pure []))))
noncomputable def aNiInit : List AV → AHM AV := aDef (fArgs ["self", "node"]) niInit.prog
noncomputable def aNodeInfo : List AV → AHM AV := aMake "_NodeInfo" true aNiInit
noncomputable def ffInit.prog : AM AFlow :=
 bSeq (bSetAttr ixOf "_it" (bVar "self") (bCall aIter (bCons (bVar "iterable") (pure []))))
  (bSetAttr ixOf "_func" (bVar "self") (bVar "function"))
noncomputable def ffIter.prog : AM AFlow :=
 bRet (bVar "self")
noncomputable def ffNext.prog : AM AFlow :=
 bSeq (bSet "func" (bAttr ixOf "_func" (bVar "self")))
  (bWhile (bTruth (pure (AV.bool true)))
   (bSeq (bSetX "item" (bCallX aNext (bCons (bAttr ixOf "_it" (bVar "self")) (pure []))))
    (bIfS
     (bOr (bCmp COp.is (bVar "func") (pure AV.none))
      (bOr (bCmp COp.is (bVar "func") (pure (AV.ty "bool"))) (pure false)))
     (bIfS (bNot (bTruth (bVar "item"))) (bRet (bVar "item")) (pure AFlow.next))
     (bIfS (bNot (bTruth (bOk (bCallB (bVar "func") (bCons (bVar "item") (pure [])))))) (bRet (bVar "item"))
      (pure AFlow.next))))
   (pure AFlow.next))
noncomputable def aFfInit : List AV → AHM AV := aDef (fArgs ["self", "function", "iterable"]) ffInit.prog
noncomputable def aFfIter : List AV → AHM AV := aDef (fArgs ["self"]) ffIter.prog
noncomputable def aFfNext : List AV → AHM (Except String AV) := aDefX (fArgs ["self"]) ffNext.prog
noncomputable def aFf : List AV → AHM AV := aMake "filterfalse" true aFfInit
noncomputable def aListFf : List AV → AHM AV := aListOwn "filterfalse" aFfIter aFfNext
noncomputable def filter.prog : AM AFlow :=
 bRet
  (bCall aListFf
   (bCons (bCall aFf (bCons (bWrap "__contains__" (bVar "skip")) (bCons (bVar "flist") (pure [])))) (pure [])))
noncomputable def aFilter : List AV → AHM AV := aDef (fArgs ["flist", "skip"]) filter.prog
noncomputable def falls.prog : AM AFlow :=
 bSeq (bSet "rounds" (bList (pure [])))
  (bWhile (bTruth (pure (AV.bool true)))
   (bSeq
    (bSet "fallen"
     (bComp ["outside", "sources", "there"] (bIter (bVar "there")) (fun v => setVar "name" v)
      (bCmp COp.eq
       (bComp ["outside", "there"] (bIter (bSub (bVar "sources") (bVar "name"))) (fun v => setVar "one" v)
        (bOr (bCmp COp.mem (bVar "one") (bVar "there"))
         (bOr (bCmp COp.eq (bVar "one") (bVar "outside")) (pure false)))
        (bEmit (bVar "one")))
       (bList (pure [])))
      (bEmit (bVar "name"))))
    (bSeq
     (bIfS (bCmp COp.eq (bVar "fallen") (bList (pure [])))
      (bRet (bTup (bCons (bVar "rounds") (bCons (bVar "there") (pure []))))) (pure AFlow.next))
     (bSeq (bExpr (bMeth "list" aAppend (bVar "rounds") (bCons (bVar "fallen") (pure []))))
      (bSet "there"
       (bComp ["fallen"] (bIter (bVar "there")) (fun v => setVar "name" v)
        (bCmp COp.nmem (bVar "name") (bVar "fallen")) (bEmit (bVar "name")))))))
   (pure AFlow.next))
noncomputable def aFalls : List AV → AHM AV := aDef (fArgs ["there", "sources", "outside"]) falls.prog
noncomputable def uld.prog : AM AFlow :=
 bSeq (bSet "missing" (bList (pure [])))
  (bSeq
   (bWhile (bTruth (bVar "expected"))
    (bSeq (bSet "item" (bMeth "list" aPop (bVar "expected") (pure [])))
     (bTry "ValueError" (bExprX (bMethX "list" aRemove (bVar "actual") (bCons (bVar "item") (pure []))))
      (bExpr (bMeth "list" aAppend (bVar "missing") (bCons (bVar "item") (pure []))))))
    (pure AFlow.next))
   (bRet (bTup (bCons (bVar "missing") (bCons (bVar "actual") (pure []))))))
noncomputable def aUld : List AV → AHM AV := aDef (fArgs ["expected", "actual"]) uld.prog
noncomputable def gni.prog : AM AFlow :=
 bSeq
  (bIfS
   (bCmp COp.is
    (bNamed "result" (bMeth "dict" aGet (bAttr ixOf "_node2info" (bVar "self")) (bCons (bVar "node") (pure []))))
    (pure AV.none))
   (bSetItemName (bAttr ixOf "_node2info" (bVar "self")) (bVar "node") "result"
    (bCall aNodeInfo (bCons (bVar "node") (pure []))))
   (pure AFlow.next))
  (bRet (bVar "result"))
noncomputable def aGni : List AV → AHM AV := aDef (fArgs ["self", "node"]) gni.prog
noncomputable def findCycle.prog : AM AFlow :=
 bSeq (bSet "n2i" (bAttr ixOf "_node2info" (bVar "self")))
  (bSeq (bSet "stack" (bList (pure [])))
   (bSeq (bSet "itstack" (bList (pure [])))
    (bSeq (bSet "seen" (bCall aSet0 (pure [])))
     (bSeq (bSet "node2stacki" (lift (aNew (AObj.dict []))))
      (bSeq
       (bFor (bIter (bVar "n2i")) (fun v => setVar "node" v)
        (bSeq (bIfS (bCmp COp.mem (bVar "node") (bVar "seen")) (pure AFlow.cont) (pure AFlow.next))
         (bWhile (bTruth (pure (AV.bool true)))
          (bSeq
           (bIfS (bCmp COp.mem (bVar "node") (bVar "seen"))
            (bIfS (bCmp COp.mem (bVar "node") (bVar "node2stacki"))
             (bRet
              (bBin BOp.add
               (bSlice (bVar "stack") (bPart (bSub (bVar "node2stacki") (bVar "node"))) (pure none)
                (pure none))
               (bList (bCons (bVar "node") (pure [])))))
             (pure AFlow.next))
            (bSeq (bExpr (bMeth "set" aAdd (bVar "seen") (bCons (bVar "node") (pure []))))
             (bSeq
              (bExpr
               (bMeth "list" aAppend (bVar "itstack")
                (bCons
                 (bWrap "__next__"
                  (bCall aIter
                   (bCons (bAttr ixOf "successors" (bSub (bVar "n2i") (bVar "node"))) (pure []))))
                 (pure []))))
              (bSeq
               (bSetItem (bVar "node2stacki") (bVar "node") (bCall aLen (bCons (bVar "stack") (pure []))))
               (bExpr (bMeth "list" aAppend (bVar "stack") (bCons (bVar "node") (pure []))))))))
           (bWhile (bTruth (bVar "stack"))
            (bTry "StopIteration"
             (bSeq (bSetX "node" (bCallB (bSub (bVar "itstack") (bNeg (pure (AV.int 1)))) (pure [])))
              (pure AFlow.brk))
             (bSeq (bDel (bVar "node2stacki") (bMeth "list" aPop (bVar "stack") (pure [])))
              (bExpr (bMeth "list" aPop (bVar "itstack") (pure [])))))
            (pure AFlow.brk)))
          (pure AFlow.next))))
       (bRet (pure AV.none)))))))
noncomputable def aFindCycle : List AV → AHM AV := aDef (fArgs ["self"]) findCycle.prog
noncomputable def getReady.prog : AM AFlow :=
 bSeq (bIfS (bCmp COp.is (bAttr ixOf "_ready_nodes" (bVar "self")) (pure AV.none)) AM.bad (pure AFlow.next))
  (bSeq (bSet "result" (bCall aTupleOf (bCons (bAttr ixOf "_ready_nodes" (bVar "self")) (pure []))))
   (bSeq (bSet "n2i" (bAttr ixOf "_node2info" (bVar "self")))
    (bSeq
     (bFor (bIter (bVar "result")) (fun v => setVar "node" v)
      (bSetAttr ixOf "npredecessors" (bSub (bVar "n2i") (bVar "node")) (pure (AV.int (-1)))))
     (bSeq (bExpr (bMeth "list" aClear (bAttr ixOf "_ready_nodes" (bVar "self")) (pure [])))
      (bSeq (bAugAttr ixOf "_npassedout" BOp.add (bVar "self") (bCall aLen (bCons (bVar "result") (pure []))))
       (bRet (bVar "result")))))))
noncomputable def aGetReady : List AV → AHM AV := aDef (fArgs ["self"]) getReady.prog
noncomputable def done.prog : AM AFlow :=
 bSeq (bIfS (bCmp COp.is (bAttr ixOf "_ready_nodes" (bVar "self")) (pure AV.none)) AM.bad (pure AFlow.next))
  (bSeq (bSet "n2i" (bAttr ixOf "_node2info" (bVar "self")))
   (bFor (bIter (bVar "nodes")) (fun v => setVar "node" v)
    (bSeq
     (bIfS
      (bCmp COp.is (bNamed "nodeinfo" (bMeth "dict" aGet (bVar "n2i") (bCons (bVar "node") (pure []))))
       (pure AV.none))
      AM.bad (pure AFlow.next))
     (bSeq (bSet "stat" (bAttr ixOf "npredecessors" (bVar "nodeinfo")))
      (bSeq
       (bIfS (bCmp COp.ne (bVar "stat") (pure (AV.int (-1))))
        (bIfS (bCmp COp.ge (bVar "stat") (pure (AV.int 0))) AM.bad
         (bIfS (bCmp COp.eq (bVar "stat") (pure (AV.int (-2)))) AM.bad AM.bad))
        (pure AFlow.next))
       (bSeq (bSetAttr ixOf "npredecessors" (bVar "nodeinfo") (pure (AV.int (-2))))
        (bSeq
         (bFor (bIter (bAttr ixOf "successors" (bVar "nodeinfo"))) (fun v => setVar "successor" v)
          (bSeq (bSet "successor_info" (bSub (bVar "n2i") (bVar "successor")))
           (bSeq (bAugAttr ixOf "npredecessors" BOp.sub (bVar "successor_info") (pure (AV.int 1)))
            (bIfS (bCmp COp.eq (bAttr ixOf "npredecessors" (bVar "successor_info")) (pure (AV.int 0)))
             (bExpr
              (bMeth "list" aAppend (bAttr ixOf "_ready_nodes" (bVar "self"))
               (bCons (bVar "successor") (pure []))))
             (pure AFlow.next)))))
         (bAugAttr ixOf "_nfinished" BOp.add (bVar "self") (pure (AV.int 1))))))))))
noncomputable def aDone : List AV → AHM AV := aDef (fRest ["self"] "nodes") done.prog
noncomputable def add.prog : AM AFlow :=
 bSeq (bIfS (bCmp COp.nis (bAttr ixOf "_ready_nodes" (bVar "self")) (pure AV.none)) AM.bad (pure AFlow.next))
  (bSeq
   (bSet "nodeinfo" (bMethO "TopologicalSorter" "_get_nodeinfo" aGni (bVar "self") (bCons (bVar "node") (pure []))))
   (bSeq (bAugAttr ixOf "npredecessors" BOp.add (bVar "nodeinfo") (bCall aLen (bCons (bVar "predecessors") (pure []))))
    (bFor (bIter (bVar "predecessors")) (fun v => setVar "pred" v)
     (bSeq
      (bSet "pred_info"
       (bMethO "TopologicalSorter" "_get_nodeinfo" aGni (bVar "self") (bCons (bVar "pred") (pure []))))
      (bExpr
       (bMeth "list" aAppend (bAttr ixOf "successors" (bVar "pred_info")) (bCons (bVar "node") (pure []))))))))
noncomputable def aTsAdd : List AV → AHM AV := aDef (fRest ["self", "node"] "predecessors") add.prog
noncomputable def prepare.prog : AM AFlow :=
 bSeq (bIfS (bCmp COp.nis (bAttr ixOf "_ready_nodes" (bVar "self")) (pure AV.none)) AM.bad (pure AFlow.next))
  (bSeq
   (bSetAttr ixOf "_ready_nodes" (bVar "self")
    (bComp [] (bValues (bMeth "dict" (aView "dict_values") (bAttr ixOf "_node2info" (bVar "self")) (pure [])))
     (fun v => setVar "i" v) (bCmp COp.eq (bAttr ixOf "npredecessors" (bVar "i")) (pure (AV.int 0)))
     (bEmit (bAttr ixOf "node" (bVar "i")))))
   (bSeq (bSet "cycle" (bMethO "TopologicalSorter" "_find_cycle" aFindCycle (bVar "self") (pure [])))
    (bIfS (bTruth (bVar "cycle"))
     (bRaise "CycleError" (bCons (pure (AV.str "nodes are in a cycle")) (bCons (bVar "cycle") (pure []))))
     (pure AFlow.next))))
noncomputable def aPrepare : List AV → AHM (Except String AV) := aDefX (fArgs ["self"]) prepare.prog
noncomputable def tsInit.prog : AM AFlow :=
 bSeq (bSetAttr ixOf "_node2info" (bVar "self") (lift (aNew (AObj.dict []))))
  (bSeq (bSetAttr ixOf "_ready_nodes" (bVar "self") (pure AV.none))
   (bSeq (bSetAttr ixOf "_npassedout" (bVar "self") (pure (AV.int 0)))
    (bSeq (bSetAttr ixOf "_nfinished" (bVar "self") (pure (AV.int 0)))
     (bIfS (bCmp COp.nis (bVar "graph") (pure AV.none))
      (bFor (bItems (bMeth "dict" (aView "dict_items") (bVar "graph") (pure [])))
       (tgtNames ["node", "predecessors"])
       (bExpr
        (bMethO "TopologicalSorter" "add" aTsAdd (bVar "self") (bConsStar (bVar "node") (bVar "predecessors")))))
      (pure AFlow.next)))))
noncomputable def aTsInit : List AV → AHM AV := aDef (fArgs ["self", "graph"]) tsInit.prog
noncomputable def aTs : List AV → AHM AV := aMake "TopologicalSorter" false aTsInit
noncomputable def swept.prog : AM AFlow :=
 bSeq (bSet "near" (bBin BOp.add (bVar "live") (bList (bCons (pure (AV.int 8)) (pure [])))))
  (bSeq (bSet "needs" (lift (aNew (AObj.dict []))))
   (bSeq
    (bFor (bIter (bVar "live")) (fun v => setVar "name" v)
     (bSetItem (bVar "needs") (bVar "name")
      (bComp ["name", "near"] (bIter (bVar "arrows")) (tgtNames ["first", "second"])
       (bAnd (bCmp COp.eq (bVar "second") (bVar "name"))
        (bAnd (bCmp COp.mem (bVar "first") (bVar "near")) (pure true)))
       (bEmit (bVar "first")))))
    (bSeq (bSet "sorter" (bCall aTs (bCons (bVar "needs") (pure []))))
     (bSeq (bSet "ringed" (pure (AV.bool false)))
      (bSeq
       (bTry "CycleError" (bExprX (bMethOX "TopologicalSorter" "prepare" aPrepare (bVar "sorter") (pure [])))
        (bSet "ringed" (pure (AV.bool true))))
       (bSeq (bSet "rounds" (bList (pure [])))
        (bSeq
         (bSet "waiting"
          (bCall aFilter
           (bCons (bMethO "TopologicalSorter" "get_ready" aGetReady (bVar "sorter") (pure []))
            (bCons (bList (bCons (pure (AV.int 8)) (pure []))) (pure [])))))
         (bSeq
          (bWhile (bCmp COp.ne (bVar "waiting") (bList (pure [])))
           (bSeq
            (bExpr
             (bMeth "list" aAppend (bVar "rounds")
              (bCons (bCall aSorted (bCons (bVar "waiting") (pure []))) (pure []))))
            (bSeq (bSet "live" (bCall aFilter (bCons (bVar "live") (bCons (bVar "waiting") (pure [])))))
             (bSeq (bExpr (bMethO "TopologicalSorter" "done" aDone (bVar "sorter") (bStar (bVar "waiting"))))
              (bSet "waiting"
               (bCall aFilter
                (bCons (bMethO "TopologicalSorter" "get_ready" aGetReady (bVar "sorter") (pure []))
                 (bCons (bList (bCons (pure (AV.int 8)) (pure []))) (pure []))))))))
           (pure AFlow.next))
          (bRet (bList (bCons (bVar "ringed") (bCons (bVar "rounds") (bCons (bVar "live") (pure []))))))))))))))
noncomputable def aSwept : List AV → AHM AV := aDef (fArgs ["live", "arrows"]) swept.prog
noncomputable def looked.prog : AM AFlow :=
 bSeq (bSet "near" (bBin BOp.add (bVar "live") (bList (bCons (pure (AV.int 8)) (pure [])))))
  (bSeq
   (bSet "row"
    (bComp ["part"] (bIter (bVar "live")) (fun v => setVar "name" v) (bCmp COp.mem (bVar "name") (bVar "part"))
     (bEmit (bVar "name"))))
   (bSeq
    (bSet "into"
     (bComp ["near", "row"] (bIter (bVar "arrows")) (tgtNames ["first", "second"])
      (bAnd (bCmp COp.mem (bVar "first") (bVar "near"))
       (bAnd (bCmp COp.mem (bVar "second") (bVar "row")) (pure true)))
      (bEmit (bVar "second"))))
    (bSeq
     (bSet "within"
      (bComp ["row"] (bIter (bVar "arrows")) (tgtNames ["first", "second"])
       (bAnd (bCmp COp.mem (bVar "first") (bVar "row"))
        (bAnd (bCmp COp.mem (bVar "second") (bVar "row")) (pure true)))
       (bEmit (bVar "second"))))
     (bSeq
      (bUnpack (bCall aUld (bCons (bVar "into") (bCons (bVar "within") (pure [])))) (tgtNames ["outer", "other"]))
      (bSeq (bSet "kept" (bList (pure [])))
       (bSeq
        (bSet "found"
         (bCall aFilter
          (bCons (bVar "row")
           (bCons (bCall aFilter (bCons (bVar "row") (bCons (bVar "outer") (pure [])))) (pure [])))))
        (bSeq
         (bWhile (bCmp COp.ne (bVar "found") (bList (pure [])))
          (bSeq (bSet "kept" (bBin BOp.add (bVar "kept") (bVar "found")))
           (bSeq
            (bSet "ahead"
             (bComp ["found"] (bIter (bVar "arrows")) (tgtNames ["first", "second"])
              (bCmp COp.mem (bVar "first") (bVar "found")) (bEmit (bVar "second"))))
            (bSet "found"
             (bCall aFilter
              (bCons
               (bCall aFilter
                (bCons (bVar "row")
                 (bCons (bCall aFilter (bCons (bVar "row") (bCons (bVar "ahead") (pure []))))
                  (pure []))))
               (bCons (bVar "kept") (pure [])))))))
          (pure AFlow.next))
         (bRet
          (bList
           (bCons (bCall aSorted (bCons (bVar "outer") (pure [])))
            (bCons (bVar "other")
             (bCons
              (bCall aFilter
               (bCons (bVar "live")
                (bCons (bCall aFilter (bCons (bVar "row") (bCons (bVar "kept") (pure [])))) (pure []))))
              (pure [])))))))))))))
noncomputable def aLooked : List AV → AHM AV := aDef (fArgs ["live", "part", "arrows"]) looked.prog
noncomputable def due.prog : AM AFlow :=
 bSeq (bSet "there" (bCall aListR (bCons (bCall aRange (bCons (pure (AV.int 8)) (pure []))) (pure []))))
  (bSeq (bSet "told" (bList (pure [])))
   (bSeq
    (bFor (bIter (bVar "parts")) (fun v => setVar "part" v)
     (bSeq
      (bSet "ringed"
       (bVal
        (bCmp COp.ne
         (bSub (bCall aFalls (bCons (bVar "there") (bCons (bVar "sources") (bCons (pure AV.none) (pure [])))))
          (pure (AV.int 1)))
         (bList (pure [])))))
      (bSeq
       (bUnpack (bCall aFalls (bCons (bVar "there") (bCons (bVar "sources") (bCons (pure (AV.int 8)) (pure [])))))
        (tgtNames ["rounds", "there"]))
       (bSeq
        (bExpr
         (bMeth "list" aAppend (bVar "told")
          (bCons (bList (bCons (bVar "ringed") (bCons (bVar "rounds") (bCons (bVar "there") (pure [])))))
           (pure []))))
        (bSeq
         (bSet "row"
          (bComp ["part"] (bIter (bVar "there")) (fun v => setVar "name" v)
           (bCmp COp.mem (bVar "name") (bVar "part")) (bEmit (bVar "name"))))
         (bSeq
          (bSet "outer"
           (bComp ["row", "sources", "there"] (bIter (bVar "row")) (fun v => setVar "name" v) (pure true)
            (bComp1 (bIter (bSub (bVar "sources") (bVar "name"))) (fun v => setVar "one" v)
             (bOr (bCmp COp.eq (bVar "one") (pure (AV.int 8)))
              (bOr
               (bAnd (bCmp COp.mem (bVar "one") (bVar "there"))
                (bAnd (bCmp COp.nmem (bVar "one") (bVar "row")) (pure true)))
               (pure false)))
             (bEmit (bVar "name")))))
          (bSeq (bSet "safe" (bVar "outer"))
           (bSeq
            (bFor (bRange (bCons (bCall aLen (bCons (bVar "row") (pure []))) (pure [])))
             (fun v => setVar "turn" v)
             (bSet "safe"
              (bComp ["safe", "sources"] (bIter (bVar "row")) (fun v => setVar "name" v)
               (bOr (bCmp COp.mem (bVar "name") (bVar "safe"))
                (bOr
                 (bCmp COp.ne
                  (bComp ["safe"] (bIter (bSub (bVar "sources") (bVar "name")))
                   (fun v => setVar "one" v) (bCmp COp.mem (bVar "one") (bVar "safe"))
                   (bEmit (bVar "one")))
                  (bList (pure [])))
                 (pure false)))
               (bEmit (bVar "name")))))
            (bSeq
             (bSet "there"
              (bComp ["row", "safe"] (bIter (bVar "there")) (fun v => setVar "name" v)
               (bOr (bCmp COp.nmem (bVar "name") (bVar "row"))
                (bOr (bCmp COp.mem (bVar "name") (bVar "safe")) (pure false)))
               (bEmit (bVar "name"))))
             (bExpr
              (bMeth "list" aAppend (bVar "told")
               (bCons
                (bList (bCons (bVar "outer") (bCons (bList (pure [])) (bCons (bVar "there") (pure [])))))
                (pure [])))))))))))))
    (bRet (bVar "told"))))
noncomputable def aDue : List AV → AHM AV := aDef (fArgs ["parts", "sources"]) due.prog
noncomputable def told.prog : AM AFlow :=
 bSeq (bSet "live" (bCall aListR (bCons (bCall aRange (bCons (pure (AV.int 8)) (pure []))) (pure []))))
  (bSeq (bSet "told" (bList (pure [])))
   (bSeq
    (bFor (bIter (bVar "parts")) (fun v => setVar "part" v)
     (bSeq
      (bExpr
       (bMeth "list" aAppend (bVar "told")
        (bCons (bCall aSwept (bCons (bVar "live") (bCons (bVar "arrows") (pure [])))) (pure []))))
      (bSeq
       (bExpr
        (bMeth "list" aAppend (bVar "told")
         (bCons
          (bCall aLooked
           (bCons (bSub (bSub (bVar "told") (bNeg (pure (AV.int 1)))) (pure (AV.int 2)))
            (bCons (bVar "part") (bCons (bVar "arrows") (pure [])))))
          (pure []))))
       (bSet "live" (bSub (bSub (bVar "told") (bNeg (pure (AV.int 1)))) (pure (AV.int 2)))))))
    (bRet (bVar "told"))))
noncomputable def aTold : List AV → AHM AV := aDef (fArgs ["parts", "arrows"]) told.prog
noncomputable def law.prog : AM AFlow :=
 bSeq
  (bSet "cells"
   (bComp [] (bIter (bSlice (bVar "script") (pure none) (bPart (pure (AV.int 12))) (pure none)))
    (fun v => setVar "cell" v) (pure true)
    (bEmit
     (bBin BOp.mod (bCall aInt (bCons (bVar "cell") (pure [])))
      (bBin BOp.pow (pure (AV.int 10)) (pure (AV.int 6)))))))
  (bSeq
   (bSet "starts"
    (bList
     (bCons (pure (AV.int 8))
      (bCons (pure (AV.int 9))
       (bCons (pure (AV.int 1))
        (bCons (pure (AV.int 47))
         (bCons (pure (AV.int 23))
          (bCons (pure (AV.int 30))
           (bCons (pure (AV.int 39))
            (bCons (pure (AV.int 69))
             (bCons (pure (AV.int 141))
              (bCons (pure (AV.int 34)) (bCons (pure (AV.int 14)) (pure []))))))))))))))
   (bSeq
    (bSet "drawn"
     (bComp ["cells"] (bEnum (bCons (bVar "starts") (pure []))) (tgtNames ["place", "start"]) (pure true)
      (bEmit
       (bBin BOp.add (bVar "start")
        (bCall aSum
         (bCons (bSlice (bVar "cells") (bPart (bVar "place")) (pure none) (bPart (pure (AV.int 11))))
          (pure [])))))))
    (bSeq
     (bSet "arrows"
      (bComp [] (bIter (bVar "drawn")) (fun v => setVar "number" v) (pure true)
       (bEmit
        (bTup
         (bCons (bBin BOp.mod (bVar "number") (pure (AV.int 9)))
          (bCons (bBin BOp.mod (bBin BOp.fdiv (bVar "number") (pure (AV.int 9))) (pure (AV.int 8)))
           (pure [])))))))
     (bSeq
      (bSet "sources"
       (bComp ["arrows"] (bRange (bCons (pure (AV.int 8)) (pure []))) (fun v => setVar "name" v) (pure true)
        (bEmit
         (bComp ["name"] (bIter (bVar "arrows")) (tgtNames ["first", "second"])
          (bCmp COp.eq (bVar "second") (bVar "name")) (bEmit (bVar "first"))))))
      (bSeq (bSet "mark" (bBin BOp.add (pure (AV.int 14)) (bCall aSum (bCons (bVar "cells") (pure [])))))
       (bSeq
        (bSet "half"
         (bComp ["mark"] (bRange (bCons (pure (AV.int 8)) (pure []))) (fun v => setVar "name" v)
          (bCmp COp.eq
           (bBin BOp.mod (bBin BOp.fdiv (bVar "mark") (bBin BOp.pow (pure (AV.int 2)) (bVar "name")))
            (pure (AV.int 2)))
           (pure (AV.int 1)))
          (bEmit (bVar "name"))))
        (bSeq
         (bSet "parts"
          (bList
           (bCons (bVar "half")
            (bCons
             (bComp ["half"] (bRange (bCons (pure (AV.int 8)) (pure []))) (fun v => setVar "name" v)
              (bCmp COp.nmem (bVar "name") (bVar "half")) (bEmit (bVar "name")))
             (bCons (bCall aListR (bCons (bCall aRange (bCons (pure (AV.int 8)) (pure []))) (pure [])))
              (bCons (bList (pure [])) (pure [])))))))
         (bRet
          (bVal
           (bCmp COp.eq (bCall aTold (bCons (bVar "parts") (bCons (bVar "arrows") (pure []))))
            (bCall aDue (bCons (bVar "parts") (bCons (bVar "sources") (pure []))))))))))))))
section
variable {α β : Type}
noncomputable def wpA (m : AM α) (Q : α → AS → Prop) (st : AS) : Prop := m.wp Q st
noncomputable def kBind (f : α → AM β) (Q : β → AS → Prop) : α → AS → Prop := fun a st => wpA (f a) Q st
theorem onVal_some (a : α) (Q : α → AS → Prop) (st : AS) : onVal Q st (some a) = Q a st := rfl
theorem onVal_none (Q : α → AS → Prop) (st : AS) : onVal Q st none = False := rfl
theorem onRes_some (a : α) (h : AH) (K : α → AH → Prop) : onRes K (some (a, h)) = K a h := rfl
theorem onRes_none (K : α → AH → Prop) : onRes K none = False := rfl
theorem kLift_eq (e : List (String × AV)) (Q : α → AS → Prop) (a : α) (h : AH) : kLift e Q a h = Q a ⟨e, h⟩ := rfl
theorem wpA_pure (a : α) (Q : α → AS → Prop) (e : List (String × AV)) (h : AH) : wpA (pure a) Q ⟨e, h⟩ = Q a ⟨e, h⟩ := rfl
theorem wpA_bad (Q : α → AS → Prop) (st : AS) : wpA AM.bad Q st = False := rfl
theorem wpA_bind (m : AM α) (f : α → AM β) (Q : β → AS → Prop) (st : AS) : wpA (m >>= f) Q st = wpA m (kBind f Q) st := rfl
theorem wpA_mono {m : AM α} {Q Q' : α → AS → Prop} {st : AS} (h : wpA m Q st) (hq : ∀ a st', Q a st' → Q' a st') : wpA m Q' st := m.mono h hq
theorem wpH_mk {f : AHM α} {K : α → AH → Prop} {h h' : AH} {a : α} (e : f h = some (a, h')) (k : K a h') : wpH f K h := by unfold wpH; rw [e]; exact k
theorem wpA_see (f : AH → Option α) (Q : α → AS → Prop) (e : List (String × AV)) (h : AH) : wpA (see f) Q ⟨e, h⟩ = onVal Q ⟨e, h⟩ (f h) := rfl
theorem wpA_lift (f : AHM α) (Q : α → AS → Prop) (e : List (String × AV)) (h : AH) : wpA (lift f) Q ⟨e, h⟩ = wpH f (kLift e Q) h := rfl
end
theorem wpA_var (x : String) (Q : AV → AS → Prop) (e : List (String × AV)) (h : AH) : wpA (bVar x) Q ⟨e, h⟩ = onVal Q ⟨e, h⟩ (e.lookup x) := rfl
theorem wpA_setVar (x : String) (v : AV) (Q : Unit → AS → Prop) (e : List (String × AV)) (h : AH) : wpA (setVar x v) Q ⟨e, h⟩ = Q () ⟨put x v e, h⟩ := rfl
theorem wpA_small (n : Nat) (Q : Unit → AS → Prop) (e : List (String × AV)) (h : AH) : wpA (small n) Q ⟨e, h⟩ = (n ≤ 1000000 ∧ Q () ⟨e, h⟩) := rfl
section
variable (x : String) (Q : AFlow → AS → Prop) (QV : AV → AS → Prop) (QB : Bool → AS → Prop) (QL : List AV → AS → Prop) (QU : Unit → AS → Prop) (QI : AIt → AS → Prop) (QE : Except String AV → AS → Prop) (QP : Option Int → AS → Prop) (e : List (String × AV)) (h : AH) (st : AS)
noncomputable def kSeq (k : AM AFlow) : AFlow → AS → Prop := kBind (fun f => match f with
 | .next => k
 | f => pure f) Q
theorem wp_seq (m k : AM AFlow) : wpA (bSeq m k) Q st = wpA m (kSeq Q k) st := rfl
theorem kSeq_next (k : AM AFlow) : kSeq Q k .next st = wpA k Q st := rfl
theorem kSeq_brk (k : AM AFlow) : kSeq Q k .brk st = Q .brk st := rfl
theorem kSeq_cont (k : AM AFlow) : kSeq Q k .cont st = Q .cont st := rfl
theorem kSeq_ret (k : AM AFlow) (v : AV) : kSeq Q k (.ret v) st = Q (.ret v) st := rfl
theorem kSeq_exc (k : AM AFlow) (v : String) : kSeq Q k (.exc v) st = Q (.exc v) st := rfl
noncomputable def kSet : AV → AS → Prop := fun v st => Q .next ⟨put x v st.env, st.hp⟩
theorem wp_set (m : AM AV) : wpA (bSet x m) Q st = wpA m (kSet x Q) st := rfl
theorem kSet_eq (v : AV) : kSet x Q v ⟨e, h⟩ = Q .next ⟨put x v e, h⟩ := rfl
noncomputable def kRet : AV → AS → Prop := fun v st => Q (.ret v) st
theorem wp_ret (m : AM AV) : wpA (bRet m) Q st = wpA m (kRet Q) st := rfl
theorem kRet_eq (v : AV) : kRet Q v st = Q (.ret v) st := rfl
noncomputable def kExpr : AV → AS → Prop := fun zz st => Q .next st
theorem wp_expr (m : AM AV) : wpA (bExpr m) Q st = wpA m (kExpr Q) st := rfl
theorem kExpr_eq (v : AV) : kExpr Q v st = Q .next st := rfl
noncomputable def kExprX : Except String AV → AS → Prop := kBind (fun r => match r with
 | .ok _ => pure .next
 | .error k => pure (.exc k)) Q
theorem wp_exprX (m : AM (Except String AV)) : wpA (bExprX m) Q st = wpA m (kExprX Q) st := rfl
theorem kExprX_ok (v : AV) : kExprX Q (.ok v) st = Q .next st := rfl
theorem kExprX_er (k : String) : kExprX Q (.error k) st = Q (.exc k) st := rfl
noncomputable def kSetX : Except String AV → AS → Prop := kBind (fun r => match r with
 | .ok v => do
  setVar x v
  pure .next
 | .error k => pure (.exc k)) Q
theorem wp_setX (m : AM (Except String AV)) : wpA (bSetX x m) Q st = wpA m (kSetX x Q) st := rfl
theorem kSetX_ok (v : AV) : kSetX x Q (.ok v) ⟨e, h⟩ = Q .next ⟨put x v e, h⟩ := rfl
theorem kSetX_er (k : String) : kSetX x Q (.error k) st = Q (.exc k) st := rfl
noncomputable def kIfS (m k : AM AFlow) : Bool → AS → Prop := kBind (fun b => if b = true then m else k) Q
theorem wp_ifS (t : AM Bool) (m k : AM AFlow) : wpA (bIfS t m k) Q st = wpA t (kIfS Q m k) st := rfl
theorem kIfS_t (m k : AM AFlow) : kIfS Q m k true st = wpA m Q st := rfl
theorem kIfS_f (m k : AM AFlow) : kIfS Q m k false st = wpA k Q st := rfl
noncomputable def kTry (k : String) (hd : AM AFlow) : AFlow → AS → Prop := kBind (fun f => match f with
 | .exc k' => if k' = k then noExc hd else AM.bad
 | f => pure f) Q
theorem wp_try (k : String) (m hd : AM AFlow) : wpA (bTry k m hd) Q st = wpA m (kTry Q k hd) st := rfl
theorem kTry_next (k : String) (hd : AM AFlow) : kTry Q k hd .next st = Q .next st := rfl
theorem kTry_brk (k : String) (hd : AM AFlow) : kTry Q k hd .brk st = Q .brk st := rfl
theorem kTry_exc (k : String) (hd : AM AFlow) : kTry Q k hd (.exc k) st = wpA (noExc hd) Q st := by
 show wpA (if k = k then noExc hd else AM.bad) Q st = _
 rw [if_pos rfl]
noncomputable def kNoExc : AFlow → AS → Prop := kBind (fun f => match f with
 | .exc _ => AM.bad
 | f => pure f) Q
theorem wp_noExc (m : AM AFlow) : wpA (noExc m) Q st = wpA m (kNoExc Q) st := rfl
theorem kNoExc_next : kNoExc Q .next st = Q .next st := rfl
noncomputable def kRaise (k : String) : List AV → AS → Prop := fun vs st => vs.length ≤ 1000000 ∧ Q (.exc k) st
theorem wp_raise (k : String) (m : AM (List AV)) : wpA (bRaise k m) Q st = wpA m (kRaise Q k) st := rfl
theorem kRaise_eq (k : String) (vs : List AV) : kRaise Q k vs st = (vs.length ≤ 1000000 ∧ Q (.exc k) st) := rfl
noncomputable def kUnpack (f : AV → AM Unit) : AV → AS → Prop := fun v st => wpA (f v) (kDone Q) st
where kDone (Q : AFlow → AS → Prop) : Unit → AS → Prop := fun zz st => Q .next st
theorem wp_unpack (m : AM AV) (f : AV → AM Unit) : wpA (bUnpack m f) Q st = wpA m (kUnpack Q f) st := rfl
theorem kUnpack_eq (f : AV → AM Unit) (v : AV) : kUnpack Q f v st = wpA (f v) (kUnpack.kDone Q) st := rfl
theorem kDone_eq (u : Unit) : kUnpack.kDone Q u st = Q .next st := rfl
theorem kBind_eq {α β : Type} (f : α → AM β) (Q : β → AS → Prop) (a : α) : kBind f Q a st = wpA (f a) Q st := rfl
theorem wp_setItem (mo mi mv : AM AV) : wpA (bSetItem mo mi mv) Q st = wpA mv (kBind (fun v => mo >>= fun o => mi >>= fun i => lift (aSetItem o i v) >>= fun zz => pure .next) Q) st := rfl
theorem wp_setItemName (mo mi mv : AM AV) : wpA (bSetItemName mo mi x mv) Q st = wpA mv (kBind (fun v => mo >>= fun o => mi >>= fun i => lift (aSetItem o i v) >>= fun zz => setVar x v >>= fun zz => pure .next) Q) st := rfl
theorem wp_del (mo mi : AM AV) : wpA (bDel mo mi) Q st = wpA mo (kBind (fun o => mi >>= fun i => lift (aDelItem o i) >>= fun zz => pure .next) Q) st := rfl
theorem wp_setAttr (ix : String → String → Option (Option Nat)) (mo mv : AM AV) : wpA (bSetAttr ix x mo mv) Q st = wpA mv (kBind (fun v => mo >>= fun o => lift (aSetAttr ix x o v) >>= fun zz => pure .next) Q) st := rfl
theorem addsZ_eq (o : BOp) (a b : Int) : addsZ o (.int a) (.int b) = lift (aBin o (.int a) (.int b)) := rfl
theorem wp_augAttr (ix : String → String → Option (Option Nat)) (o : BOp) (mo mv : AM AV) : wpA (bAugAttr ix x o mo mv) Q st = wpA mo (kBind (fun ov => see (aAttr ix x ov) >>= fun old => mv >>= fun v => addsZ o old v >>= fun nw => lift (aSetAttr ix x ov nw) >>= fun zz => pure .next) Q) st := rfl
theorem wp_bin (o : BOp) (m k : AM AV) : wpA (bBin o m k) QV st = wpA m (kBind (fun x => k >>= fun y => lift (aBin o x y)) QV) st := rfl
theorem wp_cmp (o : COp) (m k : AM AV) : wpA (bCmp o m k) QB st = wpA m (kBind (fun x => k >>= fun y => see (aCmp o x y)) QB) st := rfl
noncomputable def kVal : Bool → AS → Prop := fun b st => QV (.bool b) st
theorem wp_val (m : AM Bool) : wpA (bVal m) QV st = wpA m (kVal QV) st := rfl
theorem kVal_eq (b : Bool) : kVal QV b st = QV (.bool b) st := rfl
noncomputable def kTruth : AV → AS → Prop := fun v st => onVal QB st (aTruth v st.hp)
theorem wp_truth (m : AM AV) : wpA (bTruth m) QB st = wpA m (kTruth QB) st := rfl
theorem kTruth_eq (v : AV) : kTruth QB v ⟨e, h⟩ = onVal QB ⟨e, h⟩ (aTruth v h) := rfl
noncomputable def kNot : Bool → AS → Prop := fun b st => QB (!b) st
theorem wp_not (m : AM Bool) : wpA (bNot m) QB st = wpA m (kNot QB) st := rfl
theorem kNot_eq (b : Bool) : kNot QB b st = QB (!b) st := rfl
noncomputable def kAnd (k : AM Bool) : Bool → AS → Prop := kBind (fun b => if b = true then k else pure false) QB
theorem wp_and (m k : AM Bool) : wpA (bAnd m k) QB st = wpA m (kAnd QB k) st := rfl
noncomputable def kOr (k : AM Bool) : Bool → AS → Prop := kBind (fun b => if b = true then pure true else k) QB
theorem wp_or (m k : AM Bool) : wpA (bOr m k) QB st = wpA m (kOr QB k) st := rfl
theorem kAnd_t (k : AM Bool) : kAnd QB k true st = wpA k QB st := rfl
theorem kAnd_f (k : AM Bool) : kAnd QB k false st = QB false st := rfl
theorem kOr_t (k : AM Bool) : kOr QB k true st = QB true st := rfl
theorem kOr_f (k : AM Bool) : kOr QB k false st = wpA k QB st := rfl
noncomputable def kNeg : AV → AS → Prop := kBind negV QV
theorem wp_neg (m : AM AV) : wpA (bNeg m) QV st = wpA m (kNeg QV) st := rfl
theorem kNeg_eq (i : Int) : kNeg QV (.int i) st = QV (.int (-i)) st := rfl
noncomputable def kCons (k : AM (List AV)) : AV → AS → Prop := fun x st => wpA k (kC1 QL x) st
where kC1 (QL : List AV → AS → Prop) (x : AV) : List AV → AS → Prop := fun xs st => QL (x :: xs) st
theorem wp_cons (m : AM AV) (k : AM (List AV)) : wpA (bCons m k) QL st = wpA m (kCons QL k) st := rfl
theorem kCons_eq (k : AM (List AV)) (v : AV) : kCons QL k v st = wpA k (kCons.kC1 QL v) st := rfl
theorem kC1_eq (v : AV) (vs : List AV) : kCons.kC1 QL v vs st = QL (v :: vs) st := rfl
noncomputable def kList : List AV → AS → Prop := fun xs st => xs.length ≤ 1000000 ∧ QV (.ref st.hp.length) ⟨st.env, st.hp ++ [(.list xs, 0)]⟩
theorem wp_list (m : AM (List AV)) : wpA (bList m) QV st = wpA m (kList QV) st := rfl
theorem kList_eq (xs : List AV) : kList QV xs ⟨e, h⟩ = (xs.length ≤ 1000000 ∧ QV (.ref h.length) ⟨e, h ++ [(.list xs, 0)]⟩) := rfl
noncomputable def kTup : List AV → AS → Prop := fun xs st => xs.length ≤ 1000000 ∧ QV (.tup xs) st
theorem wp_tup (m : AM (List AV)) : wpA (bTup m) QV st = wpA m (kTup QV) st := rfl
theorem kTup_eq (xs : List AV) : kTup QV xs st = (xs.length ≤ 1000000 ∧ QV (.tup xs) st) := rfl
theorem wp_iter (m : AM AV) : wpA (bIter m) QI st = wpA m (kBind (fun v => see (itemsOf v)) QI) st := rfl
theorem wp_range (m : AM (List AV)) : wpA (bRange m) QI st = wpA m (kBind (fun vs => see fun zz => rangeOf vs) QI) st := rfl
theorem wp_enum (m : AM (List AV)) : wpA (bEnum m) QI st = wpA m (kBind (fun vs => see fun hp => enumOf hp vs) QI) st := rfl
theorem wp_values (m : AM AV) : wpA (bValues m) QI st = wpA m (kBind (fun v => see (viewOf "dict_values" (·.2) v)) QI) st := rfl
theorem wp_items (m : AM AV) : wpA (bItems m) QI st = wpA m (kBind (fun v => see (viewOf "dict_items" (fun e => .tup [.int e.1, e.2]) v)) QI) st := rfl
noncomputable def kCall {α : Type} (f : List AV → AHM α) (Q : α → AS → Prop) : List AV → AS → Prop := fun vs st => wpH (f vs) (kLift st.env Q) st.hp
theorem wp_call (f : List AV → AHM AV) (m : AM (List AV)) : wpA (bCall f m) QV st = wpA m (kCall f QV) st := rfl
theorem wp_callX (f : List AV → AHM (Except String AV)) (m : AM (List AV)) : wpA (bCallX f m) QE st = wpA m (kCall f QE) st := rfl
theorem kCall_eq {α : Type} (f : List AV → AHM α) (Q : α → AS → Prop) (vs : List AV) : kCall f Q vs ⟨e, h⟩ = wpH (f vs) (kLift e Q) h := rfl
theorem wp_meth (T : String) (f : List AV → AHM AV) (m : AM AV) (as : AM (List AV)) : wpA (bMeth T f m as) QV st = wpA m (kBind (fun o => isTy T o >>= fun zz => as >>= fun vs => lift (f (o :: vs))) QV) st := rfl
theorem wp_methX (T : String) (f : List AV → AHM (Except String AV)) (m : AM AV) (as : AM (List AV)) : wpA (bMethX T f m as) QE st = wpA m (kBind (fun o => isTy T o >>= fun zz => as >>= fun vs => lift (f (o :: vs))) QE) st := rfl
theorem wp_methO (c n : String) (f : List AV → AHM AV) (m : AM AV) (as : AM (List AV)) : wpA (bMethO c n f m as) QV st = wpA m (kBind (fun o => see (ownM c n o) >>= fun zz => as >>= fun vs => lift (f (o :: vs))) QV) st := rfl
theorem wp_methOX (c n : String) (f : List AV → AHM (Except String AV)) (m : AM AV) (as : AM (List AV)) : wpA (bMethOX c n f m as) QE st = wpA m (kBind (fun o => see (ownM c n o) >>= fun zz => as >>= fun vs => lift (f (o :: vs))) QE) st := rfl
theorem wp_isTy (T : String) (v : AV) : wpA (isTy T v) QU ⟨e, h⟩ = (tyOf v h = some T ∧ QU () ⟨e, h⟩) := by
 unfold isTy; rw [wpA_see]; by_cases hx : tyOf v h = some T <;> simp [hx, onVal]
theorem wp_sub (m k : AM AV) : wpA (bSub m k) QV st = wpA m (kBind (fun o => k >>= fun i => see (aIdx o i)) QV) st := rfl
theorem wp_part (m : AM AV) : wpA (bPart m) QP st = wpA m (kBind (fun v => see fun zz => partOf v) QP) st := rfl
theorem wp_slice (m : AM AV) (lo hi s : AM (Option Int)) : wpA (bSlice m lo hi s) QV st = wpA m (kBind (fun o => lo >>= fun a => hi >>= fun b => s >>= fun c => lift (aSlice o a b c)) QV) st := rfl
noncomputable def kNamed : AV → AS → Prop := fun v st => QV v ⟨put x v st.env, st.hp⟩
theorem wp_named (m : AM AV) : wpA (bNamed x m) QV st = wpA m (kNamed x QV) st := rfl
theorem kNamed_eq (v : AV) : kNamed x QV v ⟨e, h⟩ = QV v ⟨put x v e, h⟩ := rfl
theorem wp_attr (ix : String → String → Option (Option Nat)) (m : AM AV) : wpA (bAttr ix x m) QV st = wpA m (kBind (fun o => see (aAttr ix x o)) QV) st := rfl
theorem wp_wrap (m : AM AV) : wpA (bWrap x m) QV st = wpA m (kBind (fun o => lift (aWrap x o)) QV) st := rfl
theorem wp_callB (m : AM AV) (as : AM (List AV)) : wpA (bCallB m as) QE st = wpA m (kBind (fun f => as >>= fun vs => lift (aCallB f vs)) QE) st := rfl
noncomputable def kOk : Except String AV → AS → Prop := kBind (fun r => match r with
 | .ok v => pure v
 | .error _ => AM.bad) QV
theorem wp_ok (m : AM (Except String AV)) : wpA (bOk m) QV st = wpA m (kOk QV) st := rfl
theorem kOk_ok (v : AV) : kOk QV (.ok v) st = QV v st := rfl
theorem kOk_er (k : String) : kOk QV (.error k) st = False := rfl
theorem wp_star (m : AM AV) : wpA (bStar m) QL st = wpA m (kBind (fun v => see (starOf v)) QL) st := rfl
theorem wp_consStar (m k : AM AV) : wpA (bConsStar m k) QL st = wpA m (kCons QL (bStar k)) st := rfl
noncomputable def kEmit : AV → AS → Prop := fun v st => QL [v] st
theorem wp_emit (m : AM AV) : wpA (bEmit m) QL st = wpA m (kEmit QL) st := rfl
theorem kEmit_eq (v : AV) : kEmit QL v st = QL [v] st := rfl
theorem wp_names (xs : List String) (ys : List AV) : wpA (tgtNames xs (.tup ys)) QU st = wpA (setVars xs ys) QU st := rfl
theorem wp_setVars_nil : wpA (setVars [] []) QU ⟨e, h⟩ = QU () ⟨e, h⟩ := wpA_pure _ _ _ _
theorem wp_setVars_cons (xs : List String) (y : AV) (ys : List AV) : wpA (setVars (x :: xs) (y :: ys)) QU ⟨e, h⟩ = wpA (setVars xs ys) QU ⟨put x y e, h⟩ := rfl
end
end Mine
theorem Mine.gen {α : Sort _} (a : α) {P : Prop} (k : ∀ b, a = b → P) : P := k a rfl
namespace Mine
section
variable (Q : AFlow → AS → Prop) (J : AS → Prop) (st : AS)
noncomputable def kWhile : AFlow → AS → Prop := fun f st => f.casesOn (J st) (Q .next st) (J st) (fun v => Q (.ret v) st) fun k => Q (.exc k) st
theorem kWhile_next : kWhile Q J .next st = J st := rfl
theorem kWhile_cont : kWhile Q J .cont st = J st := rfl
theorem kWhile_brk : kWhile Q J .brk st = Q .next st := rfl
theorem kWhile_ret (v : AV) : kWhile Q J (.ret v) st = Q (.ret v) st := rfl
theorem kWhile_exc (v : String) : kWhile Q J (.exc v) st = Q (.exc v) st := rfl
noncomputable def kTest (b e : AM AFlow) : Bool → AS → Prop := fun c st => if c = true then wpA b (kWhile Q J) st else wpA e Q st
theorem kTest_t (b e : AM AFlow) : kTest Q J b e true st = wpA b (kWhile Q J) st := rfl
theorem kTest_f (b e : AM AFlow) : kTest Q J b e false st = wpA e Q st := rfl
end
noncomputable def Less (I : Nat → AS → Prop) (n : Nat) : AS → Prop := fun st => ∃ m, m < n ∧ I m st
noncomputable abbrev afterB (t : AM Bool) (b e : AM AFlow) (n : Nat) : AFlow → AM AFlow := aftF (bWhileN t b e n)
theorem wp_while {t : AM Bool} {b e : AM AFlow} {Q : AFlow → AS → Prop} (I : Nat → AS → Prop) (hs : ∀ n st, I n st → wpA t (kTest Q (Less I n) b e) st) : ∀ n st, I n st → wpA (bWhile t b e) Q st := by
 have key : ∀ n st, I n st → ∃ k r st', bWhileN t b e k st = some (r, st') ∧ Q r st' := by
  intro n
  induction n using Nat.strongRecOn with
  | ind n ih =>
   intro st hI
   obtain ⟨c, st1, hc, hk⟩ := t.ok (hs n st hI)
   cases c with
   | false =>
    obtain ⟨r, st', he, hq⟩ := e.ok hk
    exact ⟨1, r, st', (AM.bindR_ok hc).trans he, hq⟩
   | true =>
    obtain ⟨f, st2, hb, hk⟩ := b.ok hk
    have go : ∀ (m : Nat) (r : AFlow) (st' : AS), afterB t b e m f st2 = some (r, st') → bWhileN t b e (m + 1) st = some (r, st') := by
     intro m r st' hh
     exact (AM.bindR_ok hc).trans ((AM.bindR_ok hb).trans hh)
    cases f with
    | next =>
     obtain ⟨m, hm, hI'⟩ := hk
     obtain ⟨k, r, st', hh, hq⟩ := ih m hm st2 hI'
     exact ⟨k + 1, r, st', go k r st' hh, hq⟩
    | cont =>
     obtain ⟨m, hm, hI'⟩ := hk
     obtain ⟨k, r, st', hh, hq⟩ := ih m hm st2 hI'
     exact ⟨k + 1, r, st', go k r st' hh, hq⟩
    | brk => exact ⟨1, .next, st2, go 0 _ _ rfl, hk⟩
    | ret v => exact ⟨1, .ret v, st2, go 0 _ _ rfl, hk⟩
    | exc v => exact ⟨1, .exc v, st2, go 0 _ _ rfl, hk⟩
 intro n st hI
 obtain ⟨k, r, st', hh, hq⟩ := key n st hI
 exact ⟨r, st', bWhile_some.mpr ⟨k, hh⟩, hq⟩
noncomputable def kFor (tgt : AV → AM Unit) (body : AM AFlow) (Q : AFlow → AS → Prop) : AIt → AS → Prop := fun ai st => wpA (forLoop ai.gs tgt body ai.items) Q st
theorem wp_for (it : AM AIt) (tgt : AV → AM Unit) (body : AM AFlow) (Q : AFlow → AS → Prop) (st : AS) : wpA (bFor it tgt body) Q st = wpA it (kFor tgt body Q) st := by
 rfl
theorem kFor_eq (tgt : AV → AM Unit) (body : AM AFlow) (Q : AFlow → AS → Prop) (gs : List (Nat × (AObj × Nat))) (xs : List AV) (st : AS) : kFor tgt body Q ⟨gs, xs⟩ st = wpA (forLoop gs tgt body xs) Q st := rfl
noncomputable def kTgt (body : AM AFlow) (Q : AFlow → AS → Prop) (J : AS → Prop) : Unit → AS → Prop := fun zz st => wpA body (kWhile Q J) st
theorem kTgt_eq (body : AM AFlow) (Q : AFlow → AS → Prop) (J : AS → Prop) (u : Unit) (st : AS) : kTgt body Q J u st = wpA body (kWhile Q J) st := rfl
theorem wp_guard {gs : List (Nat × (AObj × Nat))} {st : AS} {Q : Unit → AS → Prop} (h : ∀ g ∈ gs, st.hp[g.1]? = some g.2) (hq : Q () st) : wpA (guard gs) Q st := ⟨h, hq⟩
theorem wp_forLoop {gs : List (Nat × (AObj × Nat))} {tgt : AV → AM Unit} {body : AM AFlow} {Q : AFlow → AS → Prop} (I : List AV → AS → Prop) (hg : ∀ xs st, I xs st → ∀ g ∈ gs, st.hp[g.1]? = some g.2)
  (hs : ∀ x xs st, I (x :: xs) st → wpA (tgt x) (kTgt body Q (I xs)) st) (he : ∀ st, I [] st → Q .next st) : ∀ xs st, I xs st → wpA (forLoop gs tgt body xs) Q st := by
 intro xs
 induction xs with
 | nil => exact fun st hI => ⟨hg _ _ hI, he _ hI⟩
 | cons x xs ih =>
  refine fun st hI => ⟨hg _ _ hI, (tgt x).mono (hs _ _ _ hI) fun zz st1 h1 => body.mono h1 fun f st2 h2 => ?_⟩
  cases f with
  | next => exact ih _ h2
  | cont => exact ih _ h2
  | brk => exact h2
  | ret v => exact h2
  | exc v => exact h2
theorem wp_comp (frees : List String) (it : AM AIt) (f : AV → AM Unit) (tst : AM Bool) (m : AM (List AV)) (Q : AV → AS → Prop) (st : AS) : wpA (bComp frees it f tst m) Q st = wpA it (kComp frees f tst m Q) st := by
 rfl
noncomputable def kComp1 (f : AV → AM Unit) (tst : AM Bool) (m : AM (List AV)) (Q : List AV → AS → Prop) : AIt → AS → Prop := fun ai st => wpA (compLoop ai.gs f tst m ai.items) Q st
theorem wp_comp1 (it : AM AIt) (f : AV → AM Unit) (tst : AM Bool) (m : AM (List AV)) (Q : List AV → AS → Prop) (st : AS) : wpA (bComp1 it f tst m) Q st = wpA it (kComp1 f tst m Q) st := by
 rfl
theorem kComp_eq (frees : List String) (f : AV → AM Unit) (tst : AM Bool) (m : AM (List AV)) (Q : AV → AS → Prop) (gs : List (Nat × (AObj × Nat))) (xs : List AV) (e : List (String × AV)) (h : AH) :
  kComp frees f tst m Q ⟨gs, xs⟩ ⟨e, h⟩ = wpA (compLoop gs f tst m xs) (kCompEnd e Q) ⟨restrict frees e, h⟩ := rfl
theorem kComp1_eq (f : AV → AM Unit) (tst : AM Bool) (m : AM (List AV)) (Q : List AV → AS → Prop) (gs : List (Nat × (AObj × Nat))) (xs : List AV) (st : AS) :
  kComp1 f tst m Q ⟨gs, xs⟩ st = wpA (compLoop gs f tst m xs) Q st := rfl
noncomputable def kTst (m : AM (List AV)) (P : List AV → AS → Prop) : Bool → AS → Prop := kBind (fun b => if b = true then m else pure []) P
theorem kTst_t (m : AM (List AV)) (P : List AV → AS → Prop) (st : AS) : kTst m P true st = wpA m P st := rfl
theorem kTst_f (m : AM (List AV)) (P : List AV → AS → Prop) (st : AS) : kTst m P false st = P [] st := rfl
noncomputable def kTgtC (tst : AM Bool) (m : AM (List AV)) (P : List AV → AS → Prop) : Unit → AS → Prop := fun zz st => wpA tst (kTst m P) st
theorem kTgtC_eq (tst : AM Bool) (m : AM (List AV)) (P : List AV → AS → Prop) (u : Unit) (st : AS) : kTgtC tst m P u st = wpA tst (kTst m P) st := rfl
noncomputable def EnvOn (ns : List String) (e e' : List (String × AV)) : Prop := ∀ y ∈ ns, e'.lookup y = e.lookup y
theorem lookup_restrict (ns : List String) (y : String) (hy : y ∈ ns) : ∀ e : List (String × AV), (restrict ns e).lookup y = e.lookup y
 | [] => rfl
 | (z, w) :: r => by
  have ih := lookup_restrict ns y hy r
  unfold restrict at ih ⊢
  by_cases hz : y = z
  ·subst hz
   simp [List.filter, hy, List.lookup]
  ·have hb : (y == z) = false := by simpa using hz
   by_cases hm : z ∈ ns
   ·simp [List.filter, hm, List.lookup, hb]; simpa using ih
   ·simp [List.filter, hm, List.lookup, hb]; simpa using ih
noncomputable def kStep (P : AS → Prop) (ys : List AV) : List AV → AS → Prop := fun zs st => zs = ys ∧ P st
theorem compLoop_rule {gs : List (Nat × (AObj × Nat))} {f : AV → AM Unit} {tst : AM Bool} {m : AM (List AV)} {Q : List AV → AS → Prop} (g : AV → List AV) (I : AS → Prop)
  (hg : ∀ st, I st → ∀ x ∈ gs, st.hp[x.1]? = some x.2) : ∀ (xs : List AV), (∀ x ∈ xs, ∀ st, I st → wpA (f x) (kTgtC tst m (kStep I (g x))) st) → ∀ st, I st → (∀ st', I st' → Q (xs.flatMap g) st') → wpA (compLoop gs f tst m xs) Q st := by
 intro xs
 induction xs generalizing Q with
 | nil => exact fun hs st hI hq => ⟨hg _ hI, hq _ hI⟩
 | cons x xs ih =>
  refine fun hs st hI hq => ⟨hg _ hI, (f x).mono (hs x List.mem_cons_self _ hI) fun zz st1 h1 => tst.mono h1 fun b st2 h2 => ?_⟩
  have hs' := fun y (hy : y ∈ xs) => hs y (List.mem_cons_of_mem _ hy)
  cases b with
  | true =>
   refine m.mono h2 fun ys st3 h3 => ?_
   obtain ⟨rfl, h3⟩ := h3
   exact ih hs' st3 h3 fun st4 h4 => hq _ h4
  | false =>
   obtain ⟨hz, h2⟩ := h2
   refine ih hs' st2 h2 fun st4 h4 => ?_
   have := hq _ h4
   rwa [List.flatMap_cons, ← hz, List.nil_append] at this
theorem prefix_get {h h' : AH} (p : h <+: h') {i : Nat} {x : AObj × Nat} (e : h[i]? = some x) : h'[i]? = some x := by
 obtain ⟨t, rfl⟩ := p
 have hi := (List.getElem?_eq_some_iff.mp e).1
 rw [List.getElem?_append_left hi]; exact e
theorem comp_filter {β : Type} {frees : List String} {gs : List (Nat × (AObj × Nat))} {f : AV → AM Unit} {tst : AM Bool} {m : AM (List AV)} {Q : AV → AS → Prop} {e : List (String × AV)} {h : AH} (inj : β → AV) (xs : List β) (p : β → Bool) (out : β → AV)
  (hg : ∀ x ∈ gs, h[x.1]? = some x.2)
  (hs : ∀ x ∈ xs, ∀ e' h', EnvOn frees e e' → h <+: h' → wpA (f (inj x)) (kTgtC tst m (kStep (fun st => EnvOn frees e st.env ∧ h <+: st.hp) (if p x = true then [out x] else []))) ⟨e', h'⟩)
  (hl : xs.length ≤ 1000000) (hq : ∀ h', h <+: h' → Q (.ref h'.length) ⟨e, h' ++ [(.list ((xs.filter p).map out), 0)]⟩) : wpA (compLoop gs f tst m (xs.map inj)) (kCompEnd e Q) ⟨restrict frees e, h⟩ := by
 have key : ∀ (xs : List β) (Q : List AV → AS → Prop) (st : AS), (∀ x ∈ xs, ∀ e' h', EnvOn frees e e' → h <+: h' → wpA (f (inj x)) (kTgtC tst m (kStep (fun st => EnvOn frees e st.env ∧ h <+: st.hp) (if p x = true then [out x] else []))) ⟨e', h'⟩) → (EnvOn frees e st.env ∧ h <+: st.hp) →
   (∀ st', EnvOn frees e st'.env ∧ h <+: st'.hp → Q ((xs.filter p).map out) st') → wpA (compLoop gs f tst m (xs.map inj)) Q st := by
  intro xs
  induction xs with
  | nil => exact fun Q st hs hI hq => ⟨fun x hx => prefix_get hI.2 (hg x hx), hq _ hI⟩
  | cons x xs ih =>
   refine fun Q st hs hI hq => ⟨fun x hx => prefix_get hI.2 (hg x hx), (f (inj x)).mono (hs x List.mem_cons_self _ _ hI.1 hI.2) fun zz st1 h1 => tst.mono h1 fun b st2 h2 => ?_⟩
   have hs' := fun y (hy : y ∈ xs) => hs y (List.mem_cons_of_mem _ hy)
   cases b with
   | true =>
    refine m.mono h2 fun ys st3 h3 => ?_
    refine ih _ st3 hs' h3.2 fun st4 h4 => ?_
    have := hq _ h4
    show Q (ys ++ _) st4
    rw [h3.1]
    cases hp : p x with
    | true => rw [List.filter_cons_of_pos hp] at this; exact this
    | false => rw [List.filter_cons_of_neg (by rw [hp]; exact Bool.false_ne_true)] at this; exact this
   | false =>
    refine ih _ st2 hs' h2.2 fun st4 h4 => ?_
    have := hq _ h4
    have hz := h2.1
    cases hp : p x with
    | true => rw [if_pos hp] at hz; cases hz
    | false => rw [List.filter_cons_of_neg (by rw [hp]; exact Bool.false_ne_true)] at this; exact this
 refine key xs _ _ hs ⟨fun y hy => lookup_restrict _ _ hy _, List.prefix_refl _⟩ fun st' h' => ⟨?_, hq _ h'.2⟩
 rw [List.length_map]
 exact Nat.le_trans (List.length_filter_le _ _) hl
noncomputable def kBody (K : AV → AH → Prop) : AFlow → AS → Prop := fun f st => match f with
 | .ret v => K v st.hp
 | .next => K .none st.hp
 | _ => False
noncomputable def kBodyX (K : Except String AV → AH → Prop) : AFlow → AS → Prop := fun f st => match f with
 | .ret v => K (.ok v) st.hp
 | .next => K (.ok .none) st.hp
 | .exc k => K (.error k) st.hp
 | _ => False
theorem kBody_ret (K : AV → AH → Prop) (v : AV) (e : List (String × AV)) (h : AH) : kBody K (.ret v) ⟨e, h⟩ = K v h := rfl
theorem kBody_next (K : AV → AH → Prop) (e : List (String × AV)) (h : AH) : kBody K .next ⟨e, h⟩ = K .none h := rfl
theorem kBodyX_ret (K : Except String AV → AH → Prop) (v : AV) (e : List (String × AV)) (h : AH) : kBodyX K (.ret v) ⟨e, h⟩ = K (.ok v) h := rfl
theorem kBodyX_next (K : Except String AV → AH → Prop) (e : List (String × AV)) (h : AH) : kBodyX K .next ⟨e, h⟩ = K (.ok .none) h := rfl
theorem kBodyX_exc (K : Except String AV → AH → Prop) (k : String) (e : List (String × AV)) (h : AH) : kBodyX K (.exc k) ⟨e, h⟩ = K (.error k) h := rfl
theorem wp_def {f : List AV → Option (List (String × AV))} {body : AM AFlow} {args : List AV} {bs : List (String × AV)} {K : AV → AH → Prop} {h : AH} (hf : f args = some bs) (hb : wpA body (kBody K) ⟨bs, h⟩) : wpH (aDef f body args) K h := by
 obtain ⟨fl, st, e, k⟩ := body.ok hb
 cases fl with
 | ret v => exact wpH_mk (by show bO (f args) _ = _; rw [hf]; show bO (body _) _ = _; rw [e]; rfl) k
 | next => exact wpH_mk (by show bO (f args) _ = _; rw [hf]; show bO (body _) _ = _; rw [e]; rfl) k
 | brk => exact k.elim
 | cont => exact k.elim
 | exc _ => exact k.elim
theorem wp_defX {f : List AV → Option (List (String × AV))} {body : AM AFlow} {args : List AV} {bs : List (String × AV)} {K : Except String AV → AH → Prop} {h : AH} (hf : f args = some bs) (hb : wpA body (kBodyX K) ⟨bs, h⟩) : wpH (aDefX f body args) K h := by
 obtain ⟨fl, st, e, k⟩ := body.ok hb
 cases fl with
 | ret v => exact wpH_mk (by show bO (f args) _ = _; rw [hf]; show bO (body _) _ = _; rw [e]; rfl) k
 | next => exact wpH_mk (by show bO (f args) _ = _; rw [hf]; show bO (body _) _ = _; rw [e]; rfl) k
 | exc v => exact wpH_mk (by show bO (f args) _ = _; rw [hf]; show bO (body _) _ = _; rw [e]; rfl) k
 | brk => exact k.elim
 | cont => exact k.elim
noncomputable def kMade (r : Nat) (K : AV → AH → Prop) : AV → AH → Prop := fun v h => v = .none ∧ K (.ref r) h
theorem wp_make (c : String) (sl : Bool) (init : List AV → AHM AV) (args : List AV) (K : AV → AH → Prop) (h : AH) : wpH (aMake c sl init args) K h = wpH (init (.ref (h.length + 1) :: args)) (kMade (h.length + 1) K) (h ++ [(.attrs [], 0), (if sl = true then .sinst c h.length [] else .inst c h.length, 0)]) := by
 show onRes K (aMake c sl init args h) = onRes (kMade (h.length + 1) K) _
 show onRes K (bO (init _ _) _) = _
 generalize init _ _ = x
 cases x with
 | none => rfl
 | some p =>
  obtain ⟨v, h'⟩ := p
  show onRes K (bG (v.isNone = true) _) = (v = .none ∧ K _ h')
  by_cases q : v.isNone = true
  ·rw [isNone_of q]
   exact propext ⟨fun k => ⟨rfl, k⟩, fun k => k.2⟩
  ·unfold bG
   rw [if_neg q]
   exact propext ⟨fun k => k.elim, fun k => q (by rw [k.1]; rfl)⟩
theorem kMade_eq (r : Nat) (K : AV → AH → Prop) (h : AH) : kMade r K .none h = K (.ref r) h := by simp [kMade]
end Mine
set_option backward.defeqAttrib.useBackward true
namespace Mine
theorem run_aAppend (vs : List AV) (K : AV → AH → Prop) (h : AH) : wpH (aAppend vs) K h = onRes K (aAppend vs h) := rfl
theorem run_aPop (vs : List AV) (K : AV → AH → Prop) (h : AH) : wpH (aPop vs) K h = onRes K (aPop vs h) := rfl
theorem run_aClear (vs : List AV) (K : AV → AH → Prop) (h : AH) : wpH (aClear vs) K h = onRes K (aClear vs h) := rfl
theorem run_aGet (vs : List AV) (K : AV → AH → Prop) (h : AH) : wpH (aGet vs) K h = onRes K (aGet vs h) := rfl
theorem run_aAdd (vs : List AV) (K : AV → AH → Prop) (h : AH) : wpH (aAdd vs) K h = onRes K (aAdd vs h) := rfl
theorem run_aIter (vs : List AV) (K : AV → AH → Prop) (h : AH) : wpH (aIter vs) K h = onRes K (aIter vs h) := rfl
theorem run_aLen (vs : List AV) (K : AV → AH → Prop) (h : AH) : wpH (aLen vs) K h = onRes K (aLen vs h) := rfl
theorem run_aInt (vs : List AV) (K : AV → AH → Prop) (h : AH) : wpH (aInt vs) K h = onRes K (aInt vs h) := rfl
theorem run_aSum (vs : List AV) (K : AV → AH → Prop) (h : AH) : wpH (aSum vs) K h = onRes K (aSum vs h) := rfl
theorem run_aTupleOf (vs : List AV) (K : AV → AH → Prop) (h : AH) : wpH (aTupleOf vs) K h = onRes K (aTupleOf vs h) := rfl
theorem run_aSorted (vs : List AV) (K : AV → AH → Prop) (h : AH) : wpH (aSorted vs) K h = onRes K (aSorted vs h) := rfl
theorem run_aSet0 (vs : List AV) (K : AV → AH → Prop) (h : AH) : wpH (aSet0 vs) K h = onRes K (aSet0 vs h) := rfl
theorem run_aRange (vs : List AV) (K : AV → AH → Prop) (h : AH) : wpH (aRange vs) K h = onRes K (aRange vs h) := rfl
theorem run_aListR (vs : List AV) (K : AV → AH → Prop) (h : AH) : wpH (aListR vs) K h = onRes K (aListR vs h) := rfl
theorem run_aNext (vs : List AV) (K : Except String AV → AH → Prop) (h : AH) : wpH (aNext vs) K h = onRes K (aNext vs h) := rfl
theorem run_aRemove (vs : List AV) (K : Except String AV → AH → Prop) (h : AH) : wpH (aRemove vs) K h = onRes K (aRemove vs h) := rfl
theorem run_aView (T : String) (vs : List AV) (K : AV → AH → Prop) (h : AH) : wpH (aView T vs) K h = onRes K (aView T vs h) := rfl
theorem onRes_aNew (o : AObj) (K : AV → AH → Prop) (h : AH) : onRes K (aNew o h) = K (.ref h.length) (h ++ [(o, 0)]) := rfl
theorem run_aNew (o : AObj) (K : AV → AH → Prop) (h : AH) : wpH (aNew o) K h = K (.ref h.length) (h ++ [(o, 0)]) := rfl
theorem run_aBin (o : BOp) (x y : AV) (K : AV → AH → Prop) (h : AH) : wpH (aBin o x y) K h = onRes K (aBin o x y h) := rfl
theorem run_aSetItem (x y z : AV) (K : Unit → AH → Prop) (h : AH) : wpH (aSetItem x y z) K h = onRes K (aSetItem x y z h) := rfl
theorem run_aDelItem (x y : AV) (K : Unit → AH → Prop) (h : AH) : wpH (aDelItem x y) K h = onRes K (aDelItem x y h) := rfl
theorem run_aSetAttr (ix : String → String → Option (Option Nat)) (n : String) (x y : AV) (K : Unit → AH → Prop) (h : AH) : wpH (aSetAttr ix n x y) K h = onRes K (aSetAttr ix n x y h) := rfl
theorem run_aWrap (n : String) (x : AV) (K : AV → AH → Prop) (h : AH) : wpH (aWrap n x) K h = onRes K (aWrap n x h) := rfl
theorem run_aCallB (x : AV) (vs : List AV) (K : Except String AV → AH → Prop) (h : AH) : wpH (aCallB x vs) K h = onRes K (aCallB x vs h) := rfl
theorem run_aSlice (x : AV) (a b c : Option Int) (K : AV → AH → Prop) (h : AH) : wpH (aSlice x a b c) K h = onRes K (aSlice x a b c h) := rfl
theorem at_app (h l : AH) (i : Nat) : (h ++ l)[h.length + i]? = l[i]? := by rw [List.getElem?_append_right (by omega)]; congr 1; omega
theorem at_app0 (h l : AH) : (h ++ l)[h.length]? = l[0]? := at_app h l 0
theorem set_at (h l : AH) (i : Nat) (x : AObj × Nat) : (h ++ l).set (h.length + i) x = h ++ l.set i x := by rw [List.set_append_right _ _ (by omega)]; congr 2; omega
theorem set_at0 (h l : AH) (x : AObj × Nat) : (h ++ l).set h.length x = h ++ l.set 0 x := set_at h l 0 x
theorem lookup_put_eq (x : String) (v : AV) (ρ : List (String × AV)) : (put x v ρ).lookup x = some v := by rw [lookup_put, if_pos rfl]
theorem lookup_put_ne {x y : String} (h : (y == x) = false) (v : AV) (ρ : List (String × AV)) : (put x v ρ).lookup y = ρ.lookup y := by rw [lookup_put, if_neg (by simpa using h)]
theorem vint_int (i : Int) : (AV.int i).int? = some i := rfl
theorem vref_ref (r : Nat) : (AV.ref r).ref? = some r := rfl
theorem vtup_tup (xs : List AV) : (AV.tup xs).tup? = some xs := rfl
theorem vty_ty (x : String) : (AV.ty x).ty? = some x := rfl
theorem vscript_script (xs : List Int) : (AV.script xs).script? = some xs := rfl
theorem vint_ref (r : Nat) : (AV.ref r).int? = none := rfl
theorem vtup_ref (r : Nat) : (AV.ref r).tup? = none := rfl
theorem vref_script (xs : List Int) : (AV.script xs).ref? = none := rfl
theorem vref_tup (xs : List AV) : (AV.tup xs).ref? = none := rfl
theorem vref_int (i : Int) : (AV.int i).ref? = none := rfl
theorem olist_list (xs : List AV) : (AObj.list xs).list? = some xs := rfl
theorem odict_dict (xs : List (Int × AV)) : (AObj.dict xs).dict? = some xs := rfl
theorem oiset_iset (xs : List Int) : (AObj.iset xs).iset? = some xs := rfl
theorem oattrs_attrs (xs : List (String × AV)) : (AObj.attrs xs).attrs? = some xs := rfl
theorem oinst_inst (c : String) (d : Nat) : (AObj.inst c d).inst? = some (c, d) := rfl
theorem osinst_sinst (c : String) (d : Nat) (fs : List (Option AV)) : (AObj.sinst c d fs).sinst? = some (c, d, fs) := rfl
theorem oliter_liter (a b : Nat) : (AObj.liter a b).liter? = some (a, b) := rfl
theorem otiter_titer (xs : List AV) (i : Nat) : (AObj.titer xs i).titer? = some (xs, i) := rfl
theorem orng_rng (n : Nat) : (AObj.rng n).rng? = some n := rfl
theorem odview_dview (T : String) (d : Nat) : (AObj.dview T d).dview? = some (T, d) := rfl
theorem obound_bound (x : String) (n : Nat) : (AObj.bound x n).bound? = some (x, n) := rfl
theorem olist_dict (xs : List (Int × AV)) : (AObj.dict xs).list? = none := rfl
theorem olist_iset (xs : List Int) : (AObj.iset xs).list? = none := rfl
theorem odict_list (xs : List AV) : (AObj.list xs).dict? = none := rfl
theorem odict_iset (xs : List Int) : (AObj.iset xs).dict? = none := rfl
theorem oinst_sinst (c : String) (d : Nat) (fs : List (Option AV)) : (AObj.sinst c d fs).inst? = none := rfl
theorem oliter_titer (xs : List AV) (i : Nat) : (AObj.titer xs i).liter? = none := rfl
theorem oty_list (xs : List AV) : (AObj.list xs).ty? = some "list" := rfl
theorem oty_dict (xs : List (Int × AV)) : (AObj.dict xs).ty? = some "dict" := rfl
theorem oty_iset (xs : List Int) : (AObj.iset xs).ty? = some "set" := rfl
theorem oiset_list (xs : List AV) : (AObj.list xs).iset? = none := rfl
theorem oiset_dict (xs : List (Int × AV)) : (AObj.dict xs).iset? = none := rfl
theorem isNone_ref (r : Nat) : (AV.ref r).isNone = false := rfl
theorem isNone_int (i : Int) : (AV.int i).isNone = false := rfl
theorem isNone_ty (x : String) : (AV.ty x).isNone = false := rfl
theorem isNone_none : AV.none.isNone = true := rfl
local macro_rules
 | `(tactic| simp! [$ts,*] $[$loc]?) =>
 let b : List Lean.Syntax := ("onVal_some onVal_none onRes_some onRes_none kLift_eq wpA_pure wpA_bad wpA_bind wpA_see wpA_lift wpA_var wpA_setVar wpA_small wp_seq kSeq_next kSeq_brk kSeq_cont kSeq_ret kSeq_exc wp_set kSet_eq wp_ret kRet_eq wp_expr kExpr_eq wp_exprX kExprX_ok kExprX_er wp_setX kSetX_ok kSetX_er wp_ifS kIfS_t kIfS_f wp_try kTry_next kTry_brk kTry_exc wp_noExc kNoExc_next wp_raise kRaise_eq wp_unpack kUnpack_eq kDone_eq kBind_eq wp_setItem wp_setItemName wp_del wp_setAttr addsZ_eq wp_augAttr wp_bin wp_cmp wp_val kVal_eq wp_truth kTruth_eq wp_not kNot_eq wp_and wp_or kAnd_t kAnd_f kOr_t kOr_f wp_neg kNeg_eq wp_cons kCons_eq kC1_eq wp_list kList_eq wp_tup kTup_eq wp_iter wp_range wp_enum wp_values wp_items wp_call wp_callX kCall_eq wp_meth wp_methX wp_methO wp_methOX wp_isTy wp_sub wp_part wp_slice wp_named kNamed_eq wp_attr wp_wrap wp_callB wp_ok kOk_ok kOk_er wp_star wp_consStar wp_emit kEmit_eq wp_names wp_setVars_nil wp_setVars_cons wp_for kFor_eq wp_comp kComp_eq wp_comp1 kComp1_eq kTst_t kTst_f kTgtC_eq kTgt_eq kWhile_next kWhile_cont kWhile_brk kWhile_ret kWhile_exc kTest_t kTest_f kBody_ret kBody_next kBodyX_ret kBodyX_next kBodyX_exc wp_make kMade_eq at_app at_app0 set_at set_at0 List.set_cons_zero List.set_cons_succ List.length_append List.length_cons List.length_nil Nat.zero_add Nat.reduceAdd Nat.add_assoc Nat.reduceLeDiff Nat.zero_le List.length_map List.append_assoc List.cons_append List.nil_append run_aAppend run_aPop run_aClear run_aGet run_aAdd run_aIter run_aLen run_aInt run_aSum run_aTupleOf run_aSorted run_aSet0 run_aRange run_aListR run_aNext run_aRemove run_aView run_aNew onRes_aNew run_aBin run_aSetItem run_aDelItem run_aSetAttr run_aWrap run_aCallB run_aSlice lookup_put_eq lookup_put_ne List.lookup String.reduceEq String.reduceBEq beq_self_eq_true reduceIte true_and and_true Option.some.injEq Option.bind_some Option.map_some id_eq handedA List.getElem?_cons_zero List.getElem?_cons_succ Option.join exists_eq_left' aCmp aOrd aIs Bool.false_eq_true bA0_v bA1_v bA2_v bC bL bD bS bI bG bO_v bO_n bE_v bE_n vint_int vref_ref vtup_tup vty_ty vscript_script vint_ref vtup_ref vref_script vref_tup vref_int olist_list odict_dict oiset_iset oattrs_attrs oinst_inst osinst_sinst oliter_liter otiter_titer orng_rng odview_dview obound_bound olist_dict olist_iset odict_list odict_iset oinst_sinst oliter_titer oty_list oty_dict oty_iset oiset_list oiset_dict isNone_ref isNone_int isNone_ty isNone_none".splitOn " ").flatMap fun s => [Mine.d "/0null /0null @0 /3Lean.Parser.Tactic.simpLemma" [Lean.mkIdent s.toName], .atom .none ","]
 pure (Mine.d "'simp /0null /1Lean.Parser.Tactic.optConfig /0null 'only /1null '[ @0 '] /3null @1 /6Lean.Parser.Tactic.simp" [Mine.dN (b ++ ts.elemsAndSeps.toList), Mine.dN (loc.toList.map (·.raw))])
section
variable {h : AH} {r k : Nat} {xs : List AV} {es : List (Int × AV)} {i : Int} {x v : AV}
theorem aAppend_at (e : h[r]? = some (.list xs, k)) (hl : xs.length ≤ 1000000) : aAppend [.ref r, x] h = some (.none, h.set r (.list (xs ++ [x]), k + 1)) := (bO_of e).trans (bG_t hl _)
theorem aLen_at (e : h[r]? = some (.list xs, k)) (hl : xs.length ≤ 1000000) : aLen [.ref r] h = some (.int xs.length, h) := bE_of ((bO_of e).trans (bG_t hl _))
theorem aPop_at (e : h[r]? = some (.list xs, k)) (hl : xs.length ≤ 1000000) (hv : xs.getLast? = some v) : aPop [.ref r] h = some (v, h.set r (.list xs.dropLast, k + 1)) := (bO_of e).trans ((bG_t hl _).trans (bO_of hv))
theorem aIdx_at {j : Nat} (e : h[r]? = some (.list xs, k)) (hj : idxOf i xs.length = some j) (hv : xs[j]? = some v) : aIdx (.ref r) (.int i) h = some v := bE_of ((bO_of e).trans ((bO_of hj).trans hv))
theorem aIdx_key (e : h[r]? = some (.dict es, k)) (hv : vat es i = some v) : aIdx (.ref r) (.int i) h = some v := (bE_no (bO_of e)).trans (bE_of ((bO_of e).trans hv))
theorem aGet_at (e : h[r]? = some (.dict es, k)) : aGet [.ref r, .int i] h = some ((vat es i).getD .none, h) := bO_of e
theorem aSetItem_at (e : h[r]? = some (.dict es, k)) (hl : es.length ≤ 1000000) : aSetItem (.ref r) (.int i) v h = some ((), h.set r (.dict (vset es i v), k + 1)) := (bO_of e).trans (bG_t hl _)
theorem aDelItem_at (e : h[r]? = some (.dict es, k)) (hl : es.length ≤ 1000000 ∧ (vat es i).isSome = true) : aDelItem (.ref r) (.int i) h = some ((), h.set r (.dict (vdel es i), k + 1)) := (bO_of e).trans (bG_t hl _)
theorem aAdd_at {ks : List Int} (e : h[r]? = some (.iset ks, k)) (hl : ks.length < 1000) : aAdd [.ref r, .int i] h = some (.none, h.set r (.iset (if ks.contains i then ks else ks ++ [i]), k + 1)) := (bO_of e).trans (bG_t hl _)
theorem aSlice_at {a b c : Option Int} (e : h[r]? = some (.list xs, k)) (hl : xs.length ≤ 1000000) (hc : c ≠ some 0) : aSlice (.ref r) a b c h = aNew (.list (pickL xs a b c)) h := (bG_t hc _).trans (bE_of ((bO_of e).trans (bG_t hl _)))
theorem aIter_at (e : h[r]? = some (.list xs, k)) : aIter [.ref r] h = aNew (.liter r 0) h := bO_of (bE_of (bO_of e))
theorem ty_list (e : h[r]? = some (.list xs, k)) : tyOf (.ref r) h = some "list" := bO_of e
theorem ty_dict (e : h[r]? = some (.dict es, k)) : tyOf (.ref r) h = some "dict" := bO_of e
theorem ty_set {ks : List Int} (e : h[r]? = some (.iset ks, k)) : tyOf (.ref r) h = some "set" := bO_of e
theorem aStep_l {l p kl : Nat} (e : h[r]? = some (.liter l p, k)) (hl : h[l]? = some (.list xs, kl)) : aStep (.ref r) h = stepR r k xs[p]? (.liter l (p + 1)) h := by
 cases hx : xs[p]? with
 | none => exact (bO_of e).trans (bE_of ((bO_of hl).trans (congrArg (stepR r k · _ h) hx)))
 | some y => exact (bO_of e).trans (bE_of ((bO_of hl).trans (congrArg (stepR r k · _ h) hx)))
theorem aStep_t {p : Nat} (e : h[r]? = some (.titer xs p, k)) : aStep (.ref r) h = stepR r k xs[p]? (.titer xs (p + 1)) h := bO_of e
end
theorem adata_int (h : AH) (n : Nat) (i : Int) : adata h (n + 1) (.int i) = some (.int i) := rfl
theorem mapO_int (h : AH) (n : Nat) (xs : List Int) : mapO (adata h (n + 1)) (xs.map .int) = some (xs.map .int) := by
 induction xs with
 | nil => rfl
 | cons x xs ih => rw [List.map_cons, mapO_cons, ih]; rfl
theorem eqvAll_int (xs : List Int) : ∀ ys : List Int, PyData.eqvAll (xs.map .int) (ys.map .int) = decide (xs = ys) := by
 induction xs with
 | nil => intro ys; cases ys <;> simp [PyData.eqvAll]
 | cons x xs ih =>
  intro ys
  cases ys with
  | nil => simp [PyData.eqvAll]
  | cons y ys =>
   simp only [List.map_cons, PyData.eqvAll, PyData.eqv, ih ys]
   by_cases hx : x = y <;> by_cases hy : xs = ys <;> simp [hx, hy]
theorem eqv_int (x y : Int) : PyData.eqv (.int x) (.int y) = decide (x = y) := by
 simp only [PyData.eqv]; by_cases h : x = y <;> simp [h]
theorem any_int (x : Int) (ys : List Int) : ((ys.map PyData.int).any fun b => PyData.eqv b (.int x)) = ys.contains x := by
 induction ys with
 | nil => rfl
 | cons y ys ih =>
  simp only [List.map_cons, List.any_cons, ih, List.contains_cons, eqv_int]
  by_cases h : y = x
  ·simp [h]
  ·have : x ≠ y := fun e => h e.symm
   simp [h, this]
noncomputable def IL (h : AH) (r : Nat) (xs : List Int) : Prop := ∃ k, h[r]? = some (.list (xs.map .int), k)
theorem IL.lt {h : AH} {r : Nat} {xs : List Int} (i : IL h r xs) : r < h.length := by
 obtain ⟨k, e⟩ := i; exact (List.getElem?_eq_some_iff.mp e).1
theorem lt_of_get {h : AH} {r : Nat} {x : AObj × Nat} (e : h[r]? = some x) : r < h.length := (List.getElem?_eq_some_iff.mp e).1
theorem IL.mono {h h' : AH} {r : Nat} {xs : List Int} (i : IL h r xs) (p : h <+: h') : IL h' r xs := by
 obtain ⟨k, e⟩ := i; exact ⟨k, prefix_get p e⟩
theorem aMem_list {h : AH} {r : Nat} {ys : List Int} (x : Int) (i : IL h r ys) : aMem (.int x) (.ref r) h = some (ys.contains x) := by
 obtain ⟨k, e⟩ := i
 simp! [aMem, aMemL, aMemL, e, adata_int h 7, mapO_int h 7, any_int]
theorem adata_list {h : AH} {r : Nat} {ys : List Int} (n : Nat) (i : IL h r ys) : adata h (n + 2) (.ref r) = some (.list (ys.map .int)) := by
 obtain ⟨k, e⟩ := i
 simp! [adata_ref, e, mapO_int h n]
theorem aEq_list {h : AH} {r q : Nat} {xs ys : List Int} (i : IL h r xs) (j : IL h q ys) : aEq (.ref r) (.ref q) h = some (decide (xs = ys)) := by
 simp! [aEq, adata_list 6 i, adata_list 6 j, PyData.eqv, eqvAll_int]
theorem aEq_int (x y : Int) (h : AH) : aEq (.int x) (.int y) h = some (decide (x = y)) := by
 simp! [aEq, adata_int h 7, eqv_int]
theorem set_eq {h : AH} {r : Nat} {x : AObj × Nat} (hr : r < h.length) : (h.set r x)[r]? = some x := by
 rw [List.getElem?_set]; simp [hr]
theorem set_ne {h : AH} {r q : Nat} {x : AObj × Nat} (hn : r ≠ q) : (h.set r x)[q]? = h[q]? := by
 rw [List.getElem?_set]; simp [hn]
theorem app_old {h l : AH} {r : Nat} (hr : r < h.length) : (h ++ l)[r]? = h[r]? := List.getElem?_append_left hr
theorem pre_app (h l : AH) : h <+: h ++ l := ⟨l, rfl⟩
theorem pre_set {h h' : AH} {r : Nat} {x : AObj × Nat} (p : h <+: h') (hr : h.length ≤ r) : h <+: h'.set r x := by
 obtain ⟨t, rfl⟩ := p
 refine ⟨t.set (r - h.length) x, ?_⟩
 rw [List.set_append_right _ _ hr]
theorem pre_app' {h h' : AH} (p : h <+: h') (l : AH) : h <+: h' ++ l := p.trans (pre_app _ _)
theorem IL.set {h : AH} {r q : Nat} {xs : List Int} {x : AObj × Nat} (i : IL h r xs) (hn : q ≠ r) : IL (h.set q x) r xs := by
 obtain ⟨k, e⟩ := i; exact ⟨k, by rw [set_ne hn]; exact e⟩
noncomputable def ItAt (h0 h : AH) (n : Nat) (xs : List Int) (i : Nat) : Prop :=
 (∃ k l, h[n]? = some (.liter l i, k) ∧ IL h0 l xs) ∨ (∃ k, h[n]? = some (.titer (xs.map .int) i, k))
theorem aStep_ok {h0 h : AH} {n : Nat} {xs : List Int} {i : Nat} (p : h0 <+: h) (I : ItAt h0 h n xs i) (hn : h0.length ≤ n) {x : Int} (hx : xs[i]? = some x) :
  ∃ o k, aStep (.ref n) h = some (.ok (.int x), h.set n (o, k)) ∧ ItAt h0 (h.set n (o, k)) n xs (i + 1) := by
 have hx' : (xs.map AV.int)[i]? = some (.int x) := by rw [List.getElem?_map, hx]; rfl
 rcases I with ⟨k, l, e, il⟩ | ⟨k, e⟩
 ·obtain ⟨kv, el⟩ := il.mono p
  refine ⟨.liter l (i + 1), k + 1, ?_, .inl ⟨k + 1, l, set_eq (lt_of_get e), il⟩⟩
  rw [aStep_l e el, hx']; rfl
 ·refine ⟨.titer (xs.map .int) (i + 1), k + 1, ?_, .inr ⟨k + 1, set_eq (lt_of_get e)⟩⟩
  rw [aStep_t e, hx']; rfl
theorem aStep_end {h0 h : AH} {n : Nat} {xs : List Int} {i : Nat} (p : h0 <+: h) (I : ItAt h0 h n xs i) (hx : xs[i]? = none) :
  ∃ k, aStep (.ref n) h = some (.error "StopIteration", h.set n (.junk, k)) := by
 have hx' : (xs.map AV.int)[i]? = none := by rw [List.getElem?_map, hx]; rfl
 rcases I with ⟨k, l, e, il⟩ | ⟨k, e⟩
 ·obtain ⟨kv, el⟩ := il.mono p
  exact ⟨k + 1, by rw [aStep_l e el, hx']; rfl⟩
 ·exact ⟨k + 1, by rw [aStep_t e, hx']; rfl⟩
theorem ff_slot0 : ixOf "filterfalse" "_func" = some (some 0) := by decide
theorem ff_slot1 : ixOf "filterfalse" "_it" = some (some 1) := by decide
theorem drop_get {α : Type} {xs : List α} {i : Nat} {x : α} (h : xs[i]? = some x) : xs.drop i = x :: xs.drop (i + 1) := by
 obtain ⟨hl, rfl⟩ := List.getElem?_eq_some_iff.mp h
 exact List.drop_eq_getElem_cons hl
structure FfAt (h0 h : AH) (f d t b s : Nat) (xs : List Int) (i : Nat) : Prop where
 pre : h0 <+: h
 obj : ∃ k, h[f]? = some (.sinst "filterfalse" d [some (.ref b), some (.ref t)], k)
 bnd : ∃ k, h[b]? = some (.bound "list.__contains__" s, k)
 it : ItAt h0 h t xs i
theorem FfAt.step {h0 h : AH} {f d t b s : Nat} {xs : List Int} {i j : Nat} (F : FfAt h0 h f d t b s xs i) (ht : h0.length ≤ t) (hft : t ≠ f) (hbt : t ≠ b) {o : AObj × Nat} (I : ItAt h0 (h.set t o) t xs j) : FfAt h0 (h.set t o) f d t b s xs j where
 pre := pre_set F.pre ht
 obj := by obtain ⟨k, e⟩ := F.obj; exact ⟨k, by rw [set_ne hft]; exact e⟩
 bnd := by obtain ⟨k, e⟩ := F.bnd; exact ⟨k, by rw [set_ne hbt]; exact e⟩
 it := I
theorem ffNext_run {h0 h : AH} {f d t b s i : Nat} {xs ys : List Int} (F : FfAt h0 h f d t b s xs i) (hs : IL h0 s ys) (ht : h0.length ≤ t) (hft : t ≠ f) (hbt : t ≠ b) (K : Except String AV → AH → Prop)
  (hok : ∀ j x o, (xs.drop i).filter (fun z => !ys.contains z) = x :: (xs.drop j).filter (fun z => !ys.contains z) → i < j → FfAt h0 (h.set t o) f d t b s xs j → K (.ok (.int x)) (h.set t o))
  (hen : ∀ o, (xs.drop i).filter (fun z => !ys.contains z) = [] → K (.error "StopIteration") (h.set t o)) : wpH (aFfNext [.ref f]) K h := by
 refine wp_defX (bs := [("self", .ref f)]) rfl ?_
 unfold ffNext.prog
 obtain ⟨kf, hf⟩ := F.obj
 simp! [aAttr, hf, ff_slot0, List.lookup, handedA, List.getElem?_cons_zero, Option.join]
 refine wp_while (fun n st => ∃ i', n = xs.length - i' ∧ i ≤ i' ∧ FfAt h0 st.hp f d t b s xs i' ∧ (∀ o, st.hp.set t o = h.set t o) ∧ (xs.drop i').filter (fun z => !ys.contains z) = (xs.drop i).filter (fun z => !ys.contains z) ∧ st.env.lookup "self" = some (.ref f) ∧ st.env.lookup "func" = some (.ref b)) ?_ (xs.length - i) _ ?_
 rotate_left
 ·exact ⟨i, rfl, Nat.le_refl _, F, fun zz => rfl, rfl, rfl, rfl⟩
 rintro n ⟨e, h'⟩ zI2
 obtain ⟨i', rfl, hi, F', hset, hfil, he1, he2⟩ := zI2
 simp only at F' hset he1 he2
 obtain ⟨kf', hf'⟩ := F'.obj
 obtain ⟨kb', hb'⟩ := F'.bnd
 simp! [aTruth_bool, aTruth_ref, aAttr, he1, hf', ff_slot1, List.lookup, handedA, List.getElem?_cons_succ, List.getElem?_cons_zero, Option.join, aNext]
 cases hx : xs[i']? with
 | none =>
  obtain ⟨k, e⟩ := aStep_end F'.pre F'.it hx
  simp! [e]
  have hnil : xs.drop i' = [] := List.drop_eq_nil_iff.mpr (List.getElem?_eq_none_iff.mp hx)
  rw [hnil] at hfil
  rw [hset]
  exact hen _ hfil.symm
 | some x =>
  obtain ⟨o, k, e, I'⟩ := aStep_ok F'.pre F'.it ht hx
  have F'' := F'.step ht hft hbt I'
  obtain ⟨kb2, hb2⟩ := F''.bnd
  obtain ⟨ks, hks⟩ := hs.mono F''.pre
  have hm := aMem_list x (hs.mono F''.pre)
  have hlt := (List.getElem?_eq_some_iff.mp hx).1
  have hd := drop_get hx
  simp! [e, aCmp, he2, aCallB, hb2, hks, hm, aTruth_bool, aTruth_ref]
  by_cases hc : ys.contains x = true
  ·simp! [hc, Bool.not_true]
   refine ⟨xs.length - (i' + 1), by omega, i' + 1, rfl, by omega, F'', fun o => ?_, ?_, ?_, ?_⟩
   ·simp only [List.set_set]; exact hset o
   ·rw [← hfil, hd, List.filter_cons_of_neg (by simpa using hc)]
   ·simp! [he1]
   ·simp! [he2]
  ·rw [Bool.not_eq_true] at hc
   simp! [hc, Bool.not_false]
   rw [hset] at F'' ⊢
   exact hok _ _ _ (by rw [← hfil, hd, List.filter_cons_of_pos (by simpa using hc)]) (by omega) F''
theorem drain_det {cn : String} {mn : List AV → AHM (Except String AV)} {l r : Nat} (n : Nat) : ∀ {m : Nat} {h : AH} {a b : Unit × AH}, aDrain cn mn l r n h = some a → aDrain cn mn l r m h = some b → a = b := by
 induction n with
 | zero => intro m h a b h1; cases h1
 | succ n ih =>
  intro m h a b h1 h2
  cases m with
  | zero => cases h2
  | succ m =>
   rw [aDrain_succ] at h1 h2
   refine bG_some h1 fun zz h3 => bO_some h3 fun x ex h5 => bG_some h2 fun zz h4 => bO_some h4 fun y ey h6 => ?_
   cases ex.symm.trans ey
   clear h1 h2 h3 h4 ey
   obtain ⟨r, h'⟩ := x
   cases r with
   | error k =>
    refine bG_some h5 fun zz h1 => bG_some h6 fun zz h2 => ?_
    exact Option.some.inj (h1.symm.trans h2)
   | ok v =>
    refine bO_some h5 fun c ec h7 => bO_some h7 fun xs e1 h9 => bG_some h9 fun zz h1 => bO_some h6 fun c' ec' h8 => bO_some h8 fun ys e2 h10 => bG_some h10 fun zz h2 => ?_
    clear h5 h6 h7 h8 h9 h10
    cases ec.symm.trans ec'
    cases e1.symm.trans e2
    exact ih h1 h2
theorem drainAll_run {cn : String} {mn : List AV → AHM (Except String AV)} {l r n : Nat} {h h' : AH} {K : AV → AH → Prop} (e : aDrain cn mn l r n h = some ((), h')) (k : K (.ref l) h') : wpH (aDrainAll cn mn l r) K h := by
 have hx : ∃ hp', aDrained cn mn l r h hp' := ⟨h', n, e⟩
 refine wpH_mk ?_ k
 unfold aDrainAll
 rw [dif_pos hx]
 obtain ⟨m, hm⟩ := hx.choose_spec
 have := drain_det _ hm e
 simp only [Prod.mk.injEq, true_and] at this
 rw [this]
theorem isOwn_ff {h0 h : AH} {f d t b s i : Nat} {xs : List Int} (F : FfAt h0 h f d t b s xs i) : isOwn "filterfalse" f h = true := by
 obtain ⟨k, e⟩ := F.obj
 simp! [isOwn, e, Option.getD_some]
theorem drain_run {h0 : AH} {f d t b s L : Nat} {xs ys : List Int} (hs : IL h0 s ys) (ht : h0.length ≤ t) (hft : t ≠ f) (hbt : t ≠ b) (hLt : t ≠ L) (hLf : L ≠ f) (hLb : L ≠ b) (hL0 : h0.length ≤ L) (hsm : xs.length < 1000000) : ∀ (n i : Nat) (h : AH) (acc : List Int), xs.length - i ≤ n → FfAt h0 h f d t b s xs i → IL h L acc → acc.length + (xs.drop i).length ≤ xs.length →
  ∃ m h', aDrain "filterfalse" aFfNext L f m h = some ((), h') ∧ h0 <+: h' ∧ IL h' L (acc ++ (xs.drop i).filter (fun z => !ys.contains z)) := by
 intro n
 induction n with
 | zero =>
  intro i h acc hn F hL hlen
  have hnil : (xs.drop i).filter (fun z => !ys.contains z) = [] := by
   rw [List.drop_eq_nil_iff.mpr (by omega)]; rfl
  obtain ⟨r, h', e, k⟩ := onRes_ok <| show wpH (aFfNext [.ref f]) (fun r h' => r = .error "StopIteration" ∧ ∃ o, h' = h.set t o) h by
   refine ffNext_run F hs ht hft hbt _ (fun j x o hx zz => ?_) (fun o zz => ⟨rfl, o, rfl⟩)
   rw [hnil] at hx; cases hx
  obtain ⟨rfl, o, rfl⟩ := k
  refine ⟨1, _, by rw [aDrain_succ, bG_t (isOwn_ff F), e]; rfl, pre_set F.pre ht, ?_⟩
  rw [hnil, List.append_nil]
  exact hL.set hLt
 | succ n ih =>
  intro i h acc hn F hL hlen
  obtain ⟨r, h', e, k⟩ := onRes_ok <| show wpH (aFfNext [.ref f]) (fun r h' => (r = .error "StopIteration" ∧ (xs.drop i).filter (fun z => !ys.contains z) = [] ∧ ∃ o, h' = h.set t o) ∨
   (∃ j x o, r = .ok (.int x) ∧ (xs.drop i).filter (fun z => !ys.contains z) = x :: (xs.drop j).filter (fun z => !ys.contains z) ∧ i < j ∧ FfAt h0 h' f d t b s xs j ∧ h' = h.set t o)) h by
   refine ffNext_run F hs ht hft hbt _ (fun j x o hx hij F' => ?_) (fun o hx => .inl ⟨rfl, hx, o, rfl⟩)
   exact .inr ⟨j, x, o, rfl, hx, hij, F', rfl⟩
  rcases k with ⟨rfl, hnil, o, rfl⟩ | ⟨j, x, o, rfl, hx, hij, F', rfl⟩
  ·refine ⟨1, _, by rw [aDrain_succ, bG_t (isOwn_ff F), e]; rfl, pre_set F.pre ht, ?_⟩
   rw [hnil, List.append_nil]
   exact hL.set hLt
  ·obtain ⟨kL, eL⟩ := hL.set (x := o) hLt
   have hxl : (xs.drop i).length ≠ 0 := by
    intro h0
    rw [List.length_eq_zero_iff.mp h0] at hx; cases hx
   rw [List.length_drop] at hxl hlen
   have hLl := lt_of_get eL
   let h2 : AH := (h.set t o).set L (.list (acc.map AV.int ++ [.int x]), kL + 1)
   have F2 : FfAt h0 h2 f d t b s xs j := {
    pre := pre_set F'.pre hL0
    obj := by obtain ⟨k, e⟩ := F'.obj; exact ⟨k, by rw [set_ne hLf]; exact e⟩
    bnd := by obtain ⟨k, e⟩ := F'.bnd; exact ⟨k, by rw [set_ne hLb]; exact e⟩
    it := by
     rcases F'.it with ⟨k, l, e, il⟩ | ⟨k, e⟩
     ·exact .inl ⟨k, l, by rw [set_ne (Ne.symm hLt)]; exact e, il⟩
     ·exact .inr ⟨k, by rw [set_ne (Ne.symm hLt)]; exact e⟩ }
   have IL2 : IL h2 L (acc ++ [x]) := ⟨kL + 1, by rw [set_eq hLl]; simp⟩
   obtain ⟨m, h', e', p', il'⟩ := ih j h2 (acc ++ [x]) (by omega) F2 IL2 (by simp only [List.length_append, List.length_drop, List.length_singleton]; omega)
   refine ⟨m + 1, h', ?_, p', ?_⟩
   ·rw [aDrain_succ, bG_t (isOwn_ff F), e]
    show bO ((h.set t o)[L]?) _ = _
    rw [eL]
    exact (bG_t (by rw [List.length_map]; omega) _).trans e'
   ·rw [hx, List.append_cons]; exact il'
noncomputable def FL (h : AH) (v : AV) (xs : List Int) : Prop := v = .tup (xs.map .int) ∨ ∃ r, v = .ref r ∧ IL h r xs
theorem ffIter_run (f : Nat) (h : AH) : aFfIter [.ref f] h = some (.ref f, h) := by
 have : wpH (aFfIter [.ref f]) (fun v h' => v = .ref f ∧ h' = h) h := by
  refine wp_def (bs := [("self", .ref f)]) rfl ?_
  unfold ffIter.prog
  simp! [id_eq]
 obtain ⟨v, h', e, rfl, rfl⟩ := onRes_ok this
 exact e
theorem listOwn_run {cn : String} {mi : List AV → AHM AV} {mn : List AV → AHM (Except String AV)} {r : Nat} {K : AV → AH → Prop} {h : AH} (hi : ∀ x, isOwn cn r (h ++ x) = true) (hm : ∀ H, mi [.ref r] H = some (.ref r, H))
  (hk : wpH (aDrainAll cn mn h.length r) K (h ++ [(.list [], 2)])) : wpH (aListOwn cn mi mn [.ref r]) K h := by
 have hr : ∀ k, aRewrite h.length (h ++ [(.list [], k)]) = some ((), h ++ [(.list [], k + 1)]) := by
  intro k
  simp! [aRewrite]
  rfl
 obtain ⟨v, h', e, q⟩ := onRes_ok hk
 refine wpH_mk ?_ q
 simp! [aListOwn, hr, hi, hm, and_self]
 exact e
theorem filter_run {h : AH} {s : Nat} {fl : AV} {xs ys : List Int} {K : AV → AH → Prop} (hf : FL h fl xs) (hs : IL h s ys) (hsm : xs.length < 1000000) (k : ∀ r h', h <+: h' → h.length ≤ r → IL h' r (xs.filter (fun z => !ys.contains z)) → K (.ref r) h') : wpH (aFilter [fl, .ref s]) K h := by
 refine wp_def (bs := [("flist", fl), ("skip", .ref s)]) rfl ?_
 unfold filter.prog aFf aFfInit
 obtain ⟨ks, es⟩ := hs
 have hsl := lt_of_get es
 simp! [aWrap, es]
 refine wp_def (bs := [("self", .ref (h.length + 2)), ("function", .ref h.length), ("iterable", fl)]) rfl ?_
 unfold ffInit.prog
 have s1 : ∀ v, sput [] 1 v = [none, some v] := fun zz => rfl
 have s2 : ∀ u v, sput [none, some v] 0 u = [some u, some v] := fun zz zz => rfl
 obtain ⟨o, ho, hit⟩ : ∃ o, (∀ l, aIter [fl] (h ++ l) = aNew o (h ++ l)) ∧ (o = .titer (xs.map .int) 0 ∨ ∃ r, o = .liter r 0 ∧ IL h r xs) := by
  rcases hf with rfl | ⟨r, rfl, il⟩
  ·exact ⟨_, fun zz => rfl, .inl rfl⟩
  ·refine ⟨.liter r 0, fun l => ?_, .inr ⟨r, rfl, il⟩⟩
   obtain ⟨k, e⟩ := il.mono (pre_app h l)
   exact aIter_at e
 simp! [ho, aSetAttr, ff_slot1, ff_slot0, s1, s2]
 unfold aListFf
 have fin : ∀ (L : Nat) (H : AH), FfAt h H (h.length + 2) (h.length + 1) (h.length + 3) h.length s xs 0 → IL H L [] → L = h.length + 4 → wpH (aDrainAll "filterfalse" aFfNext L (h.length + 2)) (kLift [("flist", fl), ("skip", AV.ref s)] (kRet (kBody K))) H := by
  rintro L H F hL rfl
  obtain ⟨m, h', e, p, il⟩ := drain_run (ys := ys) ⟨_, es⟩ (by omega) (by omega) (by omega) (by omega) (by omega) (by omega) (by omega) hsm _ 0 H [] (Nat.le_refl _) F hL (by simp)
  refine drainAll_run e ?_
  simp! [id_eq]
  exact k _ _ p (by omega) il
 refine listOwn_run (fun x => ?_) (ffIter_run _) ?_
 ·simp! [isOwn, Option.getD_some]
 ·simp! [id_eq]
  refine fin _ _ ⟨pre_app _ _, ⟨2, ?_⟩, ⟨0, ?_⟩, ?_⟩ ⟨2, ?_⟩ rfl
  ·simp! [id_eq]
  ·simp! [id_eq]
  ·rcases hit with rfl | ⟨r, rfl, il⟩
   ·exact .inr ⟨0, by simp! [id_eq]⟩
   ·exact .inl ⟨0, r, by simp! [id_eq], il⟩
  ·simp! [id_eq]
   rfl
noncomputable def uldF : List Int → List Int → List Int → List Int × List Int := List.rec (fun act miss => (miss, act)) fun x zz ih act miss => if act.contains x then ih (act.erase x) miss else ih act (miss ++ [x])
theorem uldF_cons (x : Int) (r act miss : List Int) : uldF (x :: r) act miss = if act.contains x then uldF r (act.erase x) miss else uldF r act (miss ++ [x]) := rfl
theorem getLast?_map_int (xs : List Int) (x : Int) : ((xs ++ [x]).map AV.int).getLast? = some (.int x) := by
 rw [List.map_append]; simp
theorem snoc_cases {α : Type} (zs : List α) : zs = [] ∨ ∃ w x, zs = w ++ [x] := by
 rcases List.eq_nil_or_concat zs with h | ⟨w, x, h⟩
 ·exact .inl h
 ·exact .inr ⟨w, x, by rw [h, List.concat_eq_append]⟩
theorem uld_run {h : AH} {r q : Nat} {xs ys : List Int} {K : AV → AH → Prop} (hx : IL h r xs) (hy : IL h q ys) (hn : r ≠ q) (sx : xs.length ≤ 100) (sy : ys.length ≤ 100)
  (k : ∀ h' m, h.length ≤ m → h.length ≤ h'.length → (∀ i, i < h.length → i ≠ r → i ≠ q → h'[i]? = h[i]?) → IL h' m (uldF xs.reverse ys []).1 → IL h' q (uldF xs.reverse ys []).2 → K (.tup [.ref m, .ref q]) h') : wpH (aUld [.ref r, .ref q]) K h := by
 refine wp_def (bs := [("expected", .ref r), ("actual", .ref q)]) rfl ?_
 unfold uld.prog
 have hrl := hx.lt
 have hql := hy.lt
 simp! [id_eq]
 refine wp_while (fun n st => ∃ zs act miss, n = zs.length ∧ zs.length ≤ 100 ∧ act.length ≤ 100 ∧ miss.length + zs.length ≤ 100 ∧ IL st.hp r zs ∧ IL st.hp q act ∧ IL st.hp h.length miss ∧ uldF zs.reverse act miss = uldF xs.reverse ys [] ∧ h.length ≤ st.hp.length ∧ (∀ i, i < h.length → i ≠ r → i ≠ q → st.hp[i]? = h[i]?) ∧
  st.env.lookup "expected" = some (.ref r) ∧ st.env.lookup "actual" = some (.ref q) ∧ st.env.lookup "missing" = some (.ref h.length)) ?_ xs.length _ ?_
 rotate_left
 ·refine ⟨xs, ys, [], rfl, sx, sy, by simpa using sx, hx.mono (pre_app _ _), hy.mono (pre_app _ _), ⟨0, by rw [at_app0]; rfl⟩, rfl, by simp, fun i hi zz zz => app_old hi, ?_, ?_, ?_⟩ <;> simp! [id_eq]
  all_goals (simp! [put_nil, put_cons])
 rintro n ⟨e, h'⟩ zI2
 obtain ⟨zs, act, miss, rfl, sz, sa, sm, iz, ia, im, hu, hl, hkeep, e1, e2, e3⟩ := zI2
 simp only at iz ia im hl hkeep e1 e2 e3
 obtain ⟨kz, ez⟩ := iz
 obtain ⟨ka, ea⟩ := ia
 obtain ⟨km, em⟩ := im
 have lz := lt_of_get ez
 have la := lt_of_get ea
 have lm := lt_of_get em
 have nrm : r ≠ h.length := by omega
 have nqm : q ≠ h.length := by omega
 rcases snoc_cases zs with rfl | ⟨w, x, rfl⟩
 ·simp! [e1, aTruth_bool, aTruth_ref, ez, List.map_nil, List.isEmpty_nil, Bool.not_true, e3, e2]
  refine k _ _ (Nat.le_refl _) hl hkeep ?_ ?_
  ·rw [← hu]; exact ⟨_, em⟩
  ·rw [← hu]; exact ⟨_, ea⟩
 ·have hrev : (w ++ [x]).reverse = x :: w.reverse := by simp
  have hg := getLast?_map_int w x
  have hd : ((w ++ [x]).map AV.int).dropLast = w.map .int := by simp
  have hlen : w.length + 1 ≤ 100 := by simpa using sz
  have hie : ((w ++ [x]).map AV.int).isEmpty = false := by simp
  have hle : w.length + 1 ≤ 1000000 := by omega
  have hrz : r < (h'.set r (AObj.list (w.map .int), kz + 1)).length := by simpa using lz
  refine Mine.gen (h'.set r (AObj.list (w.map .int), kz + 1)) fun h1 eh1 => ?_
  have ea1 : h1[q]? = some (AObj.list (act.map .int), ka) := by rw [← eh1, set_ne hn]; exact ea
  have em1 : h1[h.length]? = some (AObj.list (miss.map .int), km) := by rw [← eh1, set_ne nrm]; exact em
  have er1 : h1[r]? = some (AObj.list (w.map .int), kz + 1) := by rw [← eh1]; exact set_eq lz
  have l1 : h1.length = h'.length := by rw [← eh1]; exact List.length_set
  have k1 : ∀ i, i < h.length → i ≠ r → i ≠ q → h1[i]? = h[i]? := fun i a b c => by rw [← eh1, set_ne (Ne.symm b)]; exact hkeep i a b c
  have hact : act.length ≤ 1000000 := by omega
  have hmiss : miss.length ≤ 1000000 := by simp at sm; omega
  simp! [e1, aTruth_bool, aTruth_ref, ez, hie, Bool.not_false, List.length_map, hle, e2, tyOf, aPop, hg, hd, eh1, ea1, aRemove, avInts_map, hact]
  by_cases hc : act.contains x = true
  ·simp! [hc]
   refine ⟨w.length, by omega, w, act.erase x, miss, rfl, by omega, ?_, by simp at sm; omega, ⟨kz + 1, ?_⟩, ⟨ka + 1, set_eq (by omega)⟩, ⟨km, ?_⟩, ?_, by simp; omega, fun i a b c => ?_, ?_, ?_, ?_⟩
   ·have := List.length_erase_le (a := x) (l := act); omega
   ·rw [set_ne (Ne.symm hn)]; exact er1
   ·rw [set_ne nqm]; exact em1
   ·rw [← hu, hrev, uldF_cons, if_pos hc]
   ·rw [set_ne (Ne.symm c)]; exact k1 i a b c
   ·simp! [e1]
   ·simp! [e2]
   ·simp! [e3]
  ·rw [Bool.not_eq_true] at hc
   simp! [hc, e3, tyOf, em1, aAppend, hmiss, Bool.false_eq_true]
   refine ⟨w.length, by omega, w, act, miss ++ [x], rfl, by omega, sa, by simp at sm ⊢; omega, ⟨kz + 1, ?_⟩, ⟨ka, ?_⟩, ⟨km + 1, ?_⟩, ?_, by simp; omega, fun i a b c => ?_, ?_, ?_, ?_⟩
   ·rw [set_ne (Ne.symm nrm)]; exact er1
   ·rw [set_ne (Ne.symm nqm)]; exact ea1
   ·rw [set_eq (by omega)]; simp
   ·rw [← hu, hrev, uldF_cons, if_neg (by rw [hc]; simp)]
   ·rw [set_ne (by omega)]; exact k1 i a b c
   ·simp! [e1]
   ·simp! [e2]
   ·simp! [e3]
inductive ILs (h : AH) : List Nat → List (List Int) → Prop
 | nil : ILs h [] []
 | cons {r : Nat} {xs : List Int} {rs : List Nat} {xss : List (List Int)} : IL h r xs → ILs h rs xss → ILs h (r :: rs) (xs :: xss)
theorem ILs.mono {h h' : AH} (p : ∀ r xs, IL h r xs → IL h' r xs) {rs : List Nat} {xss : List (List Int)} (i : ILs h rs xss) : ILs h' rs xss := by
 induction i with
 | nil => exact .nil
 | cons a _ ih => exact .cons (p _ _ a) ih
theorem ILs.set {h : AH} {q : Nat} {x : AObj × Nat} {rs : List Nat} {xss : List (List Int)} (i : ILs h rs xss) (hq : q ∉ rs) : ILs (h.set q x) rs xss := by
 induction i with
 | nil => exact .nil
 | cons a _ ih =>
  simp only [List.mem_cons, not_or] at hq
  exact .cons (a.set hq.1) (ih hq.2)
theorem ILs.snoc {h : AH} {rs : List Nat} {xss : List (List Int)} {r : Nat} {xs : List Int} (i : ILs h rs xss) (j : IL h r xs) : ILs h (rs ++ [r]) (xss ++ [xs]) := by
 induction i with
 | nil => exact .cons j .nil
 | cons a _ ih => exact .cons a ih
theorem ILs.get {h : AH} {rs : List Nat} {xss : List (List Int)} (i : ILs h rs xss) : ∀ {n : Nat} {xs : List Int}, xss[n]? = some xs → ∃ r, rs[n]? = some r ∧ IL h r xs := by
 induction i with
 | nil => intro n xs e; cases e
 | cons a _ ih =>
  intro n xs e
  cases n with
  | zero => cases e; exact ⟨_, rfl, a⟩
  | succ n => exact ih e
theorem ILs.len {h : AH} {rs : List Nat} {xss : List (List Int)} (i : ILs h rs xss) : rs.length = xss.length := by
 induction i with
 | nil => rfl
 | cons _ _ ih => simp [ih]
noncomputable def RL (h : AH) (lo R : Nat) (xss : List (List Int)) : Prop := ∃ refs k, h[R]? = some (.list (refs.map .ref), k) ∧ (R ∉ refs ∧ ∀ r ∈ refs, lo ≤ r) ∧ ILs h refs xss
theorem RL.mono {h h' : AH} {lo R : Nat} {xss : List (List Int)} (i : RL h lo R xss) (p : h <+: h') : RL h' lo R xss := by
 obtain ⟨refs, k, e, hn, is⟩ := i
 exact ⟨refs, k, prefix_get p e, hn, is.mono fun zz zz a => a.mono p⟩
theorem RL.set {h : AH} {lo R q : Nat} {x : AObj × Nat} {xss : List (List Int)} (i : RL h lo R xss) (h1 : q < lo) (h2 : q ≠ R) : RL (h.set q x) lo R xss := by
 obtain ⟨refs, k, e, hn, is⟩ := i
 exact ⟨refs, k, by rw [set_ne h2]; exact e, hn, is.set fun hq => by have := hn.2 q hq; omega⟩
theorem RL.idx {h : AH} {lo R : Nat} {xss : List (List Int)} (i : RL h lo R xss) {n : Nat} {xs : List Int} (e : xss[n]? = some xs) (hl : xss.length ≤ 1000000) : ∃ r, aIdx (.ref R) (.int n) h = some (.ref r) ∧ IL h r xs := by
 obtain ⟨refs, k, eR, hn, is⟩ := i
 obtain ⟨r, er, il⟩ := is.get e
 refine ⟨r, ?_, il⟩
 have hlen := is.len
 have hlt := (List.getElem?_eq_some_iff.mp er).1
 have h1 : idxOf (n : Int) refs.length = some n := by
  unfold idxOf
  rw [if_pos (Int.natCast_nonneg n), if_pos ⟨by exact_mod_cast hlt, by omega⟩]
  simp
 exact aIdx_at eR (by rw [List.length_map]; exact h1) (by rw [List.getElem?_map, er]; rfl)
noncomputable def fallen (src : Int → List Int) (out : Int → Bool) (there : List Int) : List Int := there.filter fun name => decide ((src name).filter (fun one => there.contains one || out one) = [])
noncomputable def fallsN (src : Int → List Int) (out : Int → Bool) : Nat → List Int → List (List Int) × List Int := Nat.rec (fun there => ([], there)) fun zz ih there => if fallen src out there = [] then ([], there) else
 (fallen src out there :: (ih (there.filter fun x => !(fallen src out there).contains x)).1, (ih (there.filter fun x => !(fallen src out there).contains x)).2)
theorem fallsN_succ (src : Int → List Int) (out : Int → Bool) (n : Nat) (there : List Int) : fallsN src out (n + 1) there = if fallen src out there = [] then ([], there) else
 (fallen src out there :: (fallsN src out n (there.filter fun x => !(fallen src out there).contains x)).1, (fallsN src out n (there.filter fun x => !(fallen src out there).contains x)).2) := rfl
noncomputable def srcOf (xss : List (List Int)) (i : Int) : List Int := (xss[i.toNat]?).getD []
noncomputable def InR (n : Nat) (xs : List Int) : Prop := ∀ x ∈ xs, 0 ≤ x ∧ x < (n : Int)
theorem RL.src {h : AH} {lo R n : Nat} {xss : List (List Int)} (i : RL h lo R xss) (hl : xss.length = n) (hn : n ≤ 1000) {x : Int} (hx : 0 ≤ x ∧ x < (n : Int)) : ∃ r, aIdx (.ref R) (.int x) h = some (.ref r) ∧ IL h r (srcOf xss x) := by
 obtain ⟨m, rfl⟩ : ∃ m : Nat, x = (m : Int) := ⟨x.toNat, by omega⟩
 have hm : m < xss.length := by omega
 have e : xss[m]? = some (srcOf xss (m : Int)) := by
  unfold srcOf
  simp only [Int.toNat_natCast, List.getElem?_eq_getElem hm, Option.getD_some]
 exact i.idx e (by omega)
noncomputable def OutV (v : AV) (out : Int → Bool) : Prop := ∀ (x : Int) (h : AH), aEq (.int x) v h = some (out x)
theorem outV_none : OutV .none fun zz => false := fun x h => by show some (PyData.eqv (.int x) .none) = some false; simp [PyData.eqv]
theorem outV_int (o : Int) : OutV (.int o) fun x => decide (x = o) := fun x h => aEq_int x o h
theorem filter_len_lt {α : Type} {p : α → Bool} {xs : List α} {x : α} (hx : x ∈ xs) (hp : p x = false) : (xs.filter p).length < xs.length := by
 induction xs with
 | nil => cases hx
 | cons y ys ih =>
  rw [List.filter_cons, List.length_cons]
  rcases List.mem_cons.mp hx with rfl | hx
  ·rw [if_neg (by rw [hp]; exact Bool.false_ne_true)]
   exact Nat.lt_succ_of_le (List.length_filter_le p ys)
  ·have := ih hx
   split
   ·exact Nat.succ_lt_succ this
   ·exact Nat.lt_succ_of_lt this
theorem fallen_less {src : Int → List Int} {out : Int → Bool} {there : List Int} (h : fallen src out there ≠ []) : (there.filter fun x => !(fallen src out there).contains x).length < there.length := by
 obtain ⟨x, hx⟩ := List.exists_mem_of_ne_nil _ h
 have hm : x ∈ there := (List.mem_filter.mp hx).1
 exact filter_len_lt hm (by simp [hx])
theorem srcOf_len {xss : List (List Int)} (hsm : ∀ xs ∈ xss, xs.length ≤ 1000) (x : Int) : (srcOf xss x).length ≤ 1000000 := by
 unfold srcOf
 cases e : xss[x.toNat]? with
 | none => simp
 | some ys => have := hsm ys (List.mem_of_getElem? e); simp; omega
theorem EnvOn.put {ns : List String} {e e' : List (String × AV)} {x : String} {v : AV} (h : EnvOn ns e e') (hx : x ∉ ns) : EnvOn ns e (put x v e') := fun y hy => by
 rw [lookup_put, if_neg (fun q => hx (by rw [← q]; exact hy))]; exact h y hy
theorem aEq_two0 (h : AH) (xs : List Int) (k k' : Nat) : aEq (.ref h.length) (.ref (h.length + 1)) (h ++ [(.list (xs.map .int), k), (.list [], k')]) = some (decide (xs = [])) :=
 aEq_list (ys := []) ⟨k, at_app0 _ _⟩ ⟨k', at_app _ _ 1⟩
theorem fallsN_fuel (src : Int → List Int) (out : Int → Bool) (n : Nat) : ∀ (m : Nat) (there : List Int), there.length < n → there.length < m → fallsN src out n there = fallsN src out m there := by
 induction n with
 | zero => exact fun zz zz h => absurd h (Nat.not_lt_zero _)
 | succ n ih =>
  intro m there h1 h2
  cases m with
  | zero => exact absurd h2 (Nat.not_lt_zero _)
  | succ m =>
   rw [fallsN_succ, fallsN_succ]
   by_cases hf : fallen src out there = []
   ·rw [if_pos hf, if_pos hf]
   ·have := fallen_less hf
    rw [if_neg hf, if_neg hf, ih m _ (Nat.lt_of_lt_of_le this (Nat.le_of_lt_succ h1)) (Nat.lt_of_lt_of_le this (Nat.le_of_lt_succ h2))]
theorem fallsN_step {src : Int → List Int} {out : Int → Bool} {there f : List Int} (hf : fallen src out there = f) (h0 : f ≠ []) : fallsN src out (there.length + 1) there = (f :: (fallsN src out ((there.filter fun x => !f.contains x).length + 1) (there.filter fun x => !f.contains x)).1, (fallsN src out ((there.filter fun x => !f.contains x).length + 1) (there.filter fun x => !f.contains x)).2) := by
 subst hf
 have := fallen_less h0
 rw [fallsN_succ, if_neg h0, fallsN_fuel src out there.length ((there.filter fun x => !(fallen src out there).contains x).length + 1) _ (by omega) (by omega)]
theorem falls_run {h : AH} {lo T S n : Nat} {ov : AV} {out : Int → Bool} {there : List Int} {xss : List (List Int)} {K : AV → AH → Prop} (hT : IL h T there) (hS : RL h lo S xss) (hl : xss.length = n) (hn : n ≤ 1000) (hr : InR n there) (ho : OutV ov out) (st : there.length ≤ 100) (hsm : ∀ xs ∈ xss, xs.length ≤ 1000)
  (k : ∀ h' R T', h <+: h' → h.length ≤ R → RL h' h.length R (fallsN (srcOf xss) out (there.length + 1) there).1 → IL h' T' (fallsN (srcOf xss) out (there.length + 1) there).2 → (T' = T ∨ h.length ≤ T') → R ≠ T' → K (.tup [.ref R, .ref T']) h') : wpH (aFalls [.ref T, .ref S, ov]) K h := by
 refine wp_def (bs := [("there", .ref T), ("sources", .ref S), ("outside", ov)]) rfl ?_
 unfold falls.prog
 have ho' : ∀ (x : Int) (h : AH), aEq (.int x) ov h = some (out x) := ho
 simp! [id_eq]
 refine wp_while (fun n st => ∃ t t' acc, n = t.length ∧ t.length ≤ 100 ∧ InR xss.length t ∧ h <+: st.hp ∧ IL st.hp t' t ∧ RL st.hp h.length h.length acc ∧ acc.length + t.length ≤ 100 ∧ t' ≠ h.length ∧ (t' = T ∨ h.length ≤ t') ∧
  (acc ++ (fallsN (srcOf xss) out (t.length + 1) t).1, (fallsN (srcOf xss) out (t.length + 1) t).2) = fallsN (srcOf xss) out (there.length + 1) there ∧
  st.env.lookup "there" = some (.ref t') ∧ st.env.lookup "sources" = some (.ref S) ∧ st.env.lookup "outside" = some ov ∧ st.env.lookup "rounds" = some (.ref h.length)) ?_ there.length _ ?_
 rotate_left
 ·refine ⟨there, T, [], rfl, st, hl ▸ hr, pre_app _ _, hT.mono (pre_app _ _), ⟨[], 0, by rw [at_app0]; rfl, by simp, .nil⟩, by simpa using st, ?_, .inl rfl, rfl, ?_⟩
  ·have := hT.lt; omega
  ·simp! [put_nil, put_cons]
 rintro n ⟨e, h'⟩ zI2
 obtain ⟨t, t', acc, rfl, tl, tr, p, iT, iR, al, htR, htT, hf, e1, e2, e3, e4⟩ := zI2
 simp only at p iT iR e1 e2 e3 e4
 have iS := hS.mono p
 obtain ⟨kT, eT⟩ := iT
 simp! [aTruth_bool, aTruth_ref, e1, itemsOf, eT]
 refine comp_filter (β := Int) (inj := .int) (p := fun name => decide ((srcOf xss name).filter (fun one => t.contains one || out one) = [])) (out := .int) (xs := t) (hg := by simp [eT]) (hl := by omega) ?_ ?_
 ·intro name hname e' h2 he' p2
  have f1 := he' "outside" (by simp)
  have f2 := he' "sources" (by simp)
  have f3 := he' "there" (by simp)
  rw [e3] at f1; rw [e2] at f2; rw [e1] at f3
  obtain ⟨r, er, ir⟩ := (iS.mono p2).src rfl (by omega) (tr name hname)
  obtain ⟨kr, gr⟩ := ir
  simp! [f1, f2, f3, er, itemsOf, gr]
  refine comp_filter (β := Int) (inj := .int) (p := fun one => t.contains one || out one) (out := .int) (xs := srcOf xss name) (hg := by simp [gr]) (hl := srcOf_len hsm name) ?_ ?_
  ·intro one hone e2 h3 he2 p3
   have g1 := he2 "outside" (by simp)
   have g3 := he2 "there" (by simp)
   simp! [f1, f3] at g1 g3
   have hm := aMem_list one (IL.mono (h := h') ⟨kT, eT⟩ (p2.trans p3))
   simp! [g1, g3, hm, ho']
   cases hc : t.contains one <;> cases hoo : out one <;> simp! [hoo, ho', g1] <;> exact ⟨rfl, he2.put (by decide), p3⟩
  ·intro h3 p3
   simp! [aEq_two0]
   by_cases hc : (srcOf xss name).filter (fun one => t.contains one || out one) = []
   ·simp! [hc, decide_true]
    exact ⟨rfl, he'.put (by decide), p2.trans (pre_app' p3 _)⟩
   ·simp! [hc, decide_false, Bool.false_eq_true]
    exact ⟨rfl, he'.put (by decide), p2.trans (pre_app' p3 _)⟩
 ·intro h2 p2
  refine Mine.gen (fallen (srcOf xss) out t) fun f hfd => ?_
  have hff : (t.filter fun name => decide ((srcOf xss name).filter (fun one => t.contains one || out one) = [])) = f := hfd
  have iT2 := (IL.mono (h := h') ⟨kT, eT⟩ p2)
  have iR2 := iR.mono p2
  have hRl : h.length < h2.length := by obtain ⟨_, _, e, _⟩ := iR2; exact lt_of_get e
  simp! [hff, aEq_two0, e1, e2, e3, e4]
  by_cases hf0 : f = []
  ·simp! [hf0, decide_true, e1, e4]
   have hN : fallsN (srcOf xss) out (t.length + 1) t = ([], t) := by rw [fallsN_succ, if_pos (hfd.trans hf0)]
   rw [hN, List.append_nil] at hf
   refine k _ _ _ (p.trans (pre_app' p2 _)) (Nat.le_refl _) ?_ ?_ htT (Ne.symm htR)
   ·rw [← hf]; exact iR2.mono (pre_app _ _)
   ·rw [← hf]; exact iT2.mono (pre_app _ _)
  ·have hfl : f.length ≤ 100 := by
    have := List.length_filter_le (fun name => decide ((srcOf xss name).filter (fun one => t.contains one || out one) = [])) t
    rw [hff] at this; omega
   refine Mine.gen (h2 ++ [(AObj.list (f.map AV.int), 0), (AObj.list [], 0)]) fun H eH => ?_
   have pH : h2 <+: H := eH ▸ pre_app _ _
   have iF : IL H h2.length f := ⟨0, by rw [← eH]; exact at_app0 _ _⟩
   obtain ⟨refs, kR, eR, hnR, isR⟩ := iR2.mono pH
   have hrl : refs.length = acc.length := isR.len
   have hra : refs.length ≤ 1000000 := by omega
   simp! [hf0, decide_false, Bool.false_eq_true, eH, e4, eR, tyOf, aAppend, hra]
   refine Mine.gen (H.set h.length (AObj.list (refs.map AV.ref ++ [.ref h2.length]), kR + 1)) fun H2 eH2 => ?_
   have p0 : h <+: H2 := eH2 ▸ pre_set ((p.trans p2).trans pH) (Nat.le_refl _)
   have iF2 : IL H2 h2.length f := eH2 ▸ iF.set (by omega)
   have iR3 : RL H2 h.length h.length (acc ++ [f]) := by
    refine ⟨refs ++ [h2.length], kR + 1, ?_, ?_, ?_⟩
    ·rw [← eH2, set_eq (lt_of_get eR)]; simp
    ·refine ⟨?_, fun r hr => ?_⟩
     ·simp only [List.mem_append, hnR.1, List.mem_singleton, false_or]; omega
     ·rcases List.mem_append.mp hr with hr | hr
      ·exact hnR.2 r hr
      ·rw [List.mem_singleton.mp hr]; omega
    ·rw [← eH2]; exact (isR.set hnR.1).snoc (iF.set (by omega))
   obtain ⟨k2, eT2⟩ := eH2 ▸ (iT2.mono pH).set (Ne.symm htR)
   simp! [eH2, e1, itemsOf, eT2]
   refine comp_filter (β := Int) (inj := .int) (p := fun x => !f.contains x) (out := .int) (xs := t) (hg := by simp [eT2]) (hl := by omega) ?_ ?_
   ·intro name hname e' h3 he' p3
    have f1 := he' "fallen" (by simp)
    simp! [id_eq] at f1
    have hm := aMem_list name (iF2.mono p3)
    simp! [f1, hm]
    cases hc : f.contains name <;> simp! [Bool.not_true, Bool.not_false, Bool.false_eq_true] <;> exact ⟨rfl, he'.put (by decide), p3⟩
   ·intro h3 p3
    simp! [id_eq]
    have hlt := fallen_less (src := srcOf xss) (out := out) (there := t) (by rw [hfd]; exact hf0)
    rw [hfd] at hlt
    refine ⟨_, hlt, t.filter (fun x => !f.contains x), h3.length, acc ++ [f], rfl, by omega, fun x hx => tr x (List.mem_filter.mp hx).1, pre_app' (p0.trans p3) _, ⟨0, at_app0 _ _⟩, (iR3.mono p3).mono (pre_app _ _), by simp only [List.length_append, List.length_cons, List.length_nil]; omega, ?_, ?_, ?_, ?_, ?_, ?_, ?_⟩
    ·have := p3.length_le; have := p0.length_le; have := lt_of_get eT2; have : H2.length = H.length := eH2 ▸ List.length_set; have := pH.length_le; omega
    ·exact .inr (Nat.le_trans p0.length_le p3.length_le)
    ·rw [← hf]
     rw [fallsN_step hfd hf0]
     simp
    ·simp! [id_eq]
    ·simp! [e2]
    ·simp! [e3]
    ·simp! [e4]
theorem compLoop_flat {β : Type} {frees : List String} {gs : List (Nat × (AObj × Nat))} {f : AV → AM Unit} {tst : AM Bool} {m : AM (List AV)} {e : List (String × AV)} {h : AH} (inj : β → AV) (g : β → List AV) (hg : ∀ x ∈ gs, h[x.1]? = some x.2) : ∀ (xs : List β) (Q : List AV → AS → Prop) (st : AS),
  (∀ x ∈ xs, ∀ e' h', EnvOn frees e e' → h <+: h' → wpA (f (inj x)) (kTgtC tst m (kStep (fun st => EnvOn frees e st.env ∧ h <+: st.hp) (g x))) ⟨e', h'⟩) → (EnvOn frees e st.env ∧ h <+: st.hp) →
   (∀ st', EnvOn frees e st'.env ∧ h <+: st'.hp → Q (xs.flatMap g) st') → wpA (compLoop gs f tst m (xs.map inj)) Q st := by
 intro xs
 induction xs with
 | nil =>
  intro Q st hs hI hq
  exact compLoop_rule (fun zz => []) (fun st => EnvOn frees e st.env ∧ h <+: st.hp) (fun st hI x hx => prefix_get hI.2 (hg x hx)) [] (fun x hx => by cases hx) st hI hq
 | cons x xs ih =>
  intro Q st hs hI hq
  show wpA (guard gs >>= fun zz => f (inj x) >>= fun zz => tst >>= fun b => if b = true then (m >>= fun ys => compLoop gs f tst m (xs.map inj) >>= fun zs => pure (ys ++ zs)) else compLoop gs f tst m (xs.map inj)) Q st
  rw [wpA_bind]
  refine wp_guard (fun x hx => prefix_get hI.2 (hg x hx)) ?_
  show wpA (f (inj x) >>= _) Q st
  rw [wpA_bind]
  obtain ⟨e1, h1⟩ := st
  refine wpA_mono (hs x List.mem_cons_self _ _ hI.1 hI.2) fun zz st1 h1 => ?_
  show wpA (tst >>= _) Q st1
  rw [wpA_bind]
  refine wpA_mono h1 fun b st2 h2 => ?_
  have hs' := fun y (hy : y ∈ xs) => hs y (List.mem_cons_of_mem _ hy)
  cases b with
  | true =>
   show wpA (m >>= _) Q st2
   rw [wpA_bind]
   refine wpA_mono h2 fun ys st3 h3 => ?_
   obtain ⟨hy, h3⟩ := h3
   show wpA (compLoop gs f tst m (xs.map inj) >>= _) Q st3
   rw [wpA_bind]
   refine ih _ st3 hs' h3 fun st4 h4 => ?_
   obtain ⟨e4, hp4⟩ := st4
   show wpA (pure _) _ _
   rw [wpA_pure, hy]
   have := hq _ h4
   rwa [List.flatMap_cons] at this
  | false =>
   obtain ⟨hz, h2⟩ := h2
   show wpA (compLoop gs f tst m (xs.map inj)) Q st2
   refine ih _ st2 hs' h2 fun st4 h4 => ?_
   have := hq _ h4
   rwa [List.flatMap_cons, ← hz, List.nil_append] at this
theorem comp_flat {β : Type} {frees : List String} {gs : List (Nat × (AObj × Nat))} {f : AV → AM Unit} {tst : AM Bool} {m : AM (List AV)} {Q : AV → AS → Prop} {e : List (String × AV)} {h : AH} (inj : β → AV) (xs : List β) (g : β → List AV)
  (hg : ∀ x ∈ gs, h[x.1]? = some x.2)
  (hs : ∀ x ∈ xs, ∀ e' h', EnvOn frees e e' → h <+: h' → wpA (f (inj x)) (kTgtC tst m (kStep (fun st => EnvOn frees e st.env ∧ h <+: st.hp) (g x))) ⟨e', h'⟩)
  (hl : (xs.flatMap g).length ≤ 1000000) (hq : ∀ h', h <+: h' → Q (.ref h'.length) ⟨e, h' ++ [(.list (xs.flatMap g), 0)]⟩) : wpA (compLoop gs f tst m (xs.map inj)) (kCompEnd e Q) ⟨restrict frees e, h⟩ :=
 compLoop_flat inj g hg xs _ _ hs ⟨fun y hy => lookup_restrict _ _ hy _, List.prefix_refl _⟩ fun st' h' => ⟨hl, hq _ h'.2⟩
theorem flatMap_filter {β γ : Type} (p : β → Bool) (out : β → γ) : ∀ xs : List β, (xs.flatMap fun x => if p x = true then [out x] else []) = (xs.filter p).map out
 | [] => rfl
 | x :: xs => by
  rw [List.flatMap_cons, flatMap_filter p out xs]
  by_cases hp : p x = true
  ·rw [if_pos hp, List.filter_cons_of_pos hp]; rfl
  ·rw [if_neg hp, List.filter_cons_of_neg hp]; rfl
theorem comp1_filter {β : Type} (frees : List String) {gs : List (Nat × (AObj × Nat))} {f : AV → AM Unit} {tst : AM Bool} {m : AM (List AV)} {Q : List AV → AS → Prop} {e : List (String × AV)} {h : AH} (inj : β → AV) (xs : List β) (p : β → Bool) (out : β → AV)
  (hg : ∀ x ∈ gs, h[x.1]? = some x.2)
  (hs : ∀ x ∈ xs, ∀ e' h', EnvOn frees e e' → h <+: h' → wpA (f (inj x)) (kTgtC tst m (kStep (fun st => EnvOn frees e st.env ∧ h <+: st.hp) (if p x = true then [out x] else []))) ⟨e', h'⟩)
  (hq : ∀ e' h', EnvOn frees e e' → h <+: h' → Q ((xs.filter p).map out) ⟨e', h'⟩) : wpA (compLoop gs f tst m (xs.map inj)) Q ⟨e, h⟩ :=
 compLoop_flat (e := e) inj _ hg xs _ _ hs ⟨fun y hy => rfl, List.prefix_refl _⟩ fun st' h' => by
  obtain ⟨e', h2⟩ := st'
  rw [flatMap_filter]; exact hq _ _ h'.1 h'.2
noncomputable def Sub (h h' : AH) : Prop := ∀ (i : Nat) (xs : List AV) (k : Nat), h[i]? = some (.list xs, k) → h'[i]? = some (.list xs, k)
theorem mapO_imp {α β : Type} {f g : α → Option β} (hfg : ∀ x d, f x = some d → g x = some d) {xs : List α} : ∀ {ds : List β}, mapO f xs = some ds → mapO g xs = some ds := by
 induction xs with
 | nil => exact fun h => h
 | cons x xs ih =>
  intro ds h
  refine bO_some h fun d hx h1 => bO_some h1 fun ds' hxs h2 => ?_
  exact (bO_of (hfg _ _ hx)).trans ((bO_of (ih hxs)).trans h2)
theorem adata_sub {h h' : AH} (s : Sub h h') {n : Nat} : ∀ {m : Nat} {v : AV} {d : PyData}, n ≤ m → adata h n v = some d → adata h' m v = some d := by
 induction n with
 | zero => intro m v d _ e; cases e
 | succ n ih0 =>
  intro m v d hl e
  cases m with
  | zero => omega
  | succ m =>
   have ih : ∀ x d, adata h n x = some d → adata h' m x = some d := fun x d => ih0 (by omega)
   cases v with
   | tup xs =>
    rw [adata_tup, Option.map_eq_some_iff] at e ⊢
    obtain ⟨ds, hd, rfl⟩ := e
    exact ⟨ds, mapO_imp ih hd, rfl⟩
   | ref r =>
    refine bO_some e fun c hr e1 => bO_some e1 fun xs hx e2 => ?_
    rw [adata_at (s _ _ _ (at_list hr hx))]
    rw [Option.map_eq_some_iff] at e2 ⊢
    obtain ⟨ds, hd, rfl⟩ := e2
    exact ⟨ds, mapO_imp ih hd, rfl⟩
   | _ => exact e
theorem Sub.pre {h h' : AH} (p : h <+: h') : Sub h h' := fun zz zz zz e => prefix_get p e
theorem Sub.junk (h : AH) (r k : Nat) : Sub (h.set r (.junk, k)) h := fun i xs j e => by
 rw [List.getElem?_set] at e
 split at e
 ·split at e <;> cases e
 ·exact e
theorem pre_set2 {h h' : AH} {r : Nat} {x : AObj × Nat} (p : h <+: h') (hr : r < h.length) : h.set r x <+: h'.set r x := by
 obtain ⟨t, rfl⟩ := p
 exact ⟨t, by rw [List.set_append_left _ _ hr]⟩
inductive DLs (h : AH) : List Nat → List PyData → Prop
 | nil : DLs h [] []
 | cons {r : Nat} {d : PyData} {rs : List Nat} {ds : List PyData} : adata h 4 (.ref r) = some d → DLs h rs ds → DLs h (r :: rs) (d :: ds)
theorem DLs.mono {h h' : AH} (s : Sub h h') {rs : List Nat} {ds : List PyData} (i : DLs h rs ds) : DLs h' rs ds := by
 induction i with
 | nil => exact .nil
 | cons a _ ih => exact .cons (adata_sub s (Nat.le_refl _) a) ih
theorem DLs.snoc {h : AH} {rs : List Nat} {ds : List PyData} {r : Nat} {d : PyData} (i : DLs h rs ds) (j : adata h 4 (.ref r) = some d) : DLs h (rs ++ [r]) (ds ++ [d]) := by
 induction i with
 | nil => exact .cons j .nil
 | cons a _ ih => exact .cons a ih
theorem DLs.data {h : AH} {rs : List Nat} {ds : List PyData} (i : DLs h rs ds) : mapO (adata h 4) (rs.map .ref) = some ds := by
 induction i with
 | nil => rfl
 | cons a _ ih => rw [List.map_cons, mapO_cons, a, ih]; rfl
theorem DLs.len {h : AH} {rs : List Nat} {ds : List PyData} (i : DLs h rs ds) : rs.length = ds.length := by
 induction i with
 | nil => rfl
 | cons _ _ ih => simp [ih]
noncomputable def TL (h : AH) (R : Nat) (ds : List PyData) : Prop := ∃ refs k, h[R]? = some (.list (refs.map .ref), k) ∧ DLs (h.set R (.junk, 0)) refs ds
theorem TL.mono {h h' : AH} {R : Nat} {ds : List PyData} (t : TL h R ds) (p : h <+: h') : TL h' R ds := by
 obtain ⟨refs, k, e, i⟩ := t
 exact ⟨refs, k, prefix_get p e, i.mono (.pre (pre_set2 p (lt_of_get e)))⟩
theorem TL.lt {h : AH} {R : Nat} {ds : List PyData} (t : TL h R ds) : R < h.length := by
 obtain ⟨refs, k, e, i⟩ := t; exact lt_of_get e
theorem TL.data {h : AH} {R : Nat} {ds : List PyData} (t : TL h R ds) : adata h 8 (.ref R) = some (.list ds) := by
 obtain ⟨refs, k, e, i⟩ := t
 have := i.mono (Sub.junk h R 0)
 refine adata_sub (n := 5) (fun zz zz zz e => e) (by omega) ?_
 rw [adata_at e, this.data]; rfl
theorem TL.append {h : AH} {R r : Nat} {ds : List PyData} {d : PyData} (t : TL h R ds) (hd : adata (h.set R (.junk, 0)) 4 (.ref r) = some d) (hl : ds.length ≤ 1000) : ∃ h', aAppend [.ref R, .ref r] h = some (.none, h') ∧ TL h' R (ds ++ [d]) ∧ (∀ i, i ≠ R → h'[i]? = h[i]?) ∧ h'.length = h.length ∧
  (∃ refs k, h'[R]? = some (.list ((refs ++ [r]).map .ref), k) ∧ refs.length = ds.length) := by
 obtain ⟨refs, k, e, i⟩ := t
 have hlen := i.len
 refine ⟨h.set R (.list (refs.map AV.ref ++ [.ref r]), k + 1), ?_, ⟨refs ++ [r], k + 1, ?_, ?_⟩, fun i hi => set_ne (Ne.symm hi), List.length_set, refs, k + 1, ?_, hlen⟩
 ·exact aAppend_at e (by rw [List.length_map]; omega)
 ·rw [set_eq (lt_of_get e)]; simp
 ·rw [List.set_set]; exact i.snoc hd
 ·rw [set_eq (lt_of_get e)]; simp
inductive Rc where
 | sweep (ringed : Bool) (rounds : List (List Int)) (live : List Int)
 | look (outer other live : List Int)
noncomputable def LI (xs : List Int) : PyData := .list (xs.map .int)
noncomputable def Rc.data : Rc → PyData
 | .sweep b rs l => .list [.bool b, .list (rs.map LI), LI l]
 | .look a b c => .list [LI a, LI b, LI c]
theorem ILs.data {h : AH} {rs : List Nat} {xss : List (List Int)} (i : ILs h rs xss) : mapO (adata h 2) (rs.map .ref) = some (xss.map LI) := by
 induction i with
 | nil => rfl
 | cons a _ ih => rw [List.map_cons, mapO_cons, adata_list 0 a, ih]; rfl
theorem sweep_data {h : AH} {r R T lo k : Nat} {b : Bool} {xss : List (List Int)} {l : List Int} (e : h[r]? = some (.list [.bool b, .ref R, .ref T], k)) (hR : RL h lo R xss) (hT : IL h T l) : adata h 4 (.ref r) = some (Rc.sweep b xss l).data := by
 obtain ⟨refs, k', eR, _, is⟩ := hR
 have h1 : adata h 3 (.ref R) = some (.list (xss.map LI)) := by rw [adata_at eR, is.data]; rfl
 have h2 : adata h 3 (.ref T) = some (LI l) := adata_list 1 hT
 have h3 : adata h 3 (.bool b) = some (.bool b) := rfl
 have : adata h 4 (.ref r) = (mapO (adata h 3) [.bool b, .ref R, .ref T]).map .list := adata_at e
 rw [this]
 simp only [mapO_cons, mapO_nil, bO_v, h1, h2, h3, Option.map_some, Rc.data]
theorem look_data {h : AH} {r A B C k : Nat} {a b c : List Int} (e : h[r]? = some (.list [.ref A, .ref B, .ref C], k)) (hA : IL h A a) (hB : IL h B b) (hC : IL h C c) : adata h 4 (.ref r) = some (Rc.look a b c).data := by
 have h1 : adata h 3 (.ref A) = some (LI a) := adata_list 1 hA
 have h2 : adata h 3 (.ref B) = some (LI b) := adata_list 1 hB
 have h3 : adata h 3 (.ref C) = some (LI c) := adata_list 1 hC
 have : adata h 4 (.ref r) = (mapO (adata h 3) [.ref A, .ref B, .ref C]).map .list := adata_at e
 rw [this]
 simp only [mapO_cons, mapO_nil, bO_v, h1, h2, h3, Option.map_some, Rc.data]
theorem fallsN_sub (src : Int → List Int) (out : Int → Bool) (n : Nat) : ∀ there : List Int, (fallsN src out n there).2.Sublist there := by
 induction n with
 | zero => exact fun there => List.Sublist.refl _
 | succ n ih =>
  intro there
  rw [fallsN_succ]
  split
  ·exact List.Sublist.refl _
  ·exact (ih _).trans List.filter_sublist
noncomputable def safeStep (src : Int → List Int) (row safe : List Int) : List Int := row.filter fun name => safe.contains name || !decide ((src name).filter (fun one => safe.contains one) = [])
noncomputable def iterN {α : Type} (f : α → α) : Nat → α → α := Nat.rec (fun x => x) fun zz ih x => ih (f x)
theorem iterN_zero {α : Type} (f : α → α) (x : α) : iterN f 0 x = x := rfl
noncomputable def dueOuter (src : Int → List Int) (t1 row : List Int) : List Int := row.flatMap fun name => ((src name).filter fun one => decide (one = 8) || (t1.contains one && !row.contains one)).map fun zz => name
noncomputable def ringedOf (src : Int → List Int) (there : List Int) : Bool := !decide ((fallsN src (fun zz => false) (there.length + 1) there).2 = [])
noncomputable def swept1 (src : Int → List Int) (there : List Int) : List (List Int) × List Int := fallsN src (fun x => decide (x = 8)) (there.length + 1) there
noncomputable def rowOf (part t1 : List Int) : List Int := t1.filter fun x => part.contains x
noncomputable def safeOf (src : Int → List Int) (t1 row : List Int) : List Int := iterN (safeStep src row) row.length (dueOuter src t1 row)
noncomputable def leftOf (src : Int → List Int) (t1 row : List Int) : List Int := t1.filter fun x => !row.contains x || (safeOf src t1 row).contains x
noncomputable def dueF (src : Int → List Int) : List (List Int) → List Int → List Rc := List.rec (fun zz => []) fun p zz ih there => .sweep (ringedOf src there) (swept1 src there).1 (swept1 src there).2 :: .look (dueOuter src (swept1 src there).2 (rowOf p (swept1 src there).2)) [] (leftOf src (swept1 src there).2 (rowOf p (swept1 src there).2)) ::
  ih (leftOf src (swept1 src there).2 (rowOf p (swept1 src there).2))
theorem dueF_nil (src : Int → List Int) (there : List Int) : dueF src [] there = [] := rfl
theorem dueF_cons (src : Int → List Int) (p : List Int) (ps : List (List Int)) (there : List Int) : dueF src (p :: ps) there = .sweep (ringedOf src there) (swept1 src there).1 (swept1 src there).2 :: .look (dueOuter src (swept1 src there).2 (rowOf p (swept1 src there).2)) [] (leftOf src (swept1 src there).2 (rowOf p (swept1 src there).2)) ::
  dueF src ps (leftOf src (swept1 src there).2 (rowOf p (swept1 src there).2)) := rfl
structure DueI (h0 : AH) (S R : Nat) (xss : List (List Int)) (tot : List PyData) (items : List AV) (e : List (String × AV)) (h : AH) : Prop where
 mk' ::
 all : ∃ prefs prest there t' ds, items = prefs.map .ref ∧ ILs h0 prefs prest ∧ h0 <+: h ∧ IL h t' there ∧ InR 8 there ∧ there.length ≤ 100 ∧ TL h R ds ∧ t' ≠ R ∧ ds.length + 2 * prest.length ≤ 1000 ∧ ds ++ (dueF (srcOf xss) prest there).map Rc.data = tot ∧
  e.lookup "there" = some (.ref t') ∧ e.lookup "sources" = some (.ref S) ∧ e.lookup "told" = some (.ref R)
noncomputable def r8 : List Int := (List.range 8).map fun (i : Nat) => (i : Int)
theorem inR_r8 : InR 8 r8 := fun x hx => by
 simp only [r8, List.mem_map, List.mem_range] at hx
 obtain ⟨a, ha, rfl⟩ := hx; omega
theorem tup_idx1 (a b : AV) (h : AH) : aIdx (.tup [a, b]) (.int 1) h = some b := rfl
theorem aNe_int0 (h : AH) (xs : List Int) {T k : Nat} (i : IL h T xs) : aEq (.ref T) (.ref h.length) (h ++ [(.list [], k)]) = some (decide (xs = [])) :=
 aEq_list (ys := []) (i.mono (pre_app _ _)) ⟨k, at_app0 _ _⟩
theorem TL.ty {h : AH} {R : Nat} {ds : List PyData} (t : TL h R ds) : tyOf (.ref R) h = some "list" := by
 obtain ⟨refs, k, e, i⟩ := t; exact ty_list e
theorem pre_same {h h1 h2 : AH} (p : h <+: h1) (hs : ∀ i, i < h.length → h2[i]? = h1[i]?) : h <+: h2 := by
 rw [List.prefix_iff_getElem?] at p ⊢
 intro i hi
 rw [hs i hi]; exact p i hi
theorem IL.same {h1 h2 : AH} {r : Nat} {xs : List Int} (i : IL h1 r xs) (hs : h2[r]? = h1[r]?) : IL h2 r xs := by
 obtain ⟨k, e⟩ := i; exact ⟨k, hs.trans e⟩
theorem flatMap_len {α β : Type} {g : α → List β} {n : Nat} : ∀ {xs : List α}, (∀ x ∈ xs, (g x).length ≤ n) → (xs.flatMap g).length ≤ xs.length * n
 | [], _ => by simp
 | x :: xs, h => by
  have h1 := h x List.mem_cons_self
  have h2 := flatMap_len (xs := xs) fun y hy => h y (List.mem_cons_of_mem _ hy)
  rw [List.flatMap_cons, List.length_append, List.length_cons, Nat.succ_mul]; omega
theorem aStart {h : AH} {R : Nat} {ds : List PyData} {r : Nat} {K : AV → AH → Prop} {d : PyData} (t : TL h R ds) (hd : adata (h.set R (.junk, 0)) 4 (.ref r) = some d) (hl : ds.length ≤ 1000)
  (k : ∀ h', TL h' R (ds ++ [d]) → (∀ i, i ≠ R → h'[i]? = h[i]?) → h'.length = h.length → (∃ refs k, h'[R]? = some (.list ((refs ++ [r]).map .ref), k) ∧ refs.length = ds.length) → K .none h') : onRes K (aAppend [.ref R, .ref r] h) := by
 obtain ⟨h', e, t', hs, hl', hr⟩ := t.append hd hl
 rw [e, onRes_some]; exact k h' t' hs hl' hr
theorem srcOf_len' {xss : List (List Int)} (hsm : ∀ xs ∈ xss, xs.length ≤ 1000) (x : Int) : (srcOf xss x).length ≤ 1000 := by
 unfold srcOf
 cases e : xss[x.toNat]? with
 | none => simp
 | some ys => have := hsm ys (List.mem_of_getElem? e); simpa using this
theorem due_run {h0 : AH} {P S lo lo2 : Nat} {parts xss : List (List Int)} {K : AV → AH → Prop} (hP : RL h0 lo P parts) (hS : RL h0 lo2 S xss) (hx : xss.length = 8) (hsm : ∀ xs ∈ xss, xs.length ≤ 1000) (hp : parts.length ≤ 100)
  (k : ∀ h' R, h0 <+: h' → h0.length ≤ R → TL h' R ((dueF (srcOf xss) parts r8).map Rc.data) → K (.ref R) h') : wpH (aDue [.ref P, .ref S]) K h0 := by
 refine wp_def (bs := [("parts", .ref P), ("sources", .ref S)]) rfl ?_
 unfold due.prog
 obtain ⟨prefs, kP, eP, nP, iP⟩ := hP
 have hPl := lt_of_get eP
 simp! [aRange, aListR, put_nil, put_cons, itemsOf, Int.reduceLE, Int.reduceToNat, app_old hPl, eP]
 refine Mine.gen ((dueF (srcOf xss) parts r8).map Rc.data) fun tot htot => ?_
 refine wp_forLoop (fun items st => DueI h0 S (h0.length + 2) xss tot items st.env st.hp) ?_ ?_ ?_ _ _ ?_
 rotate_right
 ·refine ⟨prefs, parts, r8, h0.length + 1, [], rfl, iP, pre_app _ _, ⟨0, at_app _ _ 1⟩, inR_r8, by decide, ⟨[], 0, at_app _ _ 2, .nil⟩, by omega, by simp; omega, by rw [htot]; rfl, ?_, ?_, ?_⟩ <;> simp! [id_eq]
 ·rintro items ⟨e, h⟩ zI2 g hg
  obtain ⟨prefs', prest, there, t', ds, rfl, iP', p, iT, tr, tl, tL, htR, hds, htt, e1, e2, e3⟩ := zI2.all
  simp only [List.mem_singleton] at hg
  subst hg
  exact prefix_get p eP
 ·rintro x items ⟨e, h⟩ zI3
  obtain ⟨prefs', prest, there, t', ds, hi, iP', p, iT, tr, tl, tL, htR, hds, htt, e1, e2, e3⟩ := zI3.all
  simp only at p iT tL e1 e2 e3
  cases iP' with
  | nil => cases hi
  | @cons pr part pfs prest hpr iP' =>
  simp only [List.map_cons, List.cons.injEq] at hi
  obtain ⟨rfl, rfl⟩ := hi
  simp! [e1, e2]
  refine falls_run (there := there) (xss := xss) (n := 8) (out := fun zz => false) iT (hS.mono p) hx (by omega) tr outV_none tl hsm ?_
  intro h1 R1 T1 p1 l1 rl1 il1 hT1 hne1
  simp! [tup_idx1, aNe_int0 h1 _ il1, e1, e2]
  refine Mine.gen (h1 ++ [(AObj.list [], 0)]) fun H1 eH1 => ?_
  have q1 : h <+: H1 := eH1 ▸ pre_app' p1 _
  rw [eH1]
  refine falls_run (there := there) (xss := xss) (n := 8) (out := fun x => decide (x = 8)) (iT.mono q1) ((hS.mono p).mono q1) hx (by omega) tr (outV_int 8) tl hsm ?_
  intro h2 R2 T2 p2 l2 rl2 il2 hT2 hne2
  refine Mine.gen (ringedOf (srcOf xss) there) fun rng ern => ?_
  have ern' : (!decide ((fallsN (srcOf xss) (fun x => false) (there.length + 1) there).2 = [])) = rng := ern
  rw [ern']
  refine Mine.gen ((swept1 (srcOf xss) there).1) fun rs ers => ?_
  refine Mine.gen ((swept1 (srcOf xss) there).2) fun t1 et1 => ?_
  have rl2' : RL h2 H1.length R2 rs := ers ▸ rl2
  have il2' : IL h2 T2 t1 := et1 ▸ il2
  have sub1 : t1.Sublist there := et1 ▸ fallsN_sub _ _ _ _
  have tL2 := (tL.mono q1).mono p2
  simp! [e3]
  refine ⟨(tL2).ty, ?_⟩
  refine Mine.gen (h2 ++ [(AObj.list [AV.bool rng, AV.ref R2, AV.ref T2], 0)]) fun H2 eH2 => ?_
  have q2 : h2 <+: H2 := eH2 ▸ pre_app _ _
  have lq1 := q1.length_le
  have lp2 := p2.length_le
  have lq2 := q2.length_le
  have lt0 := tL.lt
  have hT2R : T2 ≠ h0.length + 2 := by rcases hT2 with rfl | h <;> omega
  have eRec : H2[h2.length]? = some (.list [AV.bool rng, AV.ref R2, AV.ref T2], 0) := eH2 ▸ at_app0 _ _
  rw [eH2]
  refine aStart (d := (Rc.sweep rng rs t1).data) (tL2.mono q2) (sweep_data (k := 0) (by rw [set_ne (by omega)]; exact eRec) ((rl2'.mono q2).set (by omega) (by omega)) ((il2'.mono q2).set (Ne.symm hT2R))) (by simp at hds; omega) ?_
  intro H3 tL3 same3 len3 _
  have pre3 : h0 <+: H3 := pre_same (((p.trans q1).trans p2).trans q2) fun i hi => same3 i (by omega)
  have iT3 : IL H3 T2 t1 := (il2'.mono q2).same (same3 _ hT2R)
  have iPr3 : IL H3 pr part := hpr.mono pre3
  have iS3 : RL H3 lo2 S xss := hS.mono pre3
  have l1 : t1.length ≤ 100 := Nat.le_trans sub1.length_le tl
  have r1 : InR 8 t1 := fun x hx => tr x (sub1.subset hx)
  obtain ⟨k3, g3⟩ := iT3
  simp! [itemsOf, g3]
  refine comp_filter (β := Int) (inj := .int) (p := fun x => part.contains x) (out := .int) (xs := t1) (hg := by simp [g3]) (hl := by omega) ?_ ?_
  ·intro name hname e' h' he' p'
   have f1 := he' "part" (by simp)
   simp! [id_eq] at f1
   have hm := aMem_list name (iPr3.mono p')
   simp! [f1, hm]
   cases hc : part.contains name <;> simp! [Bool.false_eq_true] <;> exact ⟨rfl, he'.put (by decide), p'⟩
  intro h4 p4
  refine Mine.gen (rowOf part t1) fun row erow => ?_
  have erow' : (t1.filter fun x => part.contains x) = row := erow
  rw [erow']
  have rsub : row.Sublist t1 := erow ▸ List.filter_sublist
  have lrow : row.length ≤ 100 := Nat.le_trans rsub.length_le l1
  have rrow : InR 8 row := fun x hx => r1 x (rsub.subset hx)
  refine Mine.gen (h4 ++ [(AObj.list (row.map AV.int), 0)]) fun H4 eH4 => ?_
  have q4 : H3 <+: H4 := eH4 ▸ pre_app' p4 _
  have gRow : H4[h4.length]? = some (.list (row.map .int), 0) := eH4 ▸ at_app0 _ _
  have iRow : IL H4 h4.length row := ⟨0, gRow⟩
  have iT4 : IL H4 T2 t1 := IL.mono ⟨k3, g3⟩ q4
  have iS4 := iS3.mono q4
  rw [eH4]
  simp! [itemsOf, gRow]
  refine comp_flat (β := Int) (inj := .int) (g := fun name => ((srcOf xss name).filter fun one => decide (one = 8) || (t1.contains one && !row.contains one)).map fun zz => .int name) (xs := row) (hg := by simp [gRow]) (hl := ?_) ?_ ?_
  ·intro name hname e' h' he' p'
   have f1 := he' "row" (by simp)
   have f2 := he' "sources" (by simp)
   have f3 := he' "there" (by simp)
   simp! [e2] at f1 f2 f3
   obtain ⟨r, er, ir⟩ := (iS4.mono p').src hx (by omega) (rrow name hname)
   obtain ⟨kr, gr⟩ := ir
   simp! [f1, f2, f3, er, itemsOf, gr]
   refine comp1_filter (β := Int) ["row", "sources", "there", "name"] (inj := .int) (p := fun one => decide (one = 8) || (t1.contains one && !row.contains one)) (out := fun zz => .int name) (xs := srcOf xss name) (hg := by simp [gr]) ?_ ?_
   ·intro one hone e2 h5 he2 p5
    have g1 := he2 "row" (by simp)
    have g2 := he2 "there" (by simp)
    have g3 := he2 "name" (by simp)
    simp! [f1, f3] at g1 g2 g3
    have hm1 := aMem_list one (iT4.mono (p'.trans p5))
    have hm2 := aMem_list one (iRow.mono (p'.trans p5))
    simp! [g1, g2, g3, aEq_int]
    cases h8 : decide (one = 8) <;> cases hc1 : t1.contains one <;> cases hc2 : row.contains one <;> simp! [g1, g2, g3, hm1, hm2, hc1, hc2, Bool.not_true, Bool.not_false, Bool.false_eq_true] <;> exact ⟨rfl, he2.put (by decide), p5⟩
   ·intro e2 h5 he2 p5
    refine ⟨rfl, fun y hy => ?_, p'.trans p5⟩
    have hy' : y ∈ ["row", "sources", "there", "name"] := by
     simp only [List.mem_cons, List.not_mem_nil, or_false] at hy ⊢
     rcases hy with h | h | h <;> simp [h]
    have hne : y ≠ "name" := by
     simp only [List.mem_cons, List.not_mem_nil, or_false] at hy
     rcases hy with rfl | rfl | rfl <;> decide
    rw [he2 y hy', lookup_put, if_neg hne]; exact he' y hy
  ·have := flatMap_len (g := fun name => ((srcOf xss name).filter fun one => decide (one = 8) || (t1.contains one && !row.contains one)).map fun zz => AV.int name) (n := 1000) (xs := row) fun name zz => by
    rw [List.length_map]; exact Nat.le_trans (List.length_filter_le _ _) (srcOf_len' hsm name)
   omega
  intro h5 p5
  refine Mine.gen (dueOuter (srcOf xss) t1 row) fun outer eouter => ?_
  have eouter' : (row.flatMap fun name => ((srcOf xss name).filter fun one => decide (one = 8) || (t1.contains one && !row.contains one)).map fun zz => AV.int name) = outer.map .int := by
   rw [← eouter, dueOuter, List.map_flatMap]
   simp only [List.map_map]; rfl
  rw [eouter']
  refine Mine.gen (h5 ++ [(AObj.list (outer.map AV.int), 0)]) fun H5 eH5 => ?_
  have q5 : H4 <+: H5 := eH5 ▸ pre_app' p5 _
  have iOut : IL H5 h5.length outer := ⟨0, eH5 ▸ at_app0 _ _⟩
  have iRow5 := iRow.mono q5
  obtain ⟨kr5, gRow5⟩ := iRow5
  have hlr : row.length ≤ 1000000 := by omega
  have hna : (row.length : Int).natAbs < 4611686018427387904 := by omega
  rw [eH5]
  simp! [aLen, gRow5, hlr, rangeOf, hna]
  refine wp_forLoop (fun items st => ∃ safe sr, H5 <+: st.hp ∧ IL st.hp sr safe ∧ iterN (safeStep (srcOf xss) row) items.length safe = safeOf (srcOf xss) t1 row ∧ st.env.lookup "row" = some (.ref h4.length) ∧ st.env.lookup "sources" = some (.ref S) ∧
   st.env.lookup "there" = some (.ref T2) ∧ st.env.lookup "told" = some (.ref (h0.length + 2)) ∧ st.env.lookup "outer" = some (.ref h5.length) ∧ st.env.lookup "safe" = some (.ref sr)) (fun zz zz zz g hg => by cases hg) ?_ ?_ _ _ ?_
  rotate_right
  ·refine ⟨outer, h5.length, List.prefix_refl _, iOut, ?_, ?_⟩
   ·rw [List.length_map, List.length_range, Int.toNat_natCast, ← eouter]; rfl
   ·simp! [e2, e3]
  ·rintro x items ⟨e', h6⟩ zI3
   obtain ⟨safe, sr, p6, iSafe, hit, a1, a2, a3, a4, a5, a6⟩ := zI3
   simp only at p6 iSafe a1 a2 a3 a4 a5 a6
   have gRow6 := prefix_get (p6) gRow5
   simp! [a1, itemsOf, gRow6]
   refine comp_filter (β := Int) (inj := .int) (p := fun name => safe.contains name || !decide ((srcOf xss name).filter (fun one => safe.contains one) = [])) (out := .int) (xs := row) (hg := by simp [gRow6]) (hl := by omega) ?_ ?_
   ·intro name hname e2 h' he' p'
    have f1 := he' "safe" (by simp)
    have f2 := he' "sources" (by simp)
    simp! [a2, a6] at f1 f2
    have hm := aMem_list name (iSafe.mono p')
    obtain ⟨r, er, ir⟩ := ((iS4.mono q5).mono (p6.trans p')).src hx (by omega) (rrow name hname)
    obtain ⟨kr, gr⟩ := ir
    simp! [f1, hm]
    cases hc : safe.contains name with
    | true =>
     simp! [id_eq]
     exact ⟨rfl, he'.put (by decide), p'⟩
    | false =>
     simp! [f1, f2, er, itemsOf, gr]
     refine comp_filter (β := Int) (inj := .int) (p := fun one => safe.contains one) (out := .int) (xs := srcOf xss name) (hg := by simp [gr]) (hl := srcOf_len hsm name) ?_ ?_
     ·intro one hone e3 h7 he3 p7
      have g1 := he3 "safe" (by simp)
      simp! [f1] at g1
      have hm1 := aMem_list one ((iSafe.mono p').mono p7)
      simp! [g1, hm1]
      cases hc1 : safe.contains one <;> simp! [Bool.false_eq_true] <;> exact ⟨rfl, he3.put (by decide), p7⟩
     ·intro h7 p7
      simp! [aEq_two0]
      by_cases hc2 : (srcOf xss name).filter (fun one => safe.contains one) = []
      ·simp! [hc2, decide_true, Bool.not_true]
       exact ⟨rfl, he'.put (by decide), p'.trans (pre_app' p7 _)⟩
      ·simp! [hc2, decide_false, Bool.not_false]
       exact ⟨rfl, he'.put (by decide), p'.trans (pre_app' p7 _)⟩
   ·intro h7 p7
    simp! [id_eq]
    refine ⟨safeStep (srcOf xss) row safe, h7.length, pre_app' (p6.trans p7) _, ⟨0, at_app0 _ _⟩, hit, ?_⟩
    simp! [a1, a2, a3, a4, a5]
  ·rintro ⟨e', h6⟩ zI1
   obtain ⟨safe, sr, p6, iSafe, hit, a1, a2, a3, a4, a5, a6⟩ := zI1
   simp only at p6 iSafe a1 a2 a3 a4 a5 a6
   simp only [List.length_nil, iterN_zero] at hit
   have iT6 := (iT4.mono q5).mono p6
   have iRow6 := (iRow.mono q5).mono p6
   obtain ⟨k6, g6⟩ := iT6
   simp! [a3, itemsOf, g6]
   refine comp_filter (β := Int) (inj := .int) (p := fun x => !row.contains x || safe.contains x) (out := .int) (xs := t1) (hg := by simp [g6]) (hl := by omega) ?_ ?_
   ·intro name hname e2 h' he' p'
    have f1 := he' "safe" (by simp)
    have f2 := he' "row" (by simp)
    simp! [a1, a6] at f1 f2
    have hm := aMem_list name (iSafe.mono p')
    have hm2 := aMem_list name (iRow6.mono p')
    cases hc1 : row.contains name <;> cases hc2 : safe.contains name <;> simp! [f1, f2, hm, hm2, hc1, hc2, Bool.not_true, Bool.not_false, Bool.false_eq_true] <;> exact ⟨rfl, he'.put (by decide), p'⟩
   ·intro h7 p7
    refine Mine.gen (leftOf (srcOf xss) t1 row) fun left eleft => ?_
    have eleft' : (t1.filter fun x => !row.contains x || safe.contains x) = left := by rw [← eleft, leftOf, ← hit]
    rw [eleft']
    have lsub : left.Sublist t1 := eleft ▸ List.filter_sublist
    have qq : H3 <+: h7 := ((q4.trans q5).trans p6).trans p7
    have tL7 := tL3.mono qq
    simp! [a4, a5]
    refine ⟨(tL7.mono (pre_app _ _)).ty, ?_⟩
    refine Mine.gen (h7 ++ [(AObj.list (left.map AV.int), 0), (AObj.list [], 0), (AObj.list [AV.ref h5.length, AV.ref (h7.length + 1), AV.ref h7.length], 0)]) fun H8 eH8 => ?_
    have q8 : h7 <+: H8 := eH8 ▸ pre_app _ _
    have b1 := qq.length_le
    have b2 := q4.length_le
    have b3 := q5.length_le
    have b4 := p5.length_le
    rw [eH8]
    have j0 : (H8.set (h0.length + 2) (AObj.junk, 0))[h7.length + 2]? = some (.list [AV.ref h5.length, AV.ref (h7.length + 1), AV.ref h7.length], 0) := by
     rw [set_ne (by omega), ← eH8]; exact at_app _ _ 2
    have j1 : IL (H8.set (h0.length + 2) (AObj.junk, 0)) h5.length outer := IL.set (((iOut.mono p6).mono p7).mono q8) (by omega)
    have j2 : IL (H8.set (h0.length + 2) (AObj.junk, 0)) (h7.length + 1) [] := IL.set ⟨0, by rw [← eH8]; exact at_app _ _ 1⟩ (by omega)
    have j3 : IL (H8.set (h0.length + 2) (AObj.junk, 0)) h7.length left := IL.set ⟨0, by rw [← eH8]; exact at_app0 _ _⟩ (by omega)
    refine aStart (d := (Rc.look outer [] left).data) (tL7.mono q8) (look_data j0 j1 j2 j3) (by simp at hds ⊢; omega) ?_
    intro H9 tL9 same9 len9 _
    simp! [id_eq]
    refine ⟨pfs, prest, left, h7.length, ds ++ [(Rc.sweep rng rs t1).data] ++ [(Rc.look outer [] left).data], rfl, iP', ?_, ?_, fun x hx => r1 x (lsub.subset hx), Nat.le_trans lsub.length_le l1, tL9, by omega, by simp at hds ⊢; omega, ?_, ?_⟩
    ·exact pre_same ((pre3.trans qq).trans q8) fun i hi => same9 i (by omega)
    ·exact IL.same ⟨0, eH8 ▸ at_app0 _ _⟩ (same9 _ (by omega))
    ·rw [← htt, dueF_cons, ern, ers, et1, erow, eouter, eleft]; simp
    ·simp! [a2, a4]
 ·rintro ⟨e, h⟩ zI1
  obtain ⟨prefs', prest, there, t', ds, hi, iP', p, iT, tr, tl, tL, htR, hds, htt, e1, e2, e3⟩ := zI1.all
  have hn : prefs' = [] := by simpa using hi.symm
  subst hn
  cases iP'
  simp! [e3]
  simp only [dueF_nil, List.map_nil, List.append_nil] at htt
  subst htt
  exact k _ _ p (by omega) (by rw [htot]; exact tL)
noncomputable def minus (xs ys : List Int) : List Int := xs.filter fun z => !ys.contains z
noncomputable def pr (p : Int × Int) : AV := .tup [.int p.1, .int p.2]
noncomputable def AL (h : AH) (A : Nat) (ar : List (Int × Int)) : Prop := ∃ k, h[A]? = some (.list (ar.map pr), k)
theorem AL.mono {h h' : AH} {A : Nat} {ar : List (Int × Int)} (i : AL h A ar) (p : h <+: h') : AL h' A ar := by
 obtain ⟨k, e⟩ := i; exact ⟨k, prefix_get p e⟩
theorem AL.lt {h : AH} {A : Nat} {ar : List (Int × Int)} (i : AL h A ar) : A < h.length := by
 obtain ⟨k, e⟩ := i; exact lt_of_get e
noncomputable def aheadOf (ar : List (Int × Int)) (found : List Int) : List Int := (ar.filter fun p => found.contains p.1).map (·.2)
noncomputable def keptN (ar : List (Int × Int)) (row : List Int) : Nat → List Int → List Int → List Int := Nat.rec (fun kept zz => kept) fun zz ih kept found => if found = [] then kept else ih (kept ++ found) (minus (minus row (minus row (aheadOf ar found))) (kept ++ found))
theorem keptN_succ (ar : List (Int × Int)) (row : List Int) (n : Nat) (kept found : List Int) : keptN ar row (n + 1) kept found = if found = [] then kept else keptN ar row n (kept ++ found) (minus (minus row (minus row (aheadOf ar found))) (kept ++ found)) := rfl
noncomputable def intoOf (ar : List (Int × Int)) (live row : List Int) : List Int := (ar.filter fun p => (live ++ [8]).contains p.1 && row.contains p.2).map (·.2)
noncomputable def withinOf (ar : List (Int × Int)) (row : List Int) : List Int := (ar.filter fun p => row.contains p.1 && row.contains p.2).map (·.2)
noncomputable def outerOf (ar : List (Int × Int)) (live row : List Int) : List Int × List Int := uldF (intoOf ar live row).reverse (withinOf ar row) []
noncomputable def keptOf (ar : List (Int × Int)) (live row : List Int) : List Int := keptN ar row (row.length + 1) [] (minus row (minus row (outerOf ar live row).1))
noncomputable def lookF (ar : List (Int × Int)) (live part : List Int) : Rc :=
 .look (sortZ (outerOf ar live (rowOf part live)).1) (outerOf ar live (rowOf part live)).2 (minus live (minus (rowOf part live) (keptOf ar live (rowOf part live))))
theorem minus_len (xs ys : List Int) : (minus xs ys).length ≤ xs.length := List.length_filter_le _ _
theorem minus_less {row kept found : List Int} (hs : ∀ x ∈ found, x ∈ row ∧ x ∉ kept) (hne : found ≠ []) : (minus row (kept ++ found)).length < (minus row kept).length := by
 obtain ⟨x, hx⟩ := List.exists_mem_of_ne_nil _ hne
 obtain ⟨h1, h2⟩ := hs x hx
 have e : minus row (kept ++ found) = (minus row kept).filter fun z => !found.contains z := by
  unfold minus
  rw [List.filter_filter]
  congr 1; funext z
  simp only [List.contains_eq_mem, List.mem_append, Bool.decide_or, Bool.not_or]
  rw [Bool.and_comm]
 rw [e]
 exact filter_len_lt (x := x) (List.mem_filter.mpr ⟨h1, by simpa using h2⟩) (by simpa using hx)
theorem keptN_fuel (ar : List (Int × Int)) (row : List Int) (n : Nat) : ∀ (m : Nat) (kept found : List Int), (∀ x ∈ found, x ∈ row ∧ x ∉ kept) → (minus row kept).length < n → (minus row kept).length < m → keptN ar row n kept found = keptN ar row m kept found := by
 induction n with
 | zero => exact fun zz zz zz zz h => absurd h (Nat.not_lt_zero _)
 | succ n ih =>
  intro m kept found hs h1 h2
  cases m with
  | zero => exact absurd h2 (Nat.not_lt_zero _)
  | succ m =>
   rw [keptN_succ, keptN_succ]
   by_cases hf : found = []
   ·rw [if_pos hf, if_pos hf]
   ·rw [if_neg hf, if_neg hf]
    have := minus_less hs hf
    refine ih m _ _ (fun x hx => ?_) (Nat.lt_of_lt_of_le this (Nat.le_of_lt_succ h1)) (Nat.lt_of_lt_of_le this (Nat.le_of_lt_succ h2))
    have h3 := List.mem_filter.mp hx
    exact ⟨(List.mem_filter.mp h3.1).1, by simpa using h3.2⟩
theorem len1 {a b c x d : Nat} (h : a ≤ b + c ∧ d ≤ x) : a ≤ b + 1 + c ∧ d ≤ x := ⟨by omega, h.2⟩
theorem uldF_len (xs : List Int) : ∀ act miss : List Int, (uldF xs act miss).1.length ≤ xs.length + miss.length ∧ (uldF xs act miss).2.length ≤ act.length := by
 induction xs with
 | nil => exact fun act miss => ⟨Nat.le_add_left _ _, Nat.le_refl _⟩
 | cons x xs ih =>
  intro act miss
  rw [uldF_cons, List.length_cons]
  split
  ·have := ih (act.erase x) miss
   exact len1 ⟨this.1, Nat.le_trans this.2 (List.length_erase_le (a := x) (l := act))⟩
  ·have := ih act (miss ++ [x])
   rw [List.length_append, List.length_singleton] at this
   exact ⟨by rw [Nat.add_right_comm]; exact this.1, this.2⟩
theorem aBin_lists {h : AH} {r q k k' : Nat} {xs ys : List AV} (e1 : h[r]? = some (.list xs, k)) (e2 : h[q]? = some (.list ys, k')) (hl : xs.length + ys.length ≤ 1000000) : aBin .add (.ref r) (.ref q) h = aNew (.list (xs ++ ys)) h := by
 show bO h[r]? _ = _
 rw [e1]
 show bO h[q]? _ = _
 rw [e2]
 exact bG_t hl _
theorem comp_arrows {frees : List String} {A k : Nat} {tst : AM Bool} {m : AM (List AV)} {Q : AV → AS → Prop} {e : List (String × AV)} {h : AH} (ar : List (Int × Int)) (p : Int × Int → Bool) (out : Int × Int → Int) (hA : h[A]? = some (.list (ar.map pr), k)) (hn : "first" ∉ frees ∧ "second" ∉ frees)
  (hs : ∀ x ∈ ar, ∀ e' h' P, EnvOn frees e e' → h <+: h' → P (if p x = true then [.int (out x)] else []) ⟨put "second" (.int x.2) (put "first" (.int x.1) e'), h'⟩ → wpA tst (kTst m P) ⟨put "second" (.int x.2) (put "first" (.int x.1) e'), h'⟩)
  (hl : ar.length ≤ 1000000) (hq : ∀ h', h <+: h' → Q (.ref h'.length) ⟨e, h' ++ [(.list (((ar.filter p).map out).map .int), 0)]⟩) : wpA (compLoop [(A, (.list (ar.map pr), k))] (tgtNames ["first", "second"]) tst m (ar.map pr)) (kCompEnd e Q) ⟨restrict frees e, h⟩ := by
 refine comp_filter (β := Int × Int) (inj := pr) (p := p) (out := fun x => .int (out x)) (xs := ar) (hg := by simp [hA]) (hl := hl) ?_ ?_
 ·intro x hx e' h' he p'
  unfold pr
  simp! [id_eq]
  refine hs x hx e' h' _ he p' ?_
  exact ⟨rfl, (he.put hn.1).put hn.2, p'⟩
 ·intro h' p'
  have := hq h' p'
  rwa [List.map_map] at this
theorem looked_run {h0 : AH} {L P A : Nat} {live part : List Int} {ar : List (Int × Int)} {K : AV → AH → Prop} (hL : IL h0 L live) (hP : IL h0 P part) (hA : AL h0 A ar) (sl : live.length ≤ 100) (sa : ar.length ≤ 50)
  (k : ∀ h' r A1 B1 C1, h0 <+: h' → h0.length ≤ r → h0.length ≤ A1 → h0.length ≤ B1 → h0.length ≤ C1 → h'[r]? = some (.list [.ref A1, .ref B1, .ref C1], 0) → IL h' A1 (sortZ (outerOf ar live (rowOf part live)).1) → IL h' B1 (outerOf ar live (rowOf part live)).2 →
   IL h' C1 (minus live (minus (rowOf part live) (keptOf ar live (rowOf part live)))) → K (.ref r) h') : wpH (aLooked [.ref L, .ref P, .ref A]) K h0 := by
 refine wp_def (bs := [("live", .ref L), ("part", .ref P), ("arrows", .ref A)]) rfl ?_
 unfold looked.prog
 obtain ⟨kL, gL⟩ := hL
 have lL := lt_of_get gL
 have hsum : live.length + 1 ≤ 1000000 := by omega
 have b1 : aBin .add (.ref L) (.ref h0.length) (h0 ++ [(AObj.list [AV.int 8], 0)]) = aNew (.list (live.map .int ++ [.int 8])) (h0 ++ [(AObj.list [AV.int 8], 0)]) := aBin_lists (by rw [app_old lL]; exact gL) (at_app0 _ _) (by simpa using hsum)
 simp! [b1, app_old lL, gL, itemsOf]
 refine Mine.gen (h0 ++ [(AObj.list [AV.int 8], 0), (AObj.list (live.map AV.int ++ [AV.int 8]), 0)]) fun Ha eHa => ?_
 have pa : h0 <+: Ha := eHa ▸ pre_app _ _
 have la := pa.length_le
 have iNear : IL Ha (h0.length + 1) (live ++ [8]) := ⟨0, by rw [← eHa, at_app]; simp⟩
 rw [eHa]
 refine comp_filter (β := Int) (inj := .int) (p := fun x => part.contains x) (out := .int) (xs := live) (hg := by simp [prefix_get pa gL]) (hl := by omega) ?_ ?_
 ·intro name hname e' h' he' p'
  have f1 := he' "part" (by simp)
  simp! [id_eq] at f1
  have hm := aMem_list name (hP.mono (pa.trans p'))
  simp! [f1, hm]
  cases hc : part.contains name <;> simp! [Bool.false_eq_true] <;> exact ⟨rfl, he'.put (by decide), p'⟩
 intro h1 p1
 refine Mine.gen (rowOf part live) fun row erow => ?_
 have erow' : (live.filter fun x => part.contains x) = row := erow
 rw [erow']
 rw [erow] at k
 have rsub : row.Sublist live := erow ▸ List.filter_sublist
 have lrow : row.length ≤ 100 := Nat.le_trans rsub.length_le sl
 refine Mine.gen (h1 ++ [(AObj.list (row.map AV.int), 0)]) fun H1 eH1 => ?_
 have q1 : Ha <+: H1 := eH1 ▸ pre_app' p1 _
 have iRow : IL H1 h1.length row := ⟨0, eH1 ▸ at_app0 _ _⟩
 obtain ⟨kA, gA⟩ := hA.mono (pa.trans q1)
 have hL' : IL H1 L live := IL.mono ⟨kL, gL⟩ (pa.trans q1)
 have lp1 := p1.length_le
 have lq1 := q1.length_le
 rw [eH1]
 simp! [itemsOf, gA]
 refine comp_arrows ar (fun p => (live ++ [8]).contains p.1 && row.contains p.2) (·.2) gA (by decide) ?_ (by omega) ?_
 ·intro x hx e' h' P' he' p' hP'
  have f1 := he' "near" (by simp)
  have f2 := he' "row" (by simp)
  simp! [id_eq] at f1 f2
  have hm1 := aMem_list x.1 ((iNear.mono q1).mono p')
  have hm2 := aMem_list x.2 (iRow.mono p')
  cases hc1 : (live ++ [8]).contains x.1 <;> cases hc2 : row.contains x.2 <;> simp only [hc1, hc2, Bool.and_true, Bool.and_false, Bool.false_eq_true, reduceIte] at hP' <;> simp! [f1, f2, hm1, hm2, hc1, hc2, Bool.false_eq_true] <;> exact hP'
 intro h2 p2
 refine Mine.gen (intoOf ar live row) fun into einto => ?_
 have einto' : (ar.filter fun p => (live ++ [8]).contains p.1 && row.contains p.2).map (·.2) = into := einto
 rw [einto']
 refine Mine.gen (h2 ++ [(AObj.list (into.map AV.int), 0)]) fun H2 eH2 => ?_
 have q2 : H1 <+: H2 := eH2 ▸ pre_app' p2 _
 have iInto : IL H2 h2.length into := ⟨0, eH2 ▸ at_app0 _ _⟩
 have lp2 := p2.length_le
 have lq2 := q2.length_le
 rw [eH2]
 have gA2 := prefix_get q2 gA
 simp! [itemsOf, gA2]
 refine comp_arrows ar (fun p => row.contains p.1 && row.contains p.2) (·.2) gA2 (by decide) ?_ (by omega) ?_
 ·intro x hx e' h' P' he' p' hP'
  have f2 := he' "row" (by simp)
  simp! [id_eq] at f2
  have hm1 := aMem_list x.1 ((iRow.mono q2).mono p')
  have hm2 := aMem_list x.2 ((iRow.mono q2).mono p')
  cases hc1 : row.contains x.1 <;> cases hc2 : row.contains x.2 <;> simp only [hc1, hc2, Bool.and_true, Bool.and_false, Bool.false_eq_true, reduceIte] at hP' <;> simp! [f2, hm1, hm2, hc1, hc2, Bool.false_eq_true] <;> exact hP'
 intro h3 p3
 refine Mine.gen (withinOf ar row) fun within ewithin => ?_
 have ewithin' : (ar.filter fun p => row.contains p.1 && row.contains p.2).map (·.2) = within := ewithin
 rw [ewithin']
 refine Mine.gen (h3 ++ [(AObj.list (within.map AV.int), 0)]) fun H3 eH3 => ?_
 have q3 : H2 <+: H3 := eH3 ▸ pre_app' p3 _
 have iWithin : IL H3 h3.length within := ⟨0, eH3 ▸ at_app0 _ _⟩
 have lp3 := p3.length_le
 have lq3 := q3.length_le
 have linto : into.length ≤ 50 := by rw [← einto, intoOf, List.length_map]; exact Nat.le_trans (List.length_filter_le _ _) sa
 have lwithin : within.length ≤ 50 := by rw [← ewithin, withinOf, List.length_map]; exact Nat.le_trans (List.length_filter_le _ _) sa
 rw [eH3]
 simp! [id_eq]
 have lint : h2.length < H2.length := iInto.lt
 refine uld_run (iInto.mono q3) iWithin (by omega) (by omega) (by omega) ?_
 intro h4 M lM lh4 keep4 iOuter iOther
 refine Mine.gen (outerOf ar live row) fun oo eoo => ?_
 have eoo' : uldF into.reverse within [] = oo := by rw [← eoo, outerOf, einto, ewithin]
 rw [eoo'] at iOuter iOther
 have louter : oo.1.length ≤ 50 := by
  have := (uldF_len into.reverse within []).1
  rw [eoo', List.length_reverse] at this; simp at this; omega
 have pp : H1 <+: h4 := pre_same (q2.trans q3) fun i hi => keep4 i (by omega) (by omega) (by omega)
 have iRow4 := iRow.mono pp
 simp! [id_eq]
 refine filter_run (xs := row) (.inr ⟨_, rfl, iRow4.mono (pre_app _ _)⟩) (iOuter.mono (pre_app _ _)) (by omega) ?_
 intro F1 h5 p5 lF1 iF1
 simp! [id_eq]
 refine filter_run (xs := row) (.inr ⟨_, rfl, (iRow4.mono (pre_app _ _)).mono p5⟩) iF1 (by omega) ?_
 intro F2 h6 p6 lF2 iF2
 simp! [id_eq]
 have p46 : h4 <+: h6 := ((pre_app _ _).trans p5).trans p6
 have l46 := p46.length_le
 have iK6 : IL h6 h4.length [] := ((IL.mono (h := h4 ++ [(AObj.list [], 0)]) ⟨0, at_app0 _ _⟩ p5).mono p6)
 have efo : minus row (minus row oo.1) = row.filter (fun z => !(row.filter (fun z => !oo.1.contains z)).contains z) := rfl
 rw [← efo] at iF2
 refine Mine.gen (keptOf ar live row) fun tot etot => ?_
 have etot' : keptN ar row (row.length + 1) [] (minus row (minus row oo.1)) = tot := by rw [← etot, keptOf, eoo]
 rw [etot, eoo] at k
 have m0 : minus row [] = row := by unfold minus; simp
 refine wp_while (fun n st => ∃ kept found kr fr, n = (minus row kept).length ∧ (∀ x ∈ found, x ∈ row ∧ x ∉ kept) ∧ kept.length + 100 * (minus row kept).length ≤ 10000 ∧ found.length ≤ 100 ∧ h6 <+: st.hp ∧ IL st.hp kr kept ∧ IL st.hp fr found ∧ keptN ar row ((minus row kept).length + 1) kept found = tot ∧
  st.env.lookup "live" = some (.ref L) ∧ st.env.lookup "arrows" = some (.ref A) ∧ st.env.lookup "row" = some (.ref h1.length) ∧ st.env.lookup "outer" = some (.ref M) ∧ st.env.lookup "other" = some (.ref h3.length) ∧ st.env.lookup "kept" = some (.ref kr) ∧ st.env.lookup "found" = some (.ref fr)) ?_ row.length _ ?_
 rotate_left
 ·refine ⟨[], minus row (minus row oo.1), h4.length, F2, by rw [m0], fun x hx => ⟨(List.mem_filter.mp hx).1, by simp⟩, by rw [m0]; simp; omega, Nat.le_trans (minus_len _ _) lrow, List.prefix_refl _, iK6, iF2, by rw [m0]; exact etot', ?_⟩
  simp! [id_eq]
 rintro n ⟨e, h⟩ zI2
 obtain ⟨kept, found, kr, fr, rfl, hsub, hkl, hfl, p7, iK, iF, hN, a1, a2, a3, a4, a5, a6, a7⟩ := zI2
 simp only at p7 iK iF a1 a2 a3 a4 a5 a6 a7
 have hH1 : H1 <+: h := (pp.trans p46).trans p7
 simp! [a7, aNe_int0 h _ iF]
 by_cases hf : found = []
 ·simp! [hf, decide_true, Bool.not_true]
  refine Mine.gen (h ++ [(AObj.list [], 0)]) fun Hb eHb => ?_
  have qb : h <+: Hb := eHb ▸ pre_app _ _
  have hk : kept = tot := by rw [← hN, keptN_succ, if_pos hf]
  subst hk
  have iM : IL Hb M oo.1 := ((iOuter.mono p46).mono p7).mono qb
  obtain ⟨kM, gM⟩ := iM
  have hs64 : oo.1.length < 64 := by omega
  rw [eHb]
  simp! [a4, aSorted, gM, avInts_map, hs64, a5, a1, a3, a6]
  have lb : h.length ≤ Hb.length := qb.length_le
  have l7 := p7.length_le
  refine filter_run (xs := row) (.inr ⟨_, rfl, ((iRow.mono hH1).mono qb).mono (pre_app _ _)⟩) ((iK.mono qb).mono (pre_app _ _)) (by omega) ?_
  intro G1 g1 pg1 lG1 iG1
  simp! [id_eq]
  refine filter_run (xs := live) (.inr ⟨_, rfl, (((hL'.mono hH1).mono qb).mono (pre_app _ _)).mono pg1⟩) iG1 (by omega) ?_
  intro G2 g2 pg2 lG2 iG2
  simp! [id_eq]
  have lg : Hb.length < g1.length := by have := pg1.length_le; simp at this; omega
  have lg2 := pg2.length_le
  have pAll : Hb <+: g2 ++ [(AObj.list [AV.ref Hb.length, AV.ref h3.length, AV.ref G2], 0)] := (((pre_app _ _).trans pg1).trans pg2).trans (pre_app _ _)
  have lHb : Hb.length < Hb.length + 1 := by omega
  have iS0 : IL (Hb ++ [(AObj.list ((sortZ oo.1).map AV.int), 0)]) Hb.length (sortZ oo.1) := ⟨0, at_app0 _ _⟩
  refine k _ g2.length Hb.length h3.length G2 ?_ (by omega) (by omega) (by omega) ?_ (at_app0 _ _) (((iS0.mono pg1).mono pg2).mono (pre_app _ _)) ((((iOther.mono p46).mono p7).mono qb).mono pAll) (iG2.mono (pre_app _ _))
  ·exact ((((pa.trans q1).trans hH1).trans qb)).trans pAll
  ·simp at lG1 lG2; omega
 ·simp! [hf, decide_false, Bool.not_false]
  obtain ⟨kk, gK⟩ := iK
  obtain ⟨kf, gF⟩ := iF
  have lfr := lt_of_get gF
  have lkr := lt_of_get gK
  have hmin := minus_less hsub hf
  have b2 : aBin .add (.ref kr) (.ref fr) (h ++ [(AObj.list [], 0)]) = aNew (.list (kept.map .int ++ found.map .int)) (h ++ [(AObj.list [], 0)]) := aBin_lists (by rw [app_old lkr]; exact gK) (by rw [app_old lfr]; exact gF) (by simp only [List.length_map]; omega)
  rw [← List.map_append] at b2
  simp! [a6, a7, b2, a2]
  refine Mine.gen (h ++ [(AObj.list [], 0), (AObj.list ((kept ++ found).map AV.int), 0)]) fun Hb eHb => ?_
  have qb : h <+: Hb := eHb ▸ pre_app _ _
  have iKb : IL Hb (h.length + 1) (kept ++ found) := ⟨0, eHb ▸ at_app _ _ 1⟩
  have iFb : IL Hb fr found := IL.mono ⟨kf, gF⟩ qb
  have gAb := prefix_get (hH1.trans qb) gA
  rw [eHb]
  simp! [itemsOf, gAb]
  refine comp_arrows ar (fun p => found.contains p.1) (·.2) gAb (by decide) ?_ (by omega) ?_
  ·intro x hx e' h' P' he' p' hP'
   have f2 := he' "found" (by simp)
   simp! [a7] at f2
   have hm1 := aMem_list x.1 (iFb.mono p')
   cases hc1 : found.contains x.1 <;> simp only [hc1, Bool.false_eq_true, reduceIte] at hP' <;> simp! [f2, hm1, hc1, Bool.false_eq_true] <;> exact hP'
  intro g0 pg0
  refine Mine.gen (aheadOf ar found) fun ah eah => ?_
  have eah' : (ar.filter fun p => found.contains p.1).map (·.2) = ah := eah
  rw [eah']
  refine Mine.gen (g0 ++ [(AObj.list (ah.map AV.int), 0)]) fun G0 eG0 => ?_
  have qg0 : Hb <+: G0 := eG0 ▸ pre_app' pg0 _
  have iAh : IL G0 g0.length ah := ⟨0, eG0 ▸ at_app0 _ _⟩
  have iRow0 := ((iRow.mono hH1).mono qb).mono qg0
  rw [eG0]
  simp! [a3]
  refine filter_run (xs := row) (.inr ⟨_, rfl, iRow0⟩) iAh (by omega) ?_
  intro G1 g1 pg1 lG1 iG1
  simp! [id_eq]
  refine filter_run (xs := row) (.inr ⟨_, rfl, iRow0.mono pg1⟩) iG1 (by omega) ?_
  intro G2 g2 pg2 lG2 iG2
  simp! [id_eq]
  refine filter_run (.inr ⟨_, rfl, iG2⟩) (((iKb.mono qg0).mono pg1).mono pg2) (by have := List.length_filter_le (fun z => !(row.filter (fun z => !ah.contains z)).contains z) row; omega) ?_
  intro G3 g3 pg3 lG3 iG3
  simp! [id_eq]
  have efn : minus (minus row (minus row ah)) (kept ++ found) = ((row.filter (fun z => !(row.filter (fun z => !ah.contains z)).contains z)).filter (fun z => !(kept ++ found).contains z)) := rfl
  rw [← efn] at iG3
  have hsub' : ∀ x ∈ minus (minus row (minus row ah)) (kept ++ found), x ∈ row ∧ x ∉ kept ++ found := fun x hx => by
   have h3 := List.mem_filter.mp hx
   exact ⟨(List.mem_filter.mp h3.1).1, by simpa using h3.2⟩
  refine ⟨(minus row (kept ++ found)).length, hmin, kept ++ found, _, h.length + 1, G3, rfl, hsub', ?_, ?_, ?_, ((((iKb.mono qg0).mono pg1).mono pg2).mono pg3), iG3, ?_, ?_⟩
  ·rw [List.length_append]; omega
  ·have := minus_len (minus row (minus row ah)) (kept ++ found)
   have := minus_len row (minus row ah)
   omega
  ·exact p7.trans ((((qb.trans qg0).trans pg1).trans pg2).trans pg3)
  ·rw [← hN, show keptN ar row ((minus row kept).length + 1) kept found = keptN ar row (minus row kept).length (kept ++ found) (minus (minus row (minus row ah)) (kept ++ found)) from by rw [keptN_succ, if_neg hf, eah]]
   exact keptN_fuel ar row _ _ _ _ hsub' (by omega) (by omega)
  ·simp! [a1, a2, a3, a4, a5]
noncomputable def upd {α : Type} (f : Int → α) (v : Int) (x : α) : Int → α := fun w => if w = v then x else f w
theorem upd_eq {α : Type} (f : Int → α) (v : Int) (x : α) : upd f v x v = x := if_pos rfl
theorem upd_ne {α : Type} (f : Int → α) {v w : Int} (x : α) (h : w ≠ v) : upd f v x w = f w := if_neg h
structure SoC (h : AH) (lo s a D : Nat) (rv : AV) (pa fi : Int) (ks : List Int) (ni sr dd : Int → Nat) (np : Int → Int) (su : Int → List Int) : Prop where
 cls : ∃ k, h[s]? = some (.inst "TopologicalSorter" a, k)
 att : ∃ k, h[a]? = some (.attrs [("_node2info", .ref D), ("_ready_nodes", rv), ("_npassedout", .int pa), ("_nfinished", .int fi)], k)
 dct : ∃ k, h[D]? = some (.dict (ks.map fun k => (k, .ref (ni k))), k)
 inf : ∀ v ∈ ks, ∃ k, h[ni v]? = some (.sinst "_NodeInfo" (dd v) [some (.int v), some (.int (np v)), some (.ref (sr v))], k)
 suc : ∀ v ∈ ks, IL h (sr v) (su v)
 low : lo ≤ s ∧ lo ≤ a ∧ lo ≤ D ∧ ∀ v ∈ ks, lo ≤ ni v ∧ lo ≤ sr v
 inj : ∀ u ∈ ks, ∀ v ∈ ks, sr u = sr v → u = v
 nd : ks.Nodup
 sml : ks.length ≤ 1000
theorem vat_map (ni : Int → Nat) (v : Int) : ∀ ks : List Int, vat (ks.map fun k => (k, AV.ref (ni k))) v = if v ∈ ks then some (.ref (ni v)) else none
 | [] => rfl
 | k :: ks => by
  have ih := vat_map ni v ks
  unfold vat at ih ⊢
  rw [List.map_cons, List.find?_cons]
  by_cases h : k = v
  ·subst h; simp
  ·have h' : v ≠ k := fun e => h e.symm
   simp only [h, decide_false, ih, List.mem_cons, h', false_or]
theorem vset_map (ni : Int → Nat) (v : Int) (x : AV) (ks : List Int) (hv : v ∉ ks) : vset (ks.map fun k => (k, AV.ref (ni k))) v x = ks.map (fun k => (k, AV.ref (ni k))) ++ [(v, x)] := by
 unfold vset
 rw [if_neg]
 simp only [List.any_map, List.any_eq_true, Function.comp, decide_eq_true_eq, not_exists, not_and]
 intro k hk e; exact hv (e ▸ hk)
theorem aIdx_dict {h : AH} {D k : Nat} {ni : Int → Nat} {ks : List Int} {v : Int} (e : h[D]? = some (.dict (ks.map fun k => (k, .ref (ni k))), k)) (hv : v ∈ ks) : aIdx (.ref D) (.int v) h = some (.ref (ni v)) := by
 exact aIdx_key e (by rw [vat_map, if_pos hv])
theorem ix_n2i : ixOf "TopologicalSorter" "_node2info" = some none := by decide
theorem ix_rn : ixOf "TopologicalSorter" "_ready_nodes" = some none := by decide
theorem ix_po : ixOf "TopologicalSorter" "_npassedout" = some none := by decide
theorem ix_nf : ixOf "TopologicalSorter" "_nfinished" = some none := by decide
theorem ix_node : ixOf "_NodeInfo" "node" = some (some 0) := by decide
theorem ix_np : ixOf "_NodeInfo" "npredecessors" = some (some 1) := by decide
theorem ix_su : ixOf "_NodeInfo" "successors" = some (some 2) := by decide
section
variable {h : AH} {lo s a D : Nat} {rv : AV} {pa fi : Int} {ks : List Int} {ni sr dd : Int → Nat} {np : Int → Int} {su : Int → List Int}
theorem SoC.own (S : SoC h lo s a D rv pa fi ks ni sr dd np su) {n : String} (h1 : n ≠ "_node2info") (h2 : n ≠ "_ready_nodes") (h3 : n ≠ "_npassedout") (h4 : n ≠ "_nfinished") : ownM "TopologicalSorter" n (.ref s) h = some () := by
 obtain ⟨k, e⟩ := S.cls
 obtain ⟨k', e'⟩ := S.att
 have b1 : (n == "_node2info") = false := by simpa using h1
 have b2 : (n == "_ready_nodes") = false := by simpa using h2
 have b3 : (n == "_npassedout") = false := by simpa using h3
 have b4 : (n == "_nfinished") = false := by simpa using h4
 simp! [ownM, e, e', if_true, List.lookup, b1, b2, b3, b4, Option.isNone_none]
theorem SoC.a_n2i (S : SoC h lo s a D rv pa fi ks ni sr dd np su) : aAttr ixOf "_node2info" (.ref s) h = some (.ref D) := by
 obtain ⟨k, e⟩ := S.cls
 obtain ⟨k', e'⟩ := S.att
 simp! [aAttr, e, e', ix_n2i]
theorem SoC.a_rn (S : SoC h lo s a D rv pa fi ks ni sr dd np su) (hr : rv = .none ∨ ∃ r, rv = .ref r) : aAttr ixOf "_ready_nodes" (.ref s) h = some rv := by
 obtain ⟨k, e⟩ := S.cls
 obtain ⟨k', e'⟩ := S.att
 rcases hr with rfl | ⟨r, rfl⟩ <;> simp! [aAttr, e, e', ix_rn]
theorem SoC.a_po (S : SoC h lo s a D rv pa fi ks ni sr dd np su) : aAttr ixOf "_npassedout" (.ref s) h = some (.int pa) := by
 obtain ⟨k, e⟩ := S.cls
 obtain ⟨k', e'⟩ := S.att
 simp! [aAttr, e, e', ix_po]
theorem SoC.a_nf (S : SoC h lo s a D rv pa fi ks ni sr dd np su) : aAttr ixOf "_nfinished" (.ref s) h = some (.int fi) := by
 obtain ⟨k, e⟩ := S.cls
 obtain ⟨k', e'⟩ := S.att
 simp! [aAttr, e, e', ix_nf]
theorem SoC.n_node (S : SoC h lo s a D rv pa fi ks ni sr dd np su) {v : Int} (hv : v ∈ ks) : aAttr ixOf "node" (.ref (ni v)) h = some (.int v) := by
 obtain ⟨k, e⟩ := S.inf v hv
 simp! [aAttr, e, ix_node]
theorem SoC.n_np (S : SoC h lo s a D rv pa fi ks ni sr dd np su) {v : Int} (hv : v ∈ ks) : aAttr ixOf "npredecessors" (.ref (ni v)) h = some (.int (np v)) := by
 obtain ⟨k, e⟩ := S.inf v hv
 simp! [aAttr, e, ix_np]
theorem SoC.n_su (S : SoC h lo s a D rv pa fi ks ni sr dd np su) {v : Int} (hv : v ∈ ks) : aAttr ixOf "successors" (.ref (ni v)) h = some (.ref (sr v)) := by
 obtain ⟨k, e⟩ := S.inf v hv
 simp! [aAttr, e, ix_su]
theorem ne_of_get {h : AH} {i j : Nat} {x y : AObj × Nat} (h1 : h[i]? = some x) (h2 : h[j]? = some y) (hn : x ≠ y) : i ≠ j := fun e => hn (by subst e; rw [h1] at h2; exact Option.some.inj h2)
noncomputable def KeepL (R : Nat) (h h' : AH) : Prop := (∀ x o k, h[x]? = some (.list o, k) → x ≠ R → h'[x]? = some (.list o, k)) ∧ h.length ≤ h'.length
theorem KeepL.refl (R : Nat) (h : AH) : KeepL R h h := ⟨fun zz zz zz e zz => e, Nat.le_refl _⟩
theorem KeepL.trans {R : Nat} {h h' h'' : AH} (a : KeepL R h h') (b : KeepL R h' h'') : KeepL R h h'' := ⟨fun x o k e hn => b.1 _ _ _ (a.1 _ _ _ e hn) hn, Nat.le_trans a.2 b.2⟩
theorem SoC.set_np (S : SoC h lo s a D rv pa fi ks ni sr dd np su) {v : Int} (hv : v ∈ ks) (x : Int) : ∃ h', aSetAttr ixOf "npredecessors" (.ref (ni v)) (.int x) h = some ((), h') ∧ SoC h' lo s a D rv pa fi ks ni sr dd (upd np v x) su ∧ (∀ i, i ≠ ni v → h'[i]? = h[i]?) ∧ h'.length = h.length ∧ (∀ R, KeepL R h h') := by
 obtain ⟨k, e⟩ := S.inf v hv
 have hs : sput [some (.int v), some (.int (np v)), some (.ref (sr v))] 1 (.int x) = [some (.int v), some (.int x), some (.ref (sr v))] := rfl
 refine ⟨h.set (ni v) (.sinst "_NodeInfo" (dd v) [some (.int v), some (.int x), some (.ref (sr v))], k + 1), by simp! [aSetAttr, e, ix_np, hs], ?_, fun i hi => set_ne (Ne.symm hi), List.length_set, fun R => ⟨fun i o k' e' hn => ?_, by rw [List.length_set]; exact Nat.le_refl _⟩⟩
 ·obtain ⟨k1, e1⟩ := S.cls
  obtain ⟨k2, e2⟩ := S.att
  obtain ⟨k3, e3⟩ := S.dct
  refine ⟨⟨k1, ?_⟩, ⟨k2, ?_⟩, ⟨k3, ?_⟩, fun u hu => ?_, fun u hu => ?_, S.low, S.inj, S.nd, S.sml⟩
  ·rw [set_ne (ne_of_get e e1 (by simp))]; exact e1
  ·rw [set_ne (ne_of_get e e2 (by simp))]; exact e2
  ·rw [set_ne (ne_of_get e e3 (by simp))]; exact e3
  ·by_cases huv : u = v
   ·subst huv
    exact ⟨k + 1, by rw [set_eq (lt_of_get e), upd_eq]⟩
   ·obtain ⟨k4, e4⟩ := S.inf u hu
    refine ⟨k4, ?_⟩
    rw [set_ne (ne_of_get e e4 (fun h => by simp only [Prod.mk.injEq, AObj.sinst.injEq, List.cons.injEq, Option.some.injEq, AV.int.injEq, true_and] at h; exact huv h.1.2.1.symm)), upd_ne _ _ huv]; exact e4
  ·obtain ⟨k5, e5⟩ := S.suc u hu
   exact ⟨k5, by rw [set_ne (ne_of_get e e5 (by simp))]; exact e5⟩
 ·rw [set_ne (ne_of_get e e' (by simp))]; exact e'
noncomputable def addK (ks : List Int) (v : Int) : List Int := if v ∈ ks then ks else ks ++ [v]
theorem mem_addK {ks : List Int} {v x : Int} : x ∈ addK ks v ↔ x ∈ ks ∨ x = v := by
 unfold addK; split
 ·rename_i h; exact ⟨.inl, fun | .inl a => a | .inr a => a ▸ h⟩
 ·simp
theorem niInit_run {h : AH} {f d k : Nat} {v : Int} {K : AV → AH → Prop} (e : h[f]? = some (.sinst "_NodeInfo" d [], k)) (kk : K .none ((h ++ [(AObj.list [], 0)]).set f (.sinst "_NodeInfo" d [some (.int v), some (.int 0), some (.ref h.length)], k + 3))) : wpH (aNiInit [.ref f, .int v]) K h := by
 refine wp_def (bs := [("self", .ref f), ("node", .int v)]) rfl ?_
 unfold niInit.prog
 have s1 : sput [] 0 (.int v) = [some (.int v)] := rfl
 have s2 : sput [some (.int v)] 1 (.int 0) = [some (.int v), some (.int 0)] := rfl
 have s3 : sput [some (.int v), some (.int 0)] 2 (.ref h.length) = [some (.int v), some (.int 0), some (.ref h.length)] := rfl
 have hf := lt_of_get e
 have e1 := fun x => set_eq (x := x) hf
 refine Mine.gen (h.set f (.sinst "_NodeInfo" d [some (.int v)], k + 1)) fun h1 eh1 => ?_
 have g1 : h1[f]? = some (.sinst "_NodeInfo" d [some (.int v)], k + 1) := eh1 ▸ set_eq hf
 have l1 : h1.length = h.length := eh1 ▸ List.length_set
 refine Mine.gen (h1.set f (.sinst "_NodeInfo" d [some (.int v), some (.int 0)], k + 2)) fun h2 eh2 => ?_
 have g2 : h2[f]? = some (.sinst "_NodeInfo" d [some (.int v), some (.int 0)], k + 2) := eh2 ▸ set_eq (by omega)
 have l2 : h2.length = h.length := by rw [← eh2, List.length_set, l1]
 have g3 : (h2 ++ [(AObj.list [], 0)])[f]? = some (.sinst "_NodeInfo" d [some (.int v), some (.int 0)], k + 2) := by rw [app_old (by omega)]; exact g2
 have fin : (h2 ++ [(AObj.list [], 0)]).set f (.sinst "_NodeInfo" d [some (.int v), some (.int 0), some (.ref h.length)], k + 3) = (h ++ [(AObj.list [], 0)]).set f (.sinst "_NodeInfo" d [some (.int v), some (.int 0), some (.ref h.length)], k + 3) := by
  rw [← eh2, ← eh1, List.set_set, List.set_append_left _ _ (by rw [List.length_set]; exact hf), List.set_append_left _ _ hf, List.set_set]
 simp! [aSetAttr, e, ix_node, ix_np, ix_su, s1, s2, s3, eh1, g1, eh2, g2, l2, g3, fin]
 exact kk
theorem gni_run (S : SoC h lo s a D rv pa fi ks ni sr dd np su) {v : Int} {K : AV → AH → Prop} (hlo : lo ≤ h.length) (hv : v ∈ ks ∨ (np v = 0 ∧ su v = [])) (hsm : ks.length < 1000)
  (k : ∀ h' ni' sr' dd', SoC h' lo s a D rv pa fi (addK ks v) ni' sr' dd' np su → h.length ≤ h'.length → (∀ i, i < h.length → i ≠ D → h'[i]? = h[i]?) → K (.ref (ni' v)) h') : wpH (aGni [.ref s, .int v]) K h := by
 refine wp_def (bs := [("self", .ref s), ("node", .int v)]) rfl ?_
 unfold gni.prog
 obtain ⟨kD, eD⟩ := S.dct
 have hn := S.a_n2i
 by_cases hm : v ∈ ks
 ·have ek : addK ks v = ks := if_pos hm
  have hg : aGet [.ref D, .int v] h = some (.ref (ni v), h) := (aGet_at eD).trans (by rw [vat_map, if_pos hm]; rfl)
  simp! [hn, tyOf, eD, hg]
  exact k h ni sr dd (by rw [ek]; exact S) (Nat.le_refl _) fun zz zz zz => rfl
 ·have ek : addK ks v = ks ++ [v] := if_neg hm
  have hg : aGet [.ref D, .int v] h = some (.none, h) := (aGet_at eD).trans (by rw [vat_map, if_neg hm]; rfl)
  simp! [hn, tyOf, eD, hg]
  unfold aNodeInfo
  simp! [id_eq]
  obtain ⟨hnp, hsu⟩ := hv.resolve_left hm
  have lD := lt_of_get eD
  refine niInit_run (d := h.length) (k := 0) ?_ ?_
  ·rw [at_app]; rfl
  simp! [id_eq]
  refine Mine.gen (h ++ [(AObj.attrs [], 0), (AObj.sinst "_NodeInfo" h.length [some (.int v), some (.int 0), some (.ref (h.length + 2))], 3), (AObj.list [], 0)]) fun H eH => ?_
  have pH : h <+: H := eH ▸ pre_app _ _
  have eDH := prefix_get pH eD
  have kl : (ks.map fun k => (k, AV.ref (ni k))).length ≤ 1000000 := by rw [List.length_map]; omega
  obtain ⟨k1, e1⟩ := S.cls
  obtain ⟨k2, e2⟩ := S.att
  have hn2 : aAttr ixOf "_node2info" (.ref s) H = some (.ref D) := by
   have e1' := prefix_get pH e1
   have e2' := prefix_get pH e2
   simp! [aAttr, e1', e2', ix_n2i]
  have kl' : ks.length ≤ 1000000 := by omega
  simp! [eH, hn2, aSetItem, eDH, kl', vset_map ni v _ ks hm]
  refine Mine.gen (H.set D (AObj.dict (ks.map (fun k => (k, AV.ref (ni k))) ++ [(v, .ref (h.length + 1))]), kD + 1)) fun H2 eH2 => ?_
  rw [eH2]
  have same : ∀ i, i ≠ D → H2[i]? = H[i]? := fun i hi => eH2 ▸ set_ne (Ne.symm hi)
  have gN : H[h.length + 1]? = some (.sinst "_NodeInfo" h.length [some (.int v), some (.int 0), some (.ref (h.length + 2))], 3) := eH ▸ at_app _ _ 1
  have gL : H[h.length + 2]? = some (.list [], 0) := eH ▸ at_app _ _ 2
  have hmv : ∀ u ∈ ks, u ≠ v := fun u hu e => hm (e ▸ hu)
  have hS : SoC H2 lo s a D rv pa fi (addK ks v) (upd ni v (h.length + 1)) (upd sr v (h.length + 2)) (upd dd v h.length) np su := by
   rw [ek]
   refine ⟨⟨k1, ?_⟩, ⟨k2, ?_⟩, ⟨kD + 1, ?_⟩, fun u hu => ?_, fun u hu => ?_, ⟨S.low.1, S.low.2.1, S.low.2.2.1, fun u hu => ?_⟩, fun x hx y hy hxy => ?_, ?_, by simp; omega⟩
   ·rw [same _ (ne_of_get e1 eD (by simp))]; exact prefix_get pH e1
   ·rw [same _ (ne_of_get e2 eD (by simp))]; exact prefix_get pH e2
   ·rw [← eH2, set_eq (by have := pH.length_le; omega), List.map_append]
    congr 3
    ·have : ks.map (fun k => (k, AV.ref (upd ni v (h.length + 1) k))) = ks.map (fun k => (k, AV.ref (ni k))) := List.map_congr_left fun u hu => by rw [upd_ne _ _ (hmv u hu)]
     rw [this]
     simp only [List.map_cons, List.map_nil, upd_eq]
   ·rcases List.mem_append.mp hu with hu | hu
    ·obtain ⟨k3, e3⟩ := S.inf u hu
     rw [upd_ne _ _ (hmv u hu), upd_ne _ _ (hmv u hu), upd_ne _ _ (hmv u hu)]
     exact ⟨k3, by rw [same _ (ne_of_get e3 eD (by simp))]; exact prefix_get pH e3⟩
    ·rw [List.mem_singleton.mp hu, upd_eq, upd_eq, upd_eq, hnp]
     exact ⟨3, by rw [same _ (by omega)]; exact gN⟩
   ·rcases List.mem_append.mp hu with hu | hu
    ·obtain ⟨k3, e3⟩ := S.suc u hu
     rw [upd_ne _ _ (hmv u hu)]
     exact ⟨k3, by rw [same _ (ne_of_get e3 eD (by simp))]; exact prefix_get pH e3⟩
    ·rw [List.mem_singleton.mp hu, upd_eq, hsu]
     exact ⟨0, by rw [same _ (by omega)]; exact gL⟩
   ·rcases List.mem_append.mp hu with hu | hu
    ·rw [upd_ne _ _ (hmv u hu), upd_ne _ _ (hmv u hu)]; exact S.low.2.2.2 u hu
    ·rw [List.mem_singleton.mp hu, upd_eq, upd_eq]; omega
   ·have old : ∀ u ∈ ks, sr u < h.length := fun u hu => (S.suc u hu).lt
    rcases List.mem_append.mp hx with hx | hx <;> rcases List.mem_append.mp hy with hy | hy
    ·rw [upd_ne _ _ (hmv x hx), upd_ne _ _ (hmv y hy)] at hxy; exact S.inj x hx y hy hxy
    ·rw [List.mem_singleton.mp hy, upd_eq, upd_ne _ _ (hmv x hx)] at hxy; have := old x hx; omega
    ·rw [List.mem_singleton.mp hx, upd_eq, upd_ne _ _ (hmv y hy)] at hxy; have := old y hy; omega
    ·rw [List.mem_singleton.mp hx, List.mem_singleton.mp hy]
   ·exact List.nodup_append.mpr ⟨S.nd, by simp, fun x hx y hy e => by rw [List.mem_singleton.mp hy] at e; exact hm (e ▸ hx)⟩
  have := k H2 _ _ _ hS (by rw [← eH2, List.length_set]; exact pH.length_le) fun i hi hD => by rw [same i hD, ← eH, app_old hi]
  rwa [upd_eq] at this
end
structure Gr where
 ks : List Int
 np : Int → Int
 su : Int → List Int
noncomputable def Gr.Dflt (g : Gr) : Prop := ∀ w, w ∉ g.ks → g.np w = 0 ∧ g.su w = []
noncomputable def addP (node : Int) (g : Gr) (p : Int) : Gr := ⟨addK g.ks p, g.np, upd g.su p (g.su p ++ [node])⟩
noncomputable def addG (g : Gr) (node : Int) (preds : List Int) : Gr := preds.foldl (addP node) ⟨addK g.ks node, upd g.np node (g.np node + preds.length), g.su⟩
noncomputable def SoG (h : AH) (lo s a D : Nat) (rv : AV) (pa fi : Int) (g : Gr) : Prop := g.Dflt ∧ ∃ ni sr dd, SoC h lo s a D rv pa fi g.ks ni sr dd g.np g.su
theorem addK_len (ks : List Int) (v : Int) : (addK ks v).length ≤ ks.length + 1 := by unfold addK; split <;> simp
section
variable {h : AH} {lo s a D : Nat} {rv : AV} {pa fi : Int} {ks : List Int} {ni sr dd : Int → Nat} {np : Int → Int} {su : Int → List Int}
theorem aBin_add (x y : Int) (h : AH) : aBin .add (.int x) (.int y) h = some (.int (x + y), h) := rfl
theorem aBin_sub (x y : Int) (h : AH) : aBin .sub (.int x) (.int y) h = some (.int (x - y), h) := rfl
theorem SoC.push_su (S : SoC h lo s a D rv pa fi ks ni sr dd np su) {v : Int} (hv : v ∈ ks) (x : Int) (hl : (su v).length ≤ 1000000) : ∃ h', aAppend [.ref (sr v), .int x] h = some (.none, h') ∧ tyOf (.ref (sr v)) h = some "list" ∧ SoC h' lo s a D rv pa fi ks ni sr dd np (upd su v (su v ++ [x])) ∧ (∀ i, i ≠ sr v → h'[i]? = h[i]?) ∧ h'.length = h.length := by
 obtain ⟨k, e⟩ := S.suc v hv
 have hl' : ((su v).map AV.int).length ≤ 1000000 := by rwa [List.length_map]
 refine ⟨h.set (sr v) (.list ((su v).map .int ++ [.int x]), k + 1), aAppend_at e hl', ty_list e, ?_, fun i hi => set_ne (Ne.symm hi), List.length_set⟩
 refine Mine.hold fun gL bk => ?_
 obtain ⟨k1, e1⟩ := S.cls
 obtain ⟨k2, e2⟩ := S.att
 obtain ⟨k3, e3⟩ := S.dct
 refine bk ?_; clear bk gL
 refine ⟨⟨k1, ?_⟩, ⟨k2, ?_⟩, ⟨k3, ?_⟩, fun u hu => ?_, fun u hu => ?_, S.low, S.inj, S.nd, S.sml⟩
 ·rw [set_ne (ne_of_get e e1 (by simp))]; exact e1
 ·rw [set_ne (ne_of_get e e2 (by simp))]; exact e2
 ·rw [set_ne (ne_of_get e e3 (by simp))]; exact e3
 ·obtain ⟨k4, e4⟩ := S.inf u hu
  exact ⟨k4, by rw [set_ne (ne_of_get e e4 (by simp))]; exact e4⟩
 ·by_cases huv : u = v
  ·subst huv
   exact ⟨k + 1, by rw [set_eq (lt_of_get e), upd_eq]; simp⟩
  ·obtain ⟨k5, e5⟩ := S.suc u hu
   rw [upd_ne _ _ huv]
   exact ⟨k5, by rw [set_ne fun q => huv (S.inj _ hv _ hu q).symm]; exact e5⟩
theorem mem_addK_self (ks : List Int) (v : Int) : v ∈ addK ks v := mem_addK.mpr (.inr rfl)
theorem Dflt_up {g : Gr} (hd : g.Dflt) {v : Int} {ks' : List Int} {np' : Int → Int} {su' : Int → List Int} (hk : ∀ x, x ∉ ks' → x ∉ g.ks ∧ np' x = g.np x ∧ su' x = g.su x) : (⟨ks', np', su'⟩ : Gr).Dflt := fun w hw => by
 refine Mine.hold fun gL bk => ?_
 obtain ⟨a, b, c⟩ := hk w hw
 obtain ⟨d, e⟩ := hd w a
 refine bk ?_; clear bk gL
 exact ⟨b.trans d, c.trans e⟩
theorem add_run {g : Gr} {hb : AH} {node : Int} {preds : List Int} {K : AV → AH → Prop} (hS : SoG h lo s a D .none pa fi g) (pb : hb <+: h) (hbl : hb.length ≤ lo) (hlo : lo ≤ h.length) (hk : g.ks.length + preds.length + 2 ≤ 1000) (hsu : ∀ w, (g.su w).length + preds.length ≤ 100000)
  (k : ∀ h', SoG h' lo s a D .none pa fi (addG g node preds) → hb <+: h' → lo ≤ h'.length → K .none h') : wpH (aTsAdd (.ref s :: .int node :: preds.map .int)) K h := by
 have hpl : preds.length ≤ 1000 := by omega
 refine wp_def (bs := [("self", .ref s), ("node", .int node), ("predecessors", .tup (preds.map .int))]) (by simp [fRest]; omega) ?_
 unfold add.prog
 refine Mine.hold fun gL bk => ?_
 obtain ⟨hd, ni, sr, dd, S⟩ := hS
 refine bk ?_; clear bk gL
 simp! [S.a_rn (.inl rfl), Bool.not_true, S.own (n := "_get_nodeinfo") (by decide) (by decide) (by decide) (by decide)]
 refine gni_run S hlo (Classical.or_iff_not_imp_left.mpr fun hn => hd node hn) (by omega) ?_
 intro h1 ni1 sr1 dd1 S1 l1 same1
 have m1 := mem_addK_self g.ks node
 have hpl' : preds.length ≤ 1000000 := by omega
 refine Mine.hold fun gL bk => ?_
 obtain ⟨h2, e2, S2, same2, l2, _⟩ := S1.set_np m1 (g.np node + preds.length)
 refine bk ?_; clear bk gL
 simp! [S1.n_np m1, aLen, hpl', aBin_add, e2, itemsOf]
 have lowD := S.low.2.2.1
 have lowN := S1.low.2.2.2 node m1
 have pb2 : hb <+: h2 := pre_same pb fun i hi => by
  rw [same2 i (by omega), same1 i (by have := pb.length_le; omega) (by omega)]
 have mk : ∀ x ∈ addK g.ks node, x ∈ addK g.ks node := fun x hx => hx
 refine wp_forLoop (fun items st => ∃ (rest : List Int) (g' : Gr), items = rest.map .int ∧ SoG st.hp lo s a D .none pa fi g' ∧ hb <+: st.hp ∧ lo ≤ st.hp.length ∧ g'.ks.length + rest.length + 1 ≤ 1000 ∧ (∀ w, (g'.su w).length + rest.length ≤ 100000) ∧ rest.foldl (addP node) g' = addG g node preds ∧
  st.env.lookup "self" = some (.ref s) ∧ st.env.lookup "node" = some (.int node)) (fun zz zz zz g hg => by cases hg) ?_ ?_ _ _ ?_
 rotate_right
 ·refine ⟨preds, ⟨addK g.ks node, upd g.np node (g.np node + preds.length), g.su⟩, rfl, ⟨?_, ni1, sr1, dd1, S2⟩, pb2, (show lo ≤ h2.length by omega), ?_, hsu, rfl, ?_⟩
  ·exact Dflt_up (v := node) hd fun x hx => by
    have := fun q => hx (mem_addK.mpr q)
    exact ⟨fun q => this (.inl q), upd_ne _ _ fun q => this (.inr q), rfl⟩
  ·have := addK_len g.ks node; simp only; omega
  ·simp! [put_nil, put_cons]
 ·rintro x items ⟨e, hh⟩ zI3
  refine Mine.hold fun gL bk => ?_
  obtain ⟨rest, g', hi, ⟨hd', ni', sr', dd', S'⟩, pb', hlo', hk', hsu', hfin, a1, a2⟩ := zI3
  refine bk ?_; clear bk gL
  simp only at S' pb' hlo' a1 a2
  cases rest with
  | nil => cases hi
  | cons p rest =>
  simp only [List.map_cons, List.cons.injEq] at hi
  obtain ⟨rfl, rfl⟩ := hi
  simp! [a1, S'.own (n := "_get_nodeinfo") (by decide) (by decide) (by decide) (by decide)]
  simp only [List.length_cons] at hk' hsu'
  refine gni_run S' hlo' (Classical.or_iff_not_imp_left.mpr fun hn => hd' p hn) (by omega) ?_
  intro h3 ni3 sr3 dd3 S3 l3 same3
  have m3 := mem_addK_self g'.ks p
  refine Mine.hold fun gL bk => ?_
  obtain ⟨h4, e4, ty4, S4, same4, l4⟩ := S3.push_su m3 node (by have := hsu' p; omega)
  refine bk ?_; clear bk gL
  simp! [S3.n_su m3, ty4, a2, e4]
  have lowD' := S'.low.2.2.1
  have lowN' := (S3.low.2.2.2 p m3).2
  refine ⟨rest, addP node g' p, rfl, ⟨?_, ni3, sr3, dd3, S4⟩, ?_, by omega, ?_, fun w => ?_, hfin, ?_⟩
  ·exact Dflt_up (v := p) hd' fun x hx => by
    have := fun q => hx (mem_addK.mpr q)
    exact ⟨fun q => this (.inl q), rfl, upd_ne _ _ fun q => this (.inr q)⟩
  ·exact pre_same pb' fun i hi => by rw [same4 i (by omega), same3 i (by have := pb'.length_le; omega) (by omega)]
  ·have := addK_len g'.ks p; simp only [addP]; omega
  ·simp only [addP, upd]
   split
   ·rename_i q; have := hsu' p; rw [List.length_append]; simp only [List.length_cons, List.length_nil]; omega
   ·have := hsu' w; omega
  ·simp! [a1, a2]
 ·rintro ⟨e, hh⟩ zI1
  refine Mine.hold fun gL bk => ?_
  obtain ⟨rest, g', hi, S', pb', hlo', hk', hsu', hfin, a1, a2⟩ := zI1
  have hn : rest = [] := by simpa using hi.symm
  subst hn
  refine bk ?_; clear bk gL
  simp! [id_eq]
  simp only [List.foldl_nil] at hfin
  subst hfin
  exact k _ S' pb' hlo'
end
noncomputable def g0 : Gr := ⟨[], fun zz => 0, fun zz => []⟩
noncomputable def initG (live : List Int) (nd : Int → List Int) : Gr := live.foldl (fun g v => addG g v (nd v)) g0
theorem addG_len (node : Int) (g : Gr) : ∀ (preds : List Int) (g' : Gr), (preds.foldl (addP node) g').ks.length ≤ g'.ks.length + preds.length ∧ ∀ w, ((preds.foldl (addP node) g').su w).length ≤ (g'.su w).length + preds.length
 | [], g' => ⟨Nat.le_refl _, fun zz => Nat.le_refl _⟩
 | p :: ps, g' => by
  obtain ⟨h1, h2⟩ := addG_len node g ps (addP node g' p)
  have h3 := addK_len g'.ks p
  refine ⟨?_, fun w => ?_⟩
  ·simp only [List.foldl_cons, List.length_cons, addP] at h1 ⊢; omega
  ·have h4 := h2 w
   have h5 : ((addP node g' p).su w).length ≤ (g'.su w).length + 1 := by
    simp only [addP, upd]; split
    ·rename_i q; subst q; simp
    ·omega
   simp only [List.foldl_cons, List.length_cons]; omega
theorem ts_run {h : AH} {N : Nat} {live : List Int} {nr : Int → Nat} {nd : Int → List Int} {K : AV → AH → Prop} (hN : ∃ k, h[N]? = some (.dict (live.map fun v => (v, .ref (nr v))), k)) (hnd : ∀ v ∈ live, IL h (nr v) (nd v)) (hl : live.length ≤ 10) (hs : ∀ v ∈ live, (nd v).length ≤ 50)
  (k : ∀ h', SoG h' h.length (h.length + 1) h.length (h.length + 2) .none 0 0 (initG live nd) → h <+: h' → h.length + 2 < h'.length → K (.ref (h.length + 1)) h') : wpH (aTs [.ref N]) K h := by
 unfold aTs aTsInit
 simp! [id_eq]
 refine wp_def (bs := [("self", .ref (h.length + 1)), ("graph", .ref N)]) rfl ?_
 unfold tsInit.prog
 obtain ⟨kN, eN⟩ := hN
 have lN := lt_of_get eN
 simp! [aSetAttr, ix_n2i, ix_rn, ix_po, ix_nf, Bool.false_eq_true, put_nil, put_cons, Bool.not_false, (by decide : 0 < 900), (by decide : 1 < 900), (by decide : 2 < 900), (by decide : 3 < 900), tyOf, app_old lN, eN, aView, viewOf]
 refine Mine.gen (h ++ [(AObj.attrs [("_node2info", .ref (h.length + 2)), ("_ready_nodes", .none), ("_npassedout", .int 0), ("_nfinished", .int 0)], 4), (AObj.inst "TopologicalSorter" h.length, 0), (AObj.dict [], 0), (AObj.dview "dict_items" N, 0)]) fun H eH => ?_
 have pH : h <+: H := eH ▸ pre_app _ _
 have lH : H.length = h.length + 4 := by rw [← eH]; simp
 rw [eH, List.map_map]
 refine wp_forLoop (fun items st => ∃ (rest : List Int) (g' : Gr), items = rest.map (fun v => .tup [.int v, .ref (nr v)]) ∧ (∀ v ∈ rest, v ∈ live) ∧ SoG st.hp h.length (h.length + 1) h.length (h.length + 2) .none 0 0 g' ∧ h <+: st.hp ∧ h.length ≤ st.hp.length ∧ g'.ks.length + 60 * rest.length ≤ 700 ∧ (∀ w, (g'.su w).length + 60 * rest.length ≤ 700) ∧ rest.foldl (fun g v => addG g v (nd v)) g' = initG live nd ∧
  st.env.lookup "self" = some (.ref (h.length + 1))) ?_ ?_ ?_ _ _ ?_
 rotate_right
 ·refine ⟨live, g0, rfl, fun zz h => h, ⟨fun zz zz => ⟨rfl, rfl⟩, fun zz => 0, fun zz => 0, fun zz => 0, ?_⟩, pH, (show h.length ≤ H.length by omega), by simp [g0]; omega, fun w => by simp [g0]; omega, rfl, ?_⟩
  ·refine ⟨⟨0, eH ▸ at_app _ _ 1⟩, ⟨4, eH ▸ at_app0 _ _⟩, ⟨0, eH ▸ at_app _ _ 2⟩, fun v hv => (by cases hv), fun v hv => (by cases hv), ⟨by omega, by omega, by omega, fun v hv => (by cases hv)⟩, fun v hv => (by cases hv), List.nodup_nil, by simp [g0]⟩
  ·simp! [id_eq]
 ·rintro items ⟨e, hh⟩ zI2 g hg
  obtain ⟨rest, g', hi, _, S', pb', hlo', hk', hsu', hfin, a1⟩ := zI2
  simp only [List.mem_singleton] at hg
  subst hg
  exact prefix_get pb' eN
 ·rintro x items ⟨e, hh⟩ zI3
  obtain ⟨rest, g', hi, hr, S', pb', hlo', hk', hsu', hfin, a1⟩ := zI3
  simp only at S' pb' hlo' a1
  cases rest with
  | nil => cases hi
  | cons v rest =>
  simp only [List.map_cons, List.cons.injEq] at hi
  obtain ⟨rfl, rfl⟩ := hi
  have hv := hr v List.mem_cons_self
  obtain ⟨kv, ev⟩ := (hnd v hv).mono pb'
  have h50 := hs v hv
  have hsm : (nd v).length ≤ 1000000 := by omega
  have hown : ownM "TopologicalSorter" "add" (.ref (h.length + 1)) hh = some () := by
   obtain ⟨_, _, _, _, S⟩ := S'
   exact S.own (by decide) (by decide) (by decide) (by decide)
  simp only [List.length_cons] at hk' hsu'
  simp! [a1, hown, starOf, ev, hsm]
  refine add_run S' pb' (Nat.le_refl _) hlo' (by omega) (fun w => by have := hsu' w; omega) ?_
  intro h3 S3 pb3 l3
  simp! [id_eq]
  refine ⟨rest, addG g' v (nd v), rfl, fun w hw => hr w (List.mem_cons_of_mem _ hw), S3, pb3, l3, ?_, fun w => ?_, hfin, ?_⟩
  ·have := (addG_len v g' (nd v) ⟨addK g'.ks v, upd g'.np v (g'.np v + (nd v).length), g'.su⟩).1
   have h5 := addK_len g'.ks v
   unfold addG; simp only at this ⊢; omega
  ·have := (addG_len v g' (nd v) ⟨addK g'.ks v, upd g'.np v (g'.np v + (nd v).length), g'.su⟩).2 w
   have h5 := hsu' w
   unfold addG; simp only at this ⊢; omega
  ·simp! [a1]
 ·rintro ⟨e, hh⟩ zI1
  obtain ⟨rest, g', hi, hr, S', pb', hlo', hk', hsu', hfin, a1⟩ := zI1
  have hn : rest = [] := by simpa using hi.symm
  subst hn
  simp! [id_eq]
  simp only [List.foldl_nil] at hfin
  subst hfin
  obtain ⟨_, _, _, _, S⟩ := id S'
  obtain ⟨_, eD⟩ := S.dct
  exact k _ S' pb' (lt_of_get eD)
section
variable {h : AH} {lo s a D R : Nat} {rv : AV} {pa fi : Int} {ks : List Int} {ni sr dd : Int → Nat} {np : Int → Int} {su : Int → List Int}
structure So2 (h : AH) (lo s a D R : Nat) (ks : List Int) (ni sr dd : Int → Nat) (np : Int → Int) (su : Int → List Int) (rdy : List Int) : Prop where
 c : ∃ pa fi, SoC h lo s a D (.ref R) pa fi ks ni sr dd np su
 r : IL h R rdy
 ne : ∀ v ∈ ks, sr v ≠ R
 lo : lo ≤ R
 sub : ∀ x ∈ rdy, x ∈ ks
theorem SoC.set_at (S : SoC h lo s a D rv pa fi ks ni sr dd np su) {n : String} {x rv' : AV} {pa' fi' : Int} (hi : ixOf "TopologicalSorter" n = some none) (hp : put n x [("_node2info", .ref D), ("_ready_nodes", rv), ("_npassedout", .int pa), ("_nfinished", .int fi)] = [("_node2info", .ref D), ("_ready_nodes", rv'), ("_npassedout", .int pa'), ("_nfinished", .int fi')]) :
  ∃ h', aSetAttr ixOf n (.ref s) x h = some ((), h') ∧ SoC h' lo s a D rv' pa' fi' ks ni sr dd np su ∧ (∀ i, i ≠ a → h'[i]? = h[i]?) ∧ h'.length = h.length ∧ ∀ i o k, h[i]? = some (.list o, k) → i ≠ a := by
 obtain ⟨k1, e1⟩ := S.cls
 obtain ⟨k2, e2⟩ := S.att
 obtain ⟨k3, e3⟩ := S.dct
 refine ⟨h.set a (.attrs [("_node2info", .ref D), ("_ready_nodes", rv'), ("_npassedout", .int pa'), ("_nfinished", .int fi')], k2 + 1), ?_, ?_, fun i hi => set_ne (Ne.symm hi), List.length_set, fun i o k e => ne_of_get e e2 (by simp)⟩
 ·simp! [aSetAttr, e1, hi, e2, hp]
  rfl
 ·refine ⟨⟨k1, ?_⟩, ⟨k2 + 1, set_eq (lt_of_get e2)⟩, ⟨k3, ?_⟩, fun u hu => ?_, fun u hu => ?_, S.low, S.inj, S.nd, S.sml⟩
  ·rw [set_ne (ne_of_get e2 e1 (by simp))]; exact e1
  ·rw [set_ne (ne_of_get e2 e3 (by simp))]; exact e3
  ·obtain ⟨k4, e4⟩ := S.inf u hu
   exact ⟨k4, by rw [set_ne (ne_of_get e2 e4 (by simp))]; exact e4⟩
  ·obtain ⟨k5, e5⟩ := S.suc u hu
   exact ⟨k5, by rw [set_ne (ne_of_get e2 e5 (by simp))]; exact e5⟩
theorem SoC.other (S : SoC h lo s a D rv pa fi ks ni sr dd np su) {i : Nat} {x : AObj × Nat} {o : List AV} {k : Nat} (hi : h[i]? = some (.list o, k)) (hn : ∀ v ∈ ks, sr v ≠ i) : SoC (h.set i x) lo s a D rv pa fi ks ni sr dd np su := by
 obtain ⟨k1, e1⟩ := S.cls
 obtain ⟨k2, e2⟩ := S.att
 obtain ⟨k3, e3⟩ := S.dct
 refine ⟨⟨k1, ?_⟩, ⟨k2, ?_⟩, ⟨k3, ?_⟩, fun u hu => ?_, fun u hu => ?_, S.low, S.inj, S.nd, S.sml⟩
 ·rw [set_ne (ne_of_get hi e1 (by simp))]; exact e1
 ·rw [set_ne (ne_of_get hi e2 (by simp))]; exact e2
 ·rw [set_ne (ne_of_get hi e3 (by simp))]; exact e3
 ·obtain ⟨k4, e4⟩ := S.inf u hu
  exact ⟨k4, by rw [set_ne (ne_of_get hi e4 (by simp))]; exact e4⟩
 ·exact (S.suc u hu).set (Ne.symm (hn u hu))
theorem SoC.grow (S : SoC h lo s a D rv pa fi ks ni sr dd np su) {h' : AH} (p : h <+: h') : SoC h' lo s a D rv pa fi ks ni sr dd np su := by
 obtain ⟨k1, e1⟩ := S.cls
 obtain ⟨k2, e2⟩ := S.att
 obtain ⟨k3, e3⟩ := S.dct
 refine ⟨⟨k1, prefix_get p e1⟩, ⟨k2, prefix_get p e2⟩, ⟨k3, prefix_get p e3⟩, fun u hu => ?_, fun u hu => (S.suc u hu).mono p, S.low, S.inj, S.nd, S.sml⟩
 obtain ⟨k4, e4⟩ := S.inf u hu
 exact ⟨k4, prefix_get p e4⟩
theorem So2.grow {rdy : List Int} (S : So2 h lo s a D R ks ni sr dd np su rdy) {h' : AH} (p : h <+: h') : So2 h' lo s a D R ks ni sr dd np su rdy := by
 obtain ⟨pa, fi, c⟩ := S.c
 exact ⟨⟨pa, fi, c.grow p⟩, S.r.mono p, S.ne, S.lo, S.sub⟩
noncomputable def outN (np : Int → Int) (rdy : List Int) : Int → Int := fun w => if w ∈ rdy then -1 else np w
theorem outN_cons (np : Int → Int) (v : Int) (r : List Int) : outN (upd np v (-1)) r = outN np (v :: r) := by
 funext w
 unfold outN upd
 by_cases h1 : w ∈ r <;> by_cases h2 : w = v <;> simp [h1, h2]
theorem getReady_run {rdy : List Int} {hb : AH} {K : AV → AH → Prop} (S : So2 h lo s a D R ks ni sr dd np su rdy) (pb : hb <+: h) (hbl : hb.length ≤ lo) (hl : rdy.length ≤ 1000000)
  (k : ∀ h', So2 h' lo s a D R ks ni sr dd (outN np rdy) su [] → KeepL R h h' → hb <+: h' → K (.tup (rdy.map .int)) h') : wpH (aGetReady [.ref s]) K h := by
 refine wp_def (bs := [("self", .ref s)]) rfl ?_
 unfold getReady.prog
 obtain ⟨pa, fi, C⟩ := S.c
 obtain ⟨kR, eR⟩ := S.r
 simp! [C.a_rn (.inr ⟨R, rfl⟩), aTupleOf, eR, hl, C.a_n2i, itemsOf, put_nil, put_cons]
 refine wp_forLoop (fun items st => ∃ (rest : List Int) (np' : Int → Int), items = rest.map .int ∧ (∀ x ∈ rest, x ∈ ks) ∧ So2 st.hp lo s a D R ks ni sr dd np' su rdy ∧ outN np' rest = outN np rdy ∧ KeepL R h st.hp ∧ hb <+: st.hp ∧
  st.env.lookup "self" = some (.ref s) ∧ st.env.lookup "n2i" = some (.ref D) ∧ st.env.lookup "result" = some (.tup (rdy.map .int))) (fun zz zz zz g hg => by cases hg) ?_ ?_ _ _ ?_
 rotate_right
 ·refine ⟨rdy, np, rfl, S.sub, S, rfl, KeepL.refl _ _, pb, ?_⟩
  simp! [id_eq]
 ·rintro x items ⟨e, hh⟩ zI3
  obtain ⟨rest, np', hi, hr, S', ho, kl, pb', a1, a2, a3⟩ := zI3
  simp only at S' pb' kl a1 a2 a3
  cases rest with
  | nil => cases hi
  | cons v rest =>
  simp only [List.map_cons, List.cons.injEq] at hi
  obtain ⟨rfl, rfl⟩ := hi
  obtain ⟨pa', fi', C'⟩ := S'.c
  have hv := hr v List.mem_cons_self
  obtain ⟨kd, ed⟩ := C'.dct
  obtain ⟨h2, e2, C2, same2, l2, kl2⟩ := C'.set_np hv (-1)
  simp! [a2, aIdx_dict ed hv, e2]
  have lowN := (C'.low.2.2.2 v hv).1
  obtain ⟨kR', eR'⟩ := S'.r
  obtain ⟨k4, e4⟩ := C'.inf v hv
  refine ⟨rest, upd np' v (-1), rfl, fun x hx => hr x (List.mem_cons_of_mem _ hx), ⟨⟨pa', fi', C2⟩, ⟨kR', ?_⟩, S'.ne, S'.lo, S'.sub⟩, (outN_cons _ _ _).trans ho, kl.trans (kl2 R), pre_same pb' fun i hi => same2 i (by omega), ?_⟩
  ·rw [same2 R (ne_of_get eR' e4 (by simp))]; exact eR'
  ·simp! [a1, a2, a3]
 ·rintro ⟨e, hh⟩ zI1
  obtain ⟨rest, np', hi, hr, S', ho, kl, pb', a1, a2, a3⟩ := zI1
  simp only at S' pb' kl a1 a2 a3
  have hn : rest = [] := by simpa using hi.symm
  subst hn
  have ho' : np' = outN np rdy := by rw [← ho]; funext w; simp [outN]
  obtain ⟨pa', fi', C'⟩ := S'.c
  obtain ⟨kR', eR'⟩ := S'.r
  have hl' : rdy.length ≤ 1000000 := hl
  have C2 := C'.other (x := (.list [], kR' + 1)) eR' S'.ne
  obtain ⟨h3, e3, C3, same3, l3, kl3⟩ := C2.set_at (n := "_npassedout") (x := .int (pa' + rdy.length)) (rv' := .ref R) (pa' := pa' + rdy.length) (fi' := fi') ix_po (by simp [put_nil, put_cons])
  simp! [a1, C'.a_rn (.inr ⟨R, rfl⟩), tyOf, eR', aClear, hl', C2.a_po, a3, aLen, aBin_add, e3]
  refine k h3 ⟨⟨_, _, ho' ▸ C3⟩, ⟨kR' + 1, ?_⟩, S'.ne, S'.lo, fun x hx => (by cases hx)⟩ (kl.trans ⟨fun x o kk ex hx => ?_, by rw [l3, List.length_set]; exact Nat.le_refl _⟩) ?_
  ·rw [same3 R (kl3 R _ _ (set_eq (lt_of_get eR')))]; exact set_eq (lt_of_get eR')
  ·have : (hh.set R (.list [], kR' + 1))[x]? = some (.list o, kk) := by rw [set_ne (Ne.symm hx)]; exact ex
   rw [same3 x (kl3 x _ _ this)]; exact this
  ·have hlo := S'.lo
   have hla := C'.low.2.1
   refine pre_same pb' fun i hi => ?_
   rw [same3 i (by omega), set_ne (by omega)]
end
section
variable {h : AH} {lo s a D R : Nat} {rv : AV} {pa fi : Int} {ks : List Int} {ni sr dd : Int → Nat} {np : Int → Int} {su : Int → List Int}
noncomputable def decS (x : (Int → Int) × List Int) (w : Int) : (Int → Int) × List Int := (upd x.1 w (x.1 w - 1), if x.1 w - 1 = 0 then x.2 ++ [w] else x.2)
noncomputable def doneS (su : Int → List Int) (x : (Int → Int) × List Int) (v : Int) : (Int → Int) × List Int := (su v).foldl decS (upd x.1 v (-2), x.2)
noncomputable def OkDone (su : Int → List Int) : (Int → Int) × List Int → List Int → Prop
 | _, [] => True
 | x, v :: r => x.1 v = -1 ∧ OkDone su (doneS su x v) r
theorem So2.push {rdy : List Int} (S : So2 h lo s a D R ks ni sr dd np su rdy) {w : Int} (hw : w ∈ ks) (hl : rdy.length ≤ 1000000) : ∃ h', aAppend [.ref R, .int w] h = some (.none, h') ∧ So2 h' lo s a D R ks ni sr dd np su (rdy ++ [w]) ∧ (∀ i, i ≠ R → h'[i]? = h[i]?) ∧ h'.length = h.length := by
 refine Mine.hold fun gL bk => ?_
 obtain ⟨kR, eR⟩ := S.r
 obtain ⟨pa, fi, C⟩ := S.c
 refine bk ?_; clear bk gL
 have hl' : (rdy.map AV.int).length ≤ 1000000 := by rwa [List.length_map]
 refine ⟨h.set R (.list (rdy.map .int ++ [.int w]), kR + 1), aAppend_at eR hl', ⟨⟨pa, fi, C.other eR S.ne⟩, ⟨kR + 1, by rw [set_eq (lt_of_get eR)]; simp⟩, S.ne, S.lo, fun x hx => ?_⟩, fun i hi => set_ne (Ne.symm hi), List.length_set⟩
 rcases List.mem_append.mp hx with hx | hx
 ·exact S.sub x hx
 ·exact List.mem_singleton.mp hx ▸ hw
theorem So2.set_np {rdy : List Int} (S : So2 h lo s a D R ks ni sr dd np su rdy) {v : Int} (hv : v ∈ ks) (x : Int) : ∃ h', aSetAttr ixOf "npredecessors" (.ref (ni v)) (.int x) h = some ((), h') ∧ So2 h' lo s a D R ks ni sr dd (upd np v x) su rdy ∧ (∀ i, i ≠ ni v → h'[i]? = h[i]?) ∧ h'.length = h.length ∧ (∀ R, KeepL R h h') := by
 refine Mine.hold fun gL bk => ?_
 obtain ⟨pa, fi, C⟩ := S.c
 obtain ⟨h2, e2, C2, same2, l2, kl2⟩ := C.set_np hv x
 obtain ⟨kR', eR'⟩ := S.r
 obtain ⟨k4, e4⟩ := C.inf v hv
 refine bk ?_; clear bk gL
 exact ⟨h2, e2, ⟨⟨pa, fi, C2⟩, ⟨kR', by rw [same2 R (ne_of_get eR' e4 (by simp))]; exact eR'⟩, S.ne, S.lo, S.sub⟩, same2, l2, kl2⟩
theorem KeepL.of_same {R : Nat} {h h' : AH} (hs : ∀ i, i ≠ R → h'[i]? = h[i]?) (hl : h'.length = h.length) : KeepL R h h' := ⟨fun x o k e hn => by rw [hs x hn]; exact e, by omega⟩
theorem done_run {rdy nodes : List Int} {hb : AH} {K : AV → AH → Prop} (S : So2 h lo s a D R ks ni sr dd np su rdy) (pb : hb <+: h) (hbl : hb.length ≤ lo) (hn : ∀ v ∈ nodes, v ∈ ks) (hcl : ∀ v ∈ ks, ∀ w ∈ su v, w ∈ ks) (hok : OkDone su (np, rdy) nodes)
  (hsl : ∀ v, (su v).length ≤ 1000) (hnl : nodes.length ≤ 900) (hrl : rdy.length ≤ 1000)
  (k : ∀ h', So2 h' lo s a D R ks ni sr dd (nodes.foldl (doneS su) (np, rdy)).1 su (nodes.foldl (doneS su) (np, rdy)).2 → KeepL R h h' → hb <+: h' → K .none h') : wpH (aDone (.ref s :: nodes.map .int)) K h := by
 refine wp_def (bs := [("self", .ref s), ("nodes", .tup (nodes.map .int))]) (by simp [fRest]; omega) ?_
 unfold done.prog
 refine Mine.hold fun gL bk => ?_
 obtain ⟨pa, fi, C⟩ := S.c
 refine bk ?_; clear bk gL
 simp! [C.a_rn (.inr ⟨R, rfl⟩), C.a_n2i, put_nil, put_cons, itemsOf]
 refine Mine.hold fun gL bk => ?_
 refine Mine.gen (nodes.foldl (doneS su) (np, rdy)) fun fin hfin => ?_
 refine bk ?_; clear bk gL
 rw [hfin] at k
 refine wp_forLoop (fun items st => ∃ (rest : List Int) (x : (Int → Int) × List Int), items = rest.map .int ∧ (∀ v ∈ rest, v ∈ ks) ∧ So2 st.hp lo s a D R ks ni sr dd x.1 su x.2 ∧ rest.foldl (doneS su) x = fin ∧ OkDone su x rest ∧ x.2.length + 1000 * rest.length ≤ 1000000 ∧ KeepL R h st.hp ∧ hb <+: st.hp ∧
  st.env.lookup "self" = some (.ref s) ∧ st.env.lookup "n2i" = some (.ref D)) (fun zz zz zz g hg => by cases hg) ?_ ?_ _ _ ?_
 rotate_right
 ·refine ⟨nodes, (np, rdy), rfl, hn, S, hfin, hok, by simp only; omega, KeepL.refl _ _, pb, ?_⟩
  simp! [id_eq]
 ·rintro x items ⟨e, hh⟩ zI3
  refine Mine.hold fun gL bk => ?_
  obtain ⟨rest, x, hi, hr, S', hf, hok', hxl, kl, pb', a1, a2⟩ := zI3
  refine bk ?_; clear bk gL
  simp only at S' pb' kl a1 a2
  cases rest with
  | nil => cases hi
  | cons v rest =>
  simp only [List.map_cons, List.cons.injEq] at hi
  refine Mine.hold fun gL bk => ?_
  obtain ⟨rfl, rfl⟩ := hi
  obtain ⟨np', rdy'⟩ := x
  refine bk ?_; clear bk gL
  simp only at S' hxl
  obtain ⟨hst, hok'⟩ := hok'
  simp only at hst
  have hv := hr v List.mem_cons_self
  refine Mine.hold fun gL bk => ?_
  obtain ⟨pa', fi', C'⟩ := S'.c
  obtain ⟨kd, ed⟩ := C'.dct
  have hg : aGet [.ref D, .int v] hh = some (.ref (ni v), hh) := (aGet_at ed).trans (by rw [vat_map, if_pos hv]; rfl)
  obtain ⟨h2, e2, S2, same2, l2, kl2⟩ := S'.set_np hv (-2)
  obtain ⟨pa2, fi2, C2⟩ := S2.c
  obtain ⟨k5, e5⟩ := C2.suc v hv
  refine bk ?_; clear bk gL
  have lowN := (C'.low.2.2.2 v hv).1
  simp! [a2, ty_dict ed, hg, C'.n_np hv, hst, aEq_int, decide_true, Bool.not_true, e2, C2.n_su hv, itemsOf, e5]
  have hv' := hsl v
  simp only [List.length_cons] at hxl
  refine wp_forLoop (fun items st => ∃ (rs : List Int) (x : (Int → Int) × List Int), items = rs.map .int ∧ (∀ w ∈ rs, w ∈ ks) ∧ So2 st.hp lo s a D R ks ni sr dd x.1 su x.2 ∧ rs.foldl decS x = doneS su (np', rdy') v ∧ x.2.length + rs.length + 1000 * rest.length ≤ 1000000 ∧ KeepL R h2 st.hp ∧ hb <+: st.hp ∧
   st.env.lookup "self" = some (.ref s) ∧ st.env.lookup "n2i" = some (.ref D)) ?_ ?_ ?_ _ _ ?_
  rotate_right
  ·refine ⟨su v, (upd np' v (-2), rdy'), rfl, fun w hw => hcl v hv w hw, S2, rfl, by simp only; omega, KeepL.refl _ _, pre_same pb' fun i hi => same2 i (by omega), ?_⟩
   simp! [a1, a2]
  ·rintro items ⟨e', hh'⟩ zI2 g hg'
   refine Mine.hold fun gL bk => ?_
   obtain ⟨rs, x, hi, hr', S3, hf3, hxl3, kl3, pb3, b1, b2⟩ := zI2
   simp only [List.mem_singleton] at hg'
   subst hg'
   refine bk ?_; clear bk gL
   exact kl3.1 _ _ _ e5 (S'.ne v hv)
  ·rintro x items ⟨e', hh'⟩ zI3
   refine Mine.hold fun gL bk => ?_
   obtain ⟨rs, x, hi, hr', S3, hf3, hxl3, kl3, pb3, b1, b2⟩ := zI3
   refine bk ?_; clear bk gL
   simp only at S3 pb3 kl3 b1 b2
   cases rs with
   | nil => cases hi
   | cons w rs =>
   simp only [List.map_cons, List.cons.injEq] at hi
   refine Mine.hold fun gL bk => ?_
   obtain ⟨rfl, rfl⟩ := hi
   obtain ⟨np3, rdy3⟩ := x
   simp only [List.length_cons] at S3 hxl3
   have hw := hr' w List.mem_cons_self
   obtain ⟨pa3, fi3, C3⟩ := S3.c
   obtain ⟨kd3, ed3⟩ := C3.dct
   obtain ⟨h4, e4, S4, same4, l4, kl4⟩ := S3.set_np hw (np3 w - 1)
   obtain ⟨pa4, fi4, C4⟩ := S4.c
   refine bk ?_; clear bk gL
   have lowN3 := (C3.low.2.2.2 w hw).1
   have np4 : upd np3 w (np3 w - 1) w = np3 w - 1 := upd_eq _ _ _
   have pb4 : hb <+: h4 := pre_same pb3 fun i hi => same4 i (by omega)
   simp! [b2, aIdx_dict ed3 hw, C3.n_np hw, aBin_sub, e4, C4.n_np hw, np4, aEq_int]
   have hdec : decS (np3, rdy3) w = (upd np3 w (np3 w - 1), if np3 w - 1 = 0 then rdy3 ++ [w] else rdy3) := rfl
   by_cases hz : np3 w - 1 = 0
   ·obtain ⟨h5, e5', S5, same5, l5⟩ := S4.push hw (by omega)
    obtain ⟨kr, er⟩ := S4.r
    simp! [hz, decide_true, b1, C4.a_rn (.inr ⟨R, rfl⟩), ty_list er, e5']
    refine ⟨rs, decS (np3, rdy3) w, rfl, fun u hu => hr' u (List.mem_cons_of_mem _ hu), ?_, hf3, ?_, (kl3.trans (kl4 R)).trans (KeepL.of_same same5 l5), pre_same pb4 fun i hi => same5 i (by have := S3.lo; omega), ?_⟩
    ·rw [hdec, if_pos hz]; exact hz ▸ S5
    ·rw [hdec, if_pos hz]; simp only [List.length_append, List.length_cons, List.length_nil]; omega
    ·simp! [b1, b2]
   ·simp! [hz, decide_false, Bool.false_eq_true]
    refine ⟨rs, decS (np3, rdy3) w, rfl, fun u hu => hr' u (List.mem_cons_of_mem _ hu), ?_, hf3, ?_, kl3.trans (kl4 R), pb4, ?_⟩
    ·rw [hdec, if_neg hz]; exact S4
    ·rw [hdec, if_neg hz]; simp only; omega
    ·simp! [b1, b2]
  ·rintro ⟨e', hh'⟩ zI1
   refine Mine.hold fun gL bk => ?_
   obtain ⟨rs, x, hi, hr', S3, hf3, hxl3, kl3, pb3, b1, b2⟩ := zI1
   refine bk ?_; clear bk gL
   simp only at S3 pb3 kl3 b1 b2
   have hn' : rs = [] := by simpa using hi.symm
   refine Mine.hold fun gL bk => ?_
   subst hn'
   simp only [List.foldl_nil] at hf3
   subst hf3
   obtain ⟨pa3, fi3, C3⟩ := S3.c
   obtain ⟨h6, e6, C6, same6, l6, kl6⟩ := C3.set_at (n := "_nfinished") (x := .int (fi3 + 1)) (rv' := .ref R) (pa' := pa3) (fi' := fi3 + 1) ix_nf (by simp [put_nil, put_cons])
   obtain ⟨kr, er⟩ := S3.r
   refine bk ?_; clear bk gL
   simp! [b1, C3.a_nf, aBin_add, e6]
   refine ⟨rest, _, rfl, fun w hw => hr w (List.mem_cons_of_mem _ hw), ⟨⟨_, _, C6⟩, ⟨kr, by rw [same6 R (kl6 R _ _ er)]; exact er⟩, S3.ne, S3.lo, S3.sub⟩, hf, hok', by simp only [List.length_nil] at hxl3; omega, (kl.trans (kl2 R)).trans (kl3.trans ⟨fun x o kk ex hx => by rw [same6 x (kl6 x _ _ ex)]; exact ex, by omega⟩), ?_, ?_⟩
   ·exact pre_same pb3 fun i hi => same6 i (by have := C3.low.2.1; omega)
   ·simp! [b1, b2]
 ·rintro ⟨e, hh⟩ zI1
  refine Mine.hold fun gL bk => ?_
  obtain ⟨rest, x, hi, hr, S', hf, hok', hxl, kl, pb', a1, a2⟩ := zI1
  refine bk ?_; clear bk gL
  simp only at S' pb' kl a1 a2
  have hn' : rest = [] := by simpa using hi.symm
  refine Mine.hold fun gL bk => ?_
  subst hn'
  simp only [List.foldl_nil] at hf
  subst hf
  refine bk ?_; clear bk gL
  simp! [id_eq]
  exact k hh S' kl pb'
end
section
variable {ks : List Int} {su : Int → List Int}
noncomputable def Black (seen : List Int) (fr : List (Int × Nat)) (w : Int) : Prop := w ∈ seen ∧ w ∉ fr.map (·.1)
noncomputable def Chain (su : Int → List Int) (B : Int → Prop) : List (Int × Nat) → Option Int → Prop
 | [], _ => True
 | (x, p) :: rest, t => (match t with
   | some y => ∃ p', p = p' + 1 ∧ (su x)[p']? = some y ∧ ∀ j w, j < p' → (su x)[j]? = some w → B w
   | none => ∀ j w, j < p → (su x)[j]? = some w → B w) ∧ Chain su B rest (some x)
theorem Chain.mono {B B' : Int → Prop} (h : ∀ w, B w → B' w) : ∀ {fr : List (Int × Nat)} {t : Option Int}, Chain su B fr t → Chain su B' fr t
 | [], _, _ => trivial
 | (x, p) :: rest, t, c => by
  refine ⟨?_, Chain.mono h c.2⟩
  cases t with
  | some y => obtain ⟨p', e, g, a⟩ := c.1; exact ⟨p', e, g, fun j w hj hw => h _ (a j w hj hw)⟩
  | none => exact fun j w hj hw => h _ (c.1 j w hj hw)
structure DF (ks : List Int) (su : Int → List Int) (seen : List Int) (fr : List (Int × Nat)) (rk : Int → Nat) (clk : Nat) (t : Option Int) : Prop where
 sub : ∀ x ∈ seen, x ∈ ks
 frs : ∀ x ∈ fr.map (·.1), x ∈ seen
 nd : (fr.map (·.1)).Nodup
 ch : Chain su (Black seen fr) fr t
 bl : ∀ u, Black seen fr u → rk u < clk ∧ ∀ w ∈ su u, Black seen fr w ∧ rk w < rk u
theorem DF.start (ks : List Int) (su : Int → List Int) (t : Option Int) : DF ks su [] [] (fun zz => 0) 0 t := ⟨fun zz h => (by cases h), fun zz h => (by cases h), List.nodup_nil, trivial, fun zz h => (by cases h.1)⟩
theorem DF.any {seen : List Int} {rk : Int → Nat} {clk : Nat} {t : Option Int} (d : DF ks su seen [] rk clk t) (t' : Option Int) : DF ks su seen [] rk clk t' := ⟨d.sub, d.frs, d.nd, trivial, d.bl⟩
theorem DF.push {seen : List Int} {fr : List (Int × Nat)} {rk : Int → Nat} {clk : Nat} {x : Int} (d : DF ks su seen fr rk clk (some x)) (hx : x ∉ seen) (hk : x ∈ ks) : DF ks su (seen ++ [x]) ((x, 0) :: fr) rk clk none := by
 have hb : ∀ w, Black (seen ++ [x]) ((x, 0) :: fr) w ↔ Black seen fr w := fun w => by
  unfold Black
  simp only [List.mem_append, List.map_cons, List.mem_cons, List.not_mem_nil, or_false, not_or]
  constructor
  ·rintro ⟨h | h, h1, h2⟩
   ·exact ⟨h, h2⟩
   ·exact absurd h h1
  ·rintro ⟨h1, h2⟩
   exact ⟨.inl h1, fun e => hx (e ▸ h1), h2⟩
 refine ⟨fun y hy => ?_, fun y hy => ?_, ?_, ⟨fun j w hj => absurd hj (Nat.not_lt_zero _), d.ch.mono fun w hw => (hb w).mpr hw⟩, fun u hu => ?_⟩
 ·rcases List.mem_append.mp hy with h | h
  ·exact d.sub y h
  ·exact List.mem_singleton.mp h ▸ hk
 ·simp only [List.map_cons, List.mem_cons] at hy
  rcases hy with rfl | hy
  ·simp
  ·exact List.mem_append_left _ (d.frs y hy)
 ·simp only [List.map_cons, List.nodup_cons]
  exact ⟨fun h => hx (d.frs x h), d.nd⟩
 ·obtain ⟨h1, h2⟩ := d.bl u ((hb u).mp hu)
  exact ⟨h1, fun w hw => ⟨(hb w).mpr (h2 w hw).1, (h2 w hw).2⟩⟩
theorem DF.black {seen : List Int} {fr : List (Int × Nat)} {rk : Int → Nat} {clk : Nat} {x : Int} (d : DF ks su seen fr rk clk (some x)) (hx : x ∈ seen) (hf : x ∉ fr.map (·.1)) : DF ks su seen fr rk clk none := by
 refine ⟨d.sub, d.frs, d.nd, ?_, d.bl⟩
 cases fr with
 | nil => trivial
 | cons f rest =>
  obtain ⟨y, p⟩ := f
  obtain ⟨⟨p', rfl, g, a⟩, c⟩ := d.ch
  refine ⟨fun j w hj hw => ?_, c⟩
  by_cases hjp : j = p'
  ·subst hjp
   rw [g] at hw; cases hw
   exact ⟨hx, hf⟩
  ·exact a j w (by omega) hw
theorem DF.next {seen : List Int} {x : Int} {p : Nat} {rest : List (Int × Nat)} {rk : Int → Nat} {clk : Nat} {y : Int} (d : DF ks su seen ((x, p) :: rest) rk clk none) (hy : (su x)[p]? = some y) : DF ks su seen ((x, p + 1) :: rest) rk clk (some y) :=
 ⟨d.sub, d.frs, d.nd, ⟨⟨p, rfl, hy, d.ch.1⟩, d.ch.2⟩, d.bl⟩
theorem DF.pop {seen : List Int} {x : Int} {p : Nat} {rest : List (Int × Nat)} {rk : Int → Nat} {clk : Nat} (d : DF ks su seen ((x, p) :: rest) rk clk none) (hy : (su x)[p]? = none) : DF ks su seen rest (fun w => if w = x then clk else rk w) (clk + 1) none := by
 have hxs : x ∈ seen := d.frs x (by simp)
 have hnd : x ∉ rest.map (·.1) ∧ (rest.map (·.1)).Nodup := by have := d.nd; simpa only [List.map_cons, List.nodup_cons] using this
 have hb : ∀ w, Black seen rest w ↔ w = x ∨ Black seen ((x, p) :: rest) w := fun w => by
  unfold Black
  simp only [List.map_cons, List.mem_cons, not_or]
  constructor
  ·rintro ⟨h1, h2⟩
   by_cases e : w = x
   ·exact .inl e
   ·exact .inr ⟨h1, e, h2⟩
  ·rintro (rfl | ⟨h1, h2, h3⟩)
   ·exact ⟨hxs, hnd.1⟩
   ·exact ⟨h1, h3⟩
 have hall : ∀ w ∈ su x, Black seen ((x, p) :: rest) w := fun w hw => by
  obtain ⟨j, hj⟩ := List.mem_iff_getElem?.mp hw
  refine d.ch.1 j w ?_ hj
  have h1 := List.getElem?_eq_none_iff.mp hy
  have h2 := (List.getElem?_eq_some_iff.mp hj).1
  omega
 have hxb : ¬ Black seen ((x, p) :: rest) x := fun h => h.2 (by simp)
 refine ⟨d.sub, fun y hy => d.frs y (by simp only [List.map_cons, List.mem_cons]; exact .inr hy), hnd.2, ?_, fun u hu => ?_⟩
 ·have hc : Chain su (Black seen rest) rest (some x) := d.ch.2.mono fun w hw => (hb w).mpr (.inr hw)
  cases rest with
  | nil => trivial
  | cons f rest' =>
   obtain ⟨y, q⟩ := f
   obtain ⟨⟨p', rfl, g, a⟩, c⟩ := hc
   refine ⟨fun j w hj hw => ?_, c⟩
   by_cases hjp : j = p'
   ·subst hjp
    rw [g] at hw; cases hw
    exact (hb x).mpr (.inl rfl)
   ·exact a j w (by omega) hw
 ·rcases (hb u).mp hu with rfl | hu'
  ·rw [if_pos rfl]
   refine ⟨Nat.lt_succ_self _, fun w hw => ⟨(hb w).mpr (.inr (hall w hw)), ?_⟩⟩
   have hwx : w ≠ u := fun e => hxb (e ▸ hall w hw)
   rw [if_neg hwx]
   exact (d.bl w (hall w hw)).1
  ·have hux : u ≠ x := fun e => hxb (e ▸ hu')
   obtain ⟨h1, h2⟩ := d.bl u hu'
   rw [if_neg hux]
   refine ⟨Nat.lt_succ_of_lt h1, fun w hw => ⟨(hb w).mpr (.inr (h2 w hw).1), ?_⟩⟩
   have hwx : w ≠ x := fun e => hxb (e ▸ (h2 w hw).1)
   rw [if_neg hwx]; exact (h2 w hw).2
noncomputable def Ring (ks : List Int) (su : Int → List Int) : Prop := ∃ S : List Int, S ≠ [] ∧ (∀ x ∈ S, x ∈ ks) ∧ ∀ x ∈ S, ∃ y ∈ S, x ∈ su y
theorem chain_ring {B : Int → Prop} {y : Int} : ∀ {fr : List (Int × Nat)} {t : Int}, Chain su B fr (some t) → (∀ x ∈ fr.map (·.1), x ∈ ks) → y ∈ fr.map (·.1) → ∃ S : List Int, y ∈ S ∧ (∀ z ∈ S, z ∈ ks) ∧ (∀ z ∈ S, z = y ∨ ∃ u ∈ S, z ∈ su u) ∧ ∃ u ∈ S, t ∈ su u
 | [], _, _, _, h => by cases h
 | (x, p) :: rest, t, c, hk, h => by
  obtain ⟨⟨p', rfl, g, _⟩, c'⟩ := c
  have ht : t ∈ su x := List.mem_of_getElem? g
  by_cases hyx : y = x
  ·subst hyx
   exact ⟨[y], by simp, fun z hz => by rw [List.mem_singleton.mp hz]; exact hk y (by simp), fun z hz => .inl (List.mem_singleton.mp hz), y, by simp, ht⟩
  ·have hy : y ∈ rest.map (·.1) := by
    simp only [List.map_cons, List.mem_cons] at h
    exact h.resolve_left hyx
   obtain ⟨S, h1, h2, h3, u, hu, hxu⟩ := chain_ring c' (fun z hz => hk z (by simp only [List.map_cons, List.mem_cons]; exact .inr hz)) hy
   refine ⟨x :: S, List.mem_cons_of_mem _ h1, fun z hz => ?_, fun z hz => ?_, x, List.mem_cons_self, ht⟩
   ·rcases List.mem_cons.mp hz with rfl | hz
    ·exact hk z (by simp)
    ·exact h2 z hz
   ·rcases List.mem_cons.mp hz with rfl | hz
    ·exact .inr ⟨u, List.mem_cons_of_mem _ hu, hxu⟩
    ·rcases h3 z hz with e | ⟨v, hv, hzv⟩
     ·exact .inl e
     ·exact .inr ⟨v, List.mem_cons_of_mem _ hv, hzv⟩
theorem DF.ring {seen : List Int} {fr : List (Int × Nat)} {rk : Int → Nat} {clk : Nat} {x : Int} (d : DF ks su seen fr rk clk (some x)) (hf : x ∈ fr.map (·.1)) : Ring ks su := by
 obtain ⟨S, h1, h2, h3, u, hu, hx⟩ := chain_ring d.ch (fun z hz => d.sub z (d.frs z hz)) hf
 refine ⟨S, fun e => (by rw [e] at h1; cases h1), h2, fun z hz => ?_⟩
 rcases h3 z hz with rfl | h
 ·exact ⟨u, hu, hx⟩
 ·exact h
noncomputable def Ranked (ks : List Int) (su : Int → List Int) : Prop := ∃ rk : Int → Nat, ∀ u ∈ ks, ∀ w ∈ su u, rk w < rk u
theorem DF.ranked {seen : List Int} {rk : Int → Nat} {clk : Nat} {t : Option Int} (d : DF ks su seen [] rk clk t) (h : ∀ x ∈ ks, x ∈ seen) : Ranked ks su :=
 ⟨rk, fun u hu w hw => ((d.bl u ⟨h u hu, by simp⟩).2 w hw).2⟩
theorem Ranked.no {S : List Int} (r : Ranked ks su) (hs : S ≠ []) (hk : ∀ x ∈ S, x ∈ ks) : ¬ ∀ x ∈ S, ∃ y ∈ S, x ∈ su y := by
 obtain ⟨rk, h⟩ := r
 intro hp
 have : ∀ n, ∃ x ∈ S, n ≤ rk x := by
  intro n
  induction n with
  | zero => obtain ⟨x, hx⟩ := List.exists_mem_of_ne_nil _ hs; exact ⟨x, hx, Nat.zero_le _⟩
  | succ n ih =>
   obtain ⟨x, hx, hn⟩ := ih
   obtain ⟨y, hy, hxy⟩ := hp x hx
   exact ⟨y, hy, by have := h y (hk y hy) x hxy; omega⟩
 have bound : ∀ S : List Int, ∃ m, ∀ x ∈ S, rk x < m := by
  intro S
  induction S with
  | nil => exact ⟨0, fun zz h => by cases h⟩
  | cons a S ih =>
   obtain ⟨m, hm⟩ := ih
   refine ⟨max m (rk a + 1), fun x hx => ?_⟩
   rcases List.mem_cons.mp hx with rfl | hx
   ·omega
   ·have := hm x hx; omega
 obtain ⟨m, hm⟩ := bound S
 obtain ⟨x, hx, hmx⟩ := this m
 have := hm x hx
 omega
noncomputable def wt (su : Int → List Int) (x : Int) : Nat := (su x).length + 2
noncomputable def openW (su : Int → List Int) (ks seen : List Int) : Nat := ((ks.filter fun x => !seen.contains x).map (wt su)).sum
noncomputable def frW (su : Int → List Int) (fr : List (Int × Nat)) : Nat := (fr.map fun f => (su f.1).length - f.2 + 1).sum
theorem openW_push {seen : List Int} {x : Int} (hk : x ∈ ks) (hx : x ∉ seen) : openW su ks (seen ++ [x]) + wt su x ≤ openW su ks seen := by
 unfold openW
 have e : (ks.filter fun y => !(seen ++ [x]).contains y) = (ks.filter fun y => !seen.contains y).filter fun y => decide (y ≠ x) := by
  rw [List.filter_filter]
  congr 1; funext y
  by_cases h1 : y ∈ seen <;> by_cases h2 : y = x <;> simp [h1, h2]
 rw [e]
 have hm : x ∈ ks.filter fun y => !seen.contains y := List.mem_filter.mpr ⟨hk, by simpa using hx⟩
 have gen : ∀ l : List Int, x ∈ l → ((l.filter fun y => decide (y ≠ x)).map (wt su)).sum + wt su x ≤ (l.map (wt su)).sum := by
  intro l
  induction l with
  | nil => intro h; cases h
  | cons a l ih =>
   intro h
   have hle : ∀ l : List Int, ((l.filter fun y => decide (y ≠ x)).map (wt su)).sum ≤ (l.map (wt su)).sum := by
    intro l
    induction l with
    | nil => exact Nat.le_refl _
    | cons b l ih2 =>
     by_cases hb : b = x
     ·rw [List.filter_cons_of_neg (by simp [hb])]; simp only [List.map_cons, List.sum_cons]; omega
     ·rw [List.filter_cons_of_pos (by simp [hb])]; simp only [List.map_cons, List.sum_cons]; omega
   by_cases ha : a = x
   ·subst ha
    rw [List.filter_cons_of_neg (by simp)]
    have := hle l
    simp only [List.map_cons, List.sum_cons]; omega
   ·rw [List.filter_cons_of_pos (by simp [ha])]
    have := ih (by rcases List.mem_cons.mp h with e | h; exact absurd e.symm ha; exact h)
    simp only [List.map_cons, List.sum_cons]; omega
 exact gen _ hm
end
inductive Its (h : AH) (sr : Int → Nat) : List Nat → List Nat → List (Int × Nat) → Prop
 | nil : Its h sr [] [] []
 | cons {b t kb kt p : Nat} {x : Int} {bs ts : List Nat} {fr : List (Int × Nat)} : h[b]? = some (.bound "list_iterator.__next__" t, kb) → h[t]? = some (.liter (sr x) p, kt) → Its h sr bs ts fr → Its h sr (b :: bs) (t :: ts) ((x, p) :: fr)
theorem Its.keep {h h' : AH} {sr : Int → Nat} {bs ts : List Nat} {fr : List (Int × Nat)} (i : Its h sr bs ts fr) (hk : ∀ j, j ∈ bs ∨ j ∈ ts → h'[j]? = h[j]?) : Its h' sr bs ts fr := by
 induction i with
 | nil => exact .nil
 | cons hb ht _ ih =>
  refine .cons (by rw [hk _ (.inl List.mem_cons_self)]; exact hb) (by rw [hk _ (.inr List.mem_cons_self)]; exact ht) (ih fun j hj => hk j ?_)
  exact hj.imp (List.mem_cons_of_mem _) (List.mem_cons_of_mem _)
theorem Its.bound {h : AH} {sr : Int → Nat} {bs ts : List Nat} {fr : List (Int × Nat)} (i : Its h sr bs ts fr) : ∀ b ∈ bs, ∃ t k, h[b]? = some (.bound "list_iterator.__next__" t, k) := by
 induction i with
 | nil => intro b h; cases h
 | cons hb ht _ ih =>
  intro b h
  rcases List.mem_cons.mp h with rfl | h
  ·exact ⟨_, _, hb⟩
  ·exact ih b h
theorem Its.len {h : AH} {sr : Int → Nat} {bs ts : List Nat} {fr : List (Int × Nat)} (i : Its h sr bs ts fr) : bs.length = fr.length := by
 induction i with
 | nil => rfl
 | cons _ _ _ ih => simp [ih]
structure FC (hB h : AH) (sr : Int → Nat) (sl : List Int) (il : List Nat) (seen : List Int) (dl : List (Int × AV)) (bs ts : List Nat) (fr : List (Int × Nat)) : Prop where
 pre : hB <+: h
 st : IL h hB.length sl
 it : ∃ k, h[hB.length + 1]? = some (.list (il.map .ref), k)
 se : ∃ k, h[hB.length + 2]? = some (.iset seen, k)
 ns : ∃ k, h[hB.length + 3]? = some (.dict dl, k)
 its : Its h sr bs ts fr
 tsn : ts.Nodup
 lowt : ∀ t ∈ ts, hB.length + 4 ≤ t
 lowb : ∀ b ∈ bs, hB.length + 4 ≤ b
section
variable {hB h : AH} {sr : Int → Nat} {sl : List Int} {il : List Nat} {seen : List Int} {dl : List (Int × AV)} {bs ts : List Nat} {fr : List (Int × Nat)}
theorem FC.its_set (F : FC hB h sr sl il seen dl bs ts fr) {i : Nat} {x : AObj × Nat} (hi : i < hB.length + 4) : Its (h.set i x) sr bs ts fr := F.its.keep fun j hj => set_ne (by
 rcases hj with hj | hj
 ·have := F.lowb j hj; omega
 ·have := F.lowt j hj; omega)
theorem FC.set0 (F : FC hB h sr sl il seen dl bs ts fr) (sl' : List Int) (k : Nat) : FC hB (h.set hB.length (.list (sl'.map .int), k)) sr sl' il seen dl bs ts fr := by
 refine ⟨pre_set F.pre (Nat.le_refl _), ⟨k, set_eq F.st.lt⟩, ?_, ?_, ?_, F.its_set (by omega), F.tsn, F.lowt, F.lowb⟩
 ·obtain ⟨k, e⟩ := F.it; exact ⟨k, by rw [set_ne (by omega)]; exact e⟩
 ·obtain ⟨k, e⟩ := F.se; exact ⟨k, by rw [set_ne (by omega)]; exact e⟩
 ·obtain ⟨k, e⟩ := F.ns; exact ⟨k, by rw [set_ne (by omega)]; exact e⟩
theorem FC.set1 (F : FC hB h sr sl il seen dl bs ts fr) (il' : List Nat) (k : Nat) : FC hB (h.set (hB.length + 1) (.list (il'.map .ref), k)) sr sl il' seen dl bs ts fr := by
 refine ⟨pre_set F.pre (by omega), F.st.set (by omega), ?_, ?_, ?_, F.its_set (by omega), F.tsn, F.lowt, F.lowb⟩
 ·obtain ⟨k', e⟩ := F.it; exact ⟨k, set_eq (lt_of_get e)⟩
 ·obtain ⟨k, e⟩ := F.se; exact ⟨k, by rw [set_ne (by omega)]; exact e⟩
 ·obtain ⟨k, e⟩ := F.ns; exact ⟨k, by rw [set_ne (by omega)]; exact e⟩
theorem FC.set2 (F : FC hB h sr sl il seen dl bs ts fr) (seen' : List Int) (k : Nat) : FC hB (h.set (hB.length + 2) (.iset seen', k)) sr sl il seen' dl bs ts fr := by
 refine ⟨pre_set F.pre (by omega), F.st.set (by omega), ?_, ?_, ?_, F.its_set (by omega), F.tsn, F.lowt, F.lowb⟩
 ·obtain ⟨k, e⟩ := F.it; exact ⟨k, by rw [set_ne (by omega)]; exact e⟩
 ·obtain ⟨k', e⟩ := F.se; exact ⟨k, set_eq (lt_of_get e)⟩
 ·obtain ⟨k, e⟩ := F.ns; exact ⟨k, by rw [set_ne (by omega)]; exact e⟩
theorem FC.set3 (F : FC hB h sr sl il seen dl bs ts fr) (dl' : List (Int × AV)) (k : Nat) : FC hB (h.set (hB.length + 3) (.dict dl', k)) sr sl il seen dl' bs ts fr := by
 refine ⟨pre_set F.pre (by omega), F.st.set (by omega), ?_, ?_, ?_, F.its_set (by omega), F.tsn, F.lowt, F.lowb⟩
 ·obtain ⟨k, e⟩ := F.it; exact ⟨k, by rw [set_ne (by omega)]; exact e⟩
 ·obtain ⟨k, e⟩ := F.se; exact ⟨k, by rw [set_ne (by omega)]; exact e⟩
 ·obtain ⟨k', e⟩ := F.ns; exact ⟨k, set_eq (lt_of_get e)⟩
theorem FC.grow (F : FC hB h sr sl il seen dl bs ts fr) {h' : AH} (p : h <+: h') : FC hB h' sr sl il seen dl bs ts fr := by
 refine ⟨F.pre.trans p, F.st.mono p, ?_, ?_, ?_, ?_, F.tsn, F.lowt, F.lowb⟩
 ·obtain ⟨k, e⟩ := F.it; exact ⟨k, prefix_get p e⟩
 ·obtain ⟨k, e⟩ := F.se; exact ⟨k, prefix_get p e⟩
 ·obtain ⟨k, e⟩ := F.ns; exact ⟨k, prefix_get p e⟩
 ·have : ∀ {bs ts fr}, Its h sr bs ts fr → Its h' sr bs ts fr := by
   intro bs ts fr i
   induction i with
   | nil => exact .nil
   | cons hb ht _ ih => exact .cons (prefix_get p hb) (prefix_get p ht) ih
  exact this F.its
theorem Its.lt {h : AH} {sr : Int → Nat} {bs ts : List Nat} {fr : List (Int × Nat)} (i : Its h sr bs ts fr) : ∀ t ∈ ts, t < h.length := by
 induction i with
 | nil => intro t h; cases h
 | cons hb ht _ ih =>
  intro t hm
  rcases List.mem_cons.mp hm with rfl | hm
  ·exact lt_of_get ht
  ·exact ih t hm
theorem FC.addIt (F : FC hB h sr sl il seen dl bs ts fr) (x : Int) : FC hB (h ++ [(.liter (sr x) 0, 0), (.bound "list_iterator.__next__" h.length, 0)]) sr sl il seen dl ((h.length + 1) :: bs) (h.length :: ts) ((x, 0) :: fr) := by
 have G := F.grow (pre_app h [(.liter (sr x) 0, 0), (.bound "list_iterator.__next__" h.length, 0)])
 obtain ⟨k, e⟩ := F.ns
 have hl := lt_of_get e
 refine ⟨G.pre, G.st, G.it, G.se, G.ns, .cons (kb := 0) (kt := 0) (at_app _ _ 1) (at_app0 _ _) G.its, List.nodup_cons.mpr ⟨fun hm => ?_, F.tsn⟩, fun t ht => ?_, fun b hb => ?_⟩
 ·have := F.its.lt _ hm; omega
 ·rcases List.mem_cons.mp ht with rfl | ht
  ·omega
  ·exact F.lowt t ht
 ·rcases List.mem_cons.mp hb with rfl | hb
  ·omega
  ·exact F.lowb b hb
theorem FC.top {b t p : Nat} {x : Int} (F : FC hB h sr sl il seen dl (b :: bs) (t :: ts) ((x, p) :: fr)) {o : AObj × Nat} : FC hB (h.set t o) sr sl il seen dl bs ts fr := by
 obtain ⟨pre, st, it, se, ns, its, tsn, lowt, lowb⟩ := F
 have htl := lowt t List.mem_cons_self
 have hnd := List.nodup_cons.mp tsn
 refine ⟨pre_set pre (by omega), st.set (by omega), ?_, ?_, ?_, ?_, hnd.2, fun t ht => lowt t (List.mem_cons_of_mem _ ht), fun b hb => lowb b (List.mem_cons_of_mem _ hb)⟩
 ·obtain ⟨k, e⟩ := it; exact ⟨k, by rw [set_ne (by omega)]; exact e⟩
 ·obtain ⟨k, e⟩ := se; exact ⟨k, by rw [set_ne (by omega)]; exact e⟩
 ·obtain ⟨k, e⟩ := ns; exact ⟨k, by rw [set_ne (by omega)]; exact e⟩
 ·cases its with
  | cons hb ht i =>
   refine i.keep fun j hj => set_ne fun e => ?_
   rcases hj with hj | hj
   ·obtain ⟨t', k', e'⟩ := i.bound j hj
    exact ne_of_get ht e' (by simp) e
   ·exact hnd.1 (e ▸ hj)
theorem FC.topGo {b t p k : Nat} {x : Int} (F : FC hB h sr sl il seen dl (b :: bs) (t :: ts) ((x, p) :: fr)) : FC hB (h.set t (.liter (sr x) (p + 1), k)) sr sl il seen dl (b :: bs) (t :: ts) ((x, p + 1) :: fr) := by
 have T := F.top (o := (.liter (sr x) (p + 1), k))
 refine ⟨T.pre, T.st, T.it, T.se, T.ns, ?_, F.tsn, F.lowt, F.lowb⟩
 cases F.its with
 | @cons _ _ kb kt _ _ _ _ _ hb ht i =>
  exact .cons (kb := kb) (kt := k) (by rw [set_ne (ne_of_get ht hb (by simp))]; exact hb) (set_eq (lt_of_get ht)) T.its
end
noncomputable def stk : List (Int × Nat) → List (Int × AV) := List.rec [] fun x fr ih => ih ++ [(x.1, .int fr.length)]
theorem stk_cons (x : Int × Nat) (fr : List (Int × Nat)) : stk (x :: fr) = stk fr ++ [(x.1, .int fr.length)] := rfl
theorem stk_keys (fr : List (Int × Nat)) : (stk fr).map (·.1) = (fr.map (·.1)).reverse := by
 induction fr with
 | nil => rfl
 | cons x fr ih => rw [stk_cons, List.map_append, ih]; exact List.reverse_cons.symm
theorem stk_len (fr : List (Int × Nat)) : (stk fr).length = fr.length := by
 have := congrArg List.length (stk_keys fr); simpa using this
theorem stk_any (fr : List (Int × Nat)) (x : Int) : ((stk fr).any fun e => e.1 == x) = (fr.map (·.1)).contains x := by
 have h1 : ((stk fr).any fun e => e.1 == x) = ((stk fr).map (·.1)).contains x := by
  generalize stk fr = l
  induction l with
  | nil => rfl
  | cons a l ih =>
   simp only [List.any_cons, List.map_cons, List.contains_cons, ih]
   by_cases hh : a.1 = x
   ·simp [hh]
   ·have h1 : (a.1 == x) = false := by simpa using hh
    have h2 : (x == a.1) = false := by simpa using fun e : x = a.1 => hh e.symm
    rw [h1, h2]
 rw [h1, stk_keys]
 by_cases h : x ∈ fr.map (·.1) <;> simp [h] <;> simpa using h
theorem vset_stk {fr : List (Int × Nat)} {x : Int} {v : AV} (hx : x ∉ fr.map (·.1)) : vset (stk fr) x v = stk fr ++ [(x, v)] := by
 unfold vset
 rw [if_neg]
 simp only [List.any_eq_true, decide_eq_true_eq, not_exists, not_and]
 intro e he hh
 have : x ∈ (stk fr).map (·.1) := List.mem_map.mpr ⟨e, he, hh⟩
 rw [stk_keys] at this
 exact hx (List.mem_reverse.mp this)
theorem vdel_stk {fr : List (Int × Nat)} {x : Int} {v : AV} (hx : x ∉ fr.map (·.1)) : vdel (stk fr ++ [(x, v)]) x = stk fr := by
 unfold vdel
 rw [List.filter_append]
 have h1 : (stk fr).filter (fun e => decide (e.1 ≠ x)) = stk fr := by
  rw [List.filter_eq_self]
  intro e he
  simp only [decide_eq_true_eq]
  intro hh
  have : x ∈ (stk fr).map (·.1) := List.mem_map.mpr ⟨e, he, hh⟩
  rw [stk_keys] at this
  exact hx (List.mem_reverse.mp this)
 rw [h1]; simp
theorem vat_stk {fr : List (Int × Nat)} {x : Int} (hx : x ∈ fr.map (·.1)) : ∃ i : Nat, vat (stk fr) x = some (.int i) := by
 have h : ∀ l : List (Int × AV), (∀ e ∈ l, ∃ i : Nat, e.2 = .int i) → x ∈ l.map (·.1) → ∃ i : Nat, vat l x = some (.int i) := by
  intro l hl hm
  unfold vat
  cases hf : l.find? (fun e => decide (e.1 = x)) with
  | none =>
   obtain ⟨e, he, hx⟩ := List.mem_map.mp hm
   have := List.find?_eq_none.mp hf e he
   simp [hx] at this
  | some e =>
   obtain ⟨i, hi⟩ := hl e (List.mem_of_find?_eq_some hf)
   exact ⟨i, by simp [hi]⟩
 refine h _ ?_ (by rw [stk_keys]; exact List.mem_reverse.mpr hx)
 clear hx
 induction fr with
 | nil => intro e he; cases he
 | cons f fr ih =>
  intro e he
  rw [stk_cons] at he
  rcases List.mem_append.mp he with he | he
  ·exact ih e he
  ·exact ⟨fr.length, by rw [List.mem_singleton.mp he]⟩
structure EnvF (e : List (String × AV)) (n D : Nat) : Prop where
 n2i : e.lookup "n2i" = some (.ref D)
 st : e.lookup "stack" = some (.ref n)
 it : e.lookup "itstack" = some (.ref (n + 1))
 se : e.lookup "seen" = some (.ref (n + 2))
 ns : e.lookup "node2stacki" = some (.ref (n + 3))
theorem EnvF.node {e : List (String × AV)} {n D : Nat} (E : EnvF e n D) (v : AV) : EnvF (put "node" v e) n D := by
 refine ⟨?_, ?_, ?_, ?_, ?_⟩
 ·simp! [E.n2i]
 ·simp! [E.st]
 ·simp! [E.it]
 ·simp! [E.se]
 ·simp! [E.ns]
structure Sz (ks seen : List Int) (fr : List (Int × Nat)) : Prop where
 a : fr.length ≤ seen.length
 b : seen.length + (minus ks seen).length ≤ ks.length
structure FS (hB : AH) (ks : List Int) (su : Int → List Int) (sr : Int → Nat) (D : Nat) (t : Option Int) (seen : List Int) (fr : List (Int × Nat)) (e : List (String × AV)) (h : AH) : Prop where
 df : ∃ rk clk, DF ks su seen fr rk clk t
 fc : ∃ bs ts, FC hB h sr (fr.map (·.1)).reverse bs.reverse seen (stk fr) bs ts fr
 sz : Sz ks seen fr
 ev : EnvF e hB.length D
noncomputable def mW (ks : List Int) (su : Int → List Int) (seen : List Int) (fr : List (Int × Nat)) : Nat := openW su ks seen + frW su fr
theorem aIdx_last {h : AH} {r k : Nat} {l : List AV} {v : AV} (e : h[r]? = some (.list (l ++ [v]), k)) (hl : l.length < 1000000) : aIdx (.ref r) (.int (-1)) h = some v := by
 have : idxOf (-1) (l ++ [v]).length = some l.length := by
  unfold idxOf
  rw [if_neg (by decide), List.length_append, List.length_singleton, if_pos ⟨by omega, by omega⟩]
  congr 1; omega
 exact aIdx_at e this (by simp)
theorem callIt {h : AH} {b t kb kt p l kl : Nat} {xs : List Int} (hb : h[b]? = some (.bound "list_iterator.__next__" t, kb)) (ht : h[t]? = some (.liter l p, kt)) (hl : h[l]? = some (.list (xs.map .int), kl)) :
  (∀ y, xs[p]? = some y → aCallB (.ref b) [] h = some (.ok (.int y), h.set t (.liter l (p + 1), kt + 1))) ∧ (xs[p]? = none → aCallB (.ref b) [] h = some (.error "StopIteration", h.set t (.junk, kt + 1))) := by
 have e : aCallB (.ref b) [] h = aStep (.ref t) h := by
  simp! [aCallB, hb, ht]
 rw [e]
 refine ⟨fun y hy => ?_, fun hy => ?_⟩
 ·have : (xs.map AV.int)[p]? = some (.int y) := by rw [List.getElem?_map, hy]; rfl
  rw [aStep_l ht hl, this]; rfl
 ·have : (xs.map AV.int)[p]? = none := by rw [List.getElem?_map, hy]; rfl
  rw [aStep_l ht hl, this]; rfl
theorem aPop_snoc {h : AH} {r k : Nat} {l : List AV} {v : AV} (e : h[r]? = some (.list (l ++ [v]), k)) (hl : l.length < 1000000) : aPop [.ref r] h = some (v, h.set r (.list l, k + 1)) := by
 have h1 : (l ++ [v]).getLast? = some v := by simp
 have h2 : (l ++ [v]).dropLast = l := by simp
 have h3 : (l ++ [v]).length ≤ 1000000 := by rw [List.length_append, List.length_singleton]; omega
 rw [aPop_at e h3 h1, h2]
theorem frW_cons (su : Int → List Int) (x : Int) (p : Nat) (fr : List (Int × Nat)) : frW su ((x, p) :: fr) = (su x).length - p + 1 + frW su fr := by simp [frW]
theorem inner_run {hB : AH} {lo s a D : Nat} {rv : AV} {pa fi : Int} {ks : List Int} {ni sr dd : Int → Nat} {np : Int → Int} {su : Int → List Int} (S : SoC hB lo s a D rv pa fi ks ni sr dd np su) (hcl : ∀ v ∈ ks, ∀ w ∈ su v, w ∈ ks) (hkl : ks.length ≤ 900) {Q : AFlow → AS → Prop} {seen : List Int} {n : Nat}
  (hn : ∀ fr node e h, FS hB ks su sr D (some node) seen fr e h → mW ks su seen fr < n → node ∈ ks → e.lookup "node" = some (.int node) → Q .next ⟨e, h⟩) (he : ∀ e h, FS hB ks su sr D none seen [] e h → Q .brk ⟨e, h⟩) (fr : List (Int × Nat)) (e : List (String × AV)) (h : AH) (F : FS hB ks su sr D none seen fr e h) (hm : mW ks su seen fr ≤ n) :
  wpA (bWhile (bTruth (bVar "stack"))
           (bTry "StopIteration"
            (bSeq (bSetX "node" (bCallB (bSub (bVar "itstack") (bNeg (pure (AV.int 1)))) (pure [])))
             (pure AFlow.brk))
            (bSeq (bDel (bVar "node2stacki") (bMeth "list" aPop (bVar "stack") (pure [])))
             (bExpr (bMeth "list" aPop (bVar "itstack") (pure [])))))
           (pure AFlow.brk)) Q ⟨e, h⟩ := by
 refine wp_while (fun m st => ∃ fr, m = mW ks su seen fr ∧ m ≤ n ∧ FS hB ks su sr D none seen fr st.env st.hp) ?_ (mW ks su seen fr) _ ⟨fr, rfl, hm, F⟩
 rintro m ⟨e, h⟩ zI2
 refine Mine.hold fun gL bk => ?_
 obtain ⟨fr, rfl, hm, F⟩ := zI2
 refine bk ?_; clear bk gL
 simp only at F
 have E := F.ev
 refine Mine.hold fun gL bk => ?_
 obtain ⟨bs, ts, C⟩ := F.fc
 obtain ⟨rk, clk, d⟩ := F.df
 obtain ⟨kst, est⟩ := C.st
 refine bk ?_; clear bk gL
 have sz := F.sz
 have hfl : fr.length ≤ 900 := by have := sz.a; have := sz.b; omega
 cases fr with
 | nil =>
  have hl0 : (([] : List (Int × Nat)).map (·.1)).reverse.length ≤ 1000000 := by simp
  simp! [E.st, aTruth_bool, aTruth_ref, est, List.map_nil, List.reverse_nil, List.isEmpty_nil, Bool.not_true]
  exact he _ _ F
 | cons f fr' =>
  obtain ⟨x, p⟩ := f
  have hx : x ∈ ks := d.sub x (d.frs x (by simp))
  have hxf : x ∉ fr'.map (·.1) := by have := d.nd; simp only [List.map_cons, List.nodup_cons] at this; exact this.1
  cases hits : C.its with
  | @cons b t kb kt _ _ bs' ts' _ hb ht i =>
  refine Mine.hold fun gL bk => ?_
  obtain ⟨kl, el⟩ := (S.suc x hx).mono C.pre
  obtain ⟨c1, c2⟩ := callIt hb ht el
  obtain ⟨kit, eit⟩ := C.it
  refine bk ?_; clear bk gL
  have eit' : h[hB.length + 1]? = some (AObj.list (bs'.reverse.map AV.ref ++ [AV.ref b]), kit) := by rw [eit]; simp
  have lbs : bs'.length = fr'.length := i.len
  simp only [List.length_cons] at hfl
  have hidx := aIdx_last eit' (by rw [List.length_map, List.length_reverse]; omega)
  have est' : h[hB.length]? = some (AObj.list ((fr'.map (fun f : Int × Nat => f.1)).reverse.map AV.int ++ [AV.int x]), kst) := by rw [est]; simp
  have hne : ((fr'.map (fun f : Int × Nat => f.1)).reverse.map AV.int ++ [AV.int x]).isEmpty = false := by simp
  have hlen1 : ((fr'.map (fun f : Int × Nat => f.1)).reverse.map AV.int ++ [AV.int x]).length ≤ 1000000 := by simp; omega
  have hlen2 : fr'.length + 1 ≤ 1000000 := by omega
  simp! [E.st, aTruth_bool, aTruth_ref, est', hne, List.length_reverse, hlen2, Bool.not_false, E.it, Int.reduceNeg, hidx]
  cases hy : (su x)[p]? with
  | some y =>
   simp! [c1 y hy]
   have hyk : y ∈ ks := hcl x hx y (List.mem_of_getElem? hy)
   have hp := (List.getElem?_eq_some_iff.mp hy).1
   have G := C.topGo (k := kt + 1)
   refine hn ((x, p + 1) :: fr') y _ _ ⟨⟨rk, clk, d.next hy⟩, ⟨_, _, G⟩, ⟨sz.a, sz.b⟩, E.node _⟩ ?_ hyk (by simp! [id_eq])
   unfold mW at hm ⊢
   rw [frW_cons] at hm ⊢
   omega
  | none =>
   have C1 := C.top (o := (.junk, kt + 1))
   refine Mine.hold fun gL bk => ?_
   refine Mine.gen (h.set t (.junk, kt + 1)) fun h1 eh1 => ?_
   rw [eh1] at C1
   obtain ⟨k0, e0⟩ := C1.st
   have e0' : h1[hB.length]? = some (AObj.list ((fr'.map (fun f : Int × Nat => f.1)).reverse.map AV.int ++ [AV.int x]), k0) := by rw [e0]; simp
   have p1 := aPop_snoc e0' (by rw [List.length_map, List.length_reverse, List.length_map]; omega)
   have C2 := C1.set0 (fr'.map (fun f : Int × Nat => f.1)).reverse (k0 + 1)
   refine Mine.gen (h1.set hB.length (.list ((fr'.map (fun f : Int × Nat => f.1)).reverse.map AV.int), k0 + 1)) fun h2 eh2 => ?_
   rw [eh2] at C2 p1
   obtain ⟨k3, e3⟩ := C2.ns
   have e3' : h2[hB.length + 3]? = some (.dict (stk fr' ++ [(x, .int fr'.length)]), k3) := e3
   have hd : aDelItem (.ref (hB.length + 3)) (.int x) h2 = some ((), h2.set (hB.length + 3) (.dict (stk fr'), k3 + 1)) := by
    have hv : (vat (stk fr' ++ [(x, .int fr'.length)]) x).isSome = true := by
     obtain ⟨i, hi⟩ := vat_stk (fr := (x, p) :: fr') (x := x) (by simp)
     have : stk fr' ++ [(x, .int fr'.length)] = stk ((x, p) :: fr') := rfl
     rw [this, hi]; rfl
    have hl : (stk fr' ++ [(x, AV.int fr'.length)]).length ≤ 1000000 := by rw [List.length_append, stk_len, List.length_singleton]; omega
    rw [aDelItem_at e3' ⟨hl, hv⟩, vdel_stk hxf]
   have C3 := C2.set3 (stk fr') (k3 + 1)
   refine Mine.gen (h2.set (hB.length + 3) (.dict (stk fr'), k3 + 1)) fun h3 eh3 => ?_
   rw [eh3] at C3 hd
   obtain ⟨k4, e4⟩ := C3.it
   refine bk ?_; clear bk gL
   have e4' : h3[hB.length + 1]? = some (AObj.list (bs'.reverse.map AV.ref ++ [AV.ref b]), k4) := by rw [e4]; simp
   have p2 := aPop_snoc e4' (by rw [List.length_map, List.length_reverse]; omega)
   have C4 := C3.set1 bs'.reverse (k4 + 1)
   simp! [c2 hy, eh1, E.ns, E.st, ty_list e0', p1, hd, E.it, ty_list e4', p2]
   refine ⟨mW ks su seen fr', ?_, fr', rfl, ?_, ⟨⟨_, _, d.pop hy⟩, ⟨_, _, C4⟩, ⟨?_, sz.b⟩, E⟩⟩
   ·unfold mW; rw [frW_cons]; omega
   ·unfold mW at hm ⊢; rw [frW_cons] at hm; omega
   ·have := sz.a; simp only [List.length_cons] at this; omega
theorem pickL_len {α : Type} (xs : List α) (lo hi st : Option Int) : (pickL xs lo hi st).length ≤ xs.length := by
 unfold pickL
 refine Nat.le_trans (List.length_filterMap_le _ _) (sliceRange_length_le _ _ _ _ (fun hc => ?_) fun hc => ?_)
 ·simp only [sliceBounds] at hc ⊢
  simp only [hc, if_true]
  constructor
  ·cases lo with
   | none => simp
   | some i => dsimp only; omega
  ·cases hi with
   | none => simp
   | some i => dsimp only; omega
 ·simp only [sliceBounds] at hc ⊢
  simp only [hc, if_false]
  constructor
  ·cases lo with
   | none => simp
   | some i => dsimp only; omega
  ·cases hi with
   | none => simp
   | some i => dsimp only; omega
theorem findCycle_run {hB : AH} {lo s a D : Nat} {rv : AV} {pa fi : Int} {ks : List Int} {ni sr dd : Int → Nat} {np : Int → Int} {su : Int → List Int} {K : AV → AH → Prop} (S : SoC hB lo s a D rv pa fi ks ni sr dd np su) (hcl : ∀ v ∈ ks, ∀ w ∈ su v, w ∈ ks) (hkl : ks.length ≤ 900)
  (k1 : ∀ h', hB <+: h' → Ranked ks su → K .none h') (k2 : ∀ h' c xs kk, hB <+: h' → Ring ks su → h'[c]? = some (.list xs, kk) → xs ≠ [] → xs.length ≤ 1000000 → K (.ref c) h') : wpH (aFindCycle [.ref s]) K hB := by
 refine wp_def (bs := [("self", .ref s)]) rfl ?_
 unfold findCycle.prog
 obtain ⟨kD, eD⟩ := S.dct
 have lD := lt_of_get eD
 simp! [S.a_n2i, put_nil, put_cons, aSet0, itemsOf, app_old lD, eD]
 rw [List.map_map]
 refine Mine.hold fun gL bk => ?_
 refine Mine.gen (hB ++ [(AObj.list [], 0), (AObj.list [], 0), (AObj.iset [], 0), (AObj.dict [], 0)]) fun H eH => ?_
 refine bk ?_; clear bk gL
 rw [eH]
 refine wp_forLoop (fun items st => ∃ (rest seen : List Int), items = rest.map .int ∧ (∀ x ∈ rest, x ∈ ks) ∧ (∀ x ∈ ks, x ∈ rest ∨ x ∈ seen) ∧ FS hB ks su sr D none seen [] st.env st.hp) ?_ ?_ ?_ _ _ ?_
 rotate_right
 ·refine ⟨ks, [], rfl, fun zz h => h, fun zz h => .inl h, ⟨⟨_, _, DF.start ks su none⟩, ⟨[], [], ?_⟩, ⟨Nat.le_refl _, by simp only [List.length_nil, Nat.zero_add]; exact minus_len ks []⟩, ⟨by simp! [id_eq], by simp! [id_eq], by simp! [id_eq], by simp! [id_eq], by simp! [id_eq]⟩⟩⟩
  exact ⟨eH ▸ pre_app _ _, ⟨0, eH ▸ at_app0 _ _⟩, ⟨0, eH ▸ at_app _ _ 1⟩, ⟨0, eH ▸ at_app _ _ 2⟩, ⟨0, eH ▸ at_app _ _ 3⟩, .nil, List.nodup_nil, fun zz h => (by cases h), fun zz h => (by cases h)⟩
 ·rintro items ⟨e, h⟩ zI2 g hg
  refine Mine.hold fun gL bk => ?_
  obtain ⟨rest, seen, hi, hr, hall, F⟩ := zI2
  simp only [List.mem_singleton] at hg
  subst hg
  obtain ⟨bs, ts, C⟩ := F.fc
  refine bk ?_; clear bk gL
  exact prefix_get C.pre eD
 ·rintro x items ⟨e, h⟩ zI3
  refine Mine.hold fun gL bk => ?_
  obtain ⟨rest, seen, hi, hr, hall, F⟩ := zI3
  refine bk ?_; clear bk gL
  cases rest with
  | nil => cases hi
  | cons x0 rest =>
  simp only [List.map_cons, List.cons.injEq] at hi
  obtain ⟨rfl, rfl⟩ := hi
  simp only at F
  have E := F.ev
  refine Mine.hold fun gL bk => ?_
  obtain ⟨bs, ts, C⟩ := F.fc
  obtain ⟨kse, ese⟩ := C.se
  refine bk ?_; clear bk gL
  simp! [E.se, aMem, aMemL, ese]
  by_cases hx : x0 ∈ seen
  ·have hc : seen.contains x0 = true := by simpa using hx
   simp! [hc]
   refine ⟨rest, seen, rfl, fun x h => hr x (List.mem_cons_of_mem _ h), fun x h => ?_, ⟨F.df, F.fc, F.sz, F.ev.node _⟩⟩
   rcases hall x h with h | h
   ·rcases List.mem_cons.mp h with rfl | h
    ·exact .inr hx
    ·exact .inl h
   ·exact .inr h
  have hc : seen.contains x0 = false := by simpa using hx
  simp! [hc]
  refine wp_while (fun n st => ∃ seen' fr node, n = mW ks su seen' fr ∧ node ∈ ks ∧ FS hB ks su sr D (some node) seen' fr st.env st.hp ∧ st.env.lookup "node" = some (.int node) ∧ (∀ x ∈ seen, x ∈ seen') ∧ (node = x0 ∨ x0 ∈ seen')) ?_ (mW ks su seen []) _ ?_
  rotate_left
  ·obtain ⟨rk, clk, d⟩ := F.df
   exact ⟨seen, [], x0, rfl, hr x0 List.mem_cons_self, ⟨⟨rk, clk, d.any _⟩, F.fc, F.sz, F.ev.node _⟩, by simp! [id_eq], fun zz h => h, .inl rfl⟩
  rintro n ⟨e1, h1⟩ zI2
  refine Mine.hold fun gL bk => ?_
  obtain ⟨seen1, fr1, node, rfl, hnk, F1, en1, hs1, hx1⟩ := zI2
  refine bk ?_; clear bk gL
  simp only at F1 en1
  have E1 := F1.ev
  refine Mine.hold fun gL bk => ?_
  obtain ⟨bs1, ts1, C1⟩ := F1.fc
  obtain ⟨rk1, clk1, d1⟩ := F1.df
  obtain ⟨kse1, ese1⟩ := C1.se
  obtain ⟨kst1, est1⟩ := C1.st
  obtain ⟨kns1, ens1⟩ := C1.ns
  refine bk ?_; clear bk gL
  have sz1 := F1.sz
  have hfl1 : fr1.length ≤ 900 := by have := sz1.a; have := sz1.b; omega
  simp! [aTruth_bool, aTruth_ref, E1.se, en1, aMem, aMemL, ese1]
  by_cases hm : node ∈ seen1
  ·have hc1 : seen1.contains node = true := by simpa using hm
   simp! [hc1, en1, E1.ns, aMem, aMemL, ens1, stk_any]
   by_cases hf : node ∈ fr1.map (fun f : Int × Nat => f.1)
   ·have hc2 : (fr1.map (fun f : Int × Nat => f.1)).contains node = true := by simpa using hf
    refine Mine.hold fun gL bk => ?_
    obtain ⟨i, hi⟩ := vat_stk hf
    have hidx : aIdx (.ref (hB.length + 3)) (.int node) h1 = some (.int i) := aIdx_key ens1 hi
    have hl1 : ((fr1.map (fun f : Int × Nat => f.1)).reverse.map AV.int).length ≤ 1000000 := by simp; omega
    have hsl : aSlice (.ref hB.length) (some i) none none h1 = aNew (.list (pickL ((fr1.map (fun f : Int × Nat => f.1)).reverse.map AV.int) (some i) none none)) h1 := aSlice_at est1 hl1 (by decide)
    have hpl := pickL_len ((fr1.map (fun f : Int × Nat => f.1)).reverse.map AV.int) (some i) none none
    refine Mine.gen (pickL ((fr1.map (fun f : Int × Nat => f.1)).reverse.map AV.int) (some i) none none) fun pk epk => ?_
    refine bk ?_; clear bk gL
    rw [epk] at hsl hpl
    have hpl' : pk.length ≤ 900 := by simp at hpl; omega
    have hb : aBin .add (.ref h1.length) (.ref (h1.length + 1)) (h1 ++ [(.list pk, 0), (.list [.int node], 0)]) = aNew (.list (pk ++ [.int node])) (h1 ++ [(.list pk, 0), (.list [.int node], 0)]) := aBin_lists (at_app0 _ _) (at_app _ _ 1) (by simp; omega)
    simp! [hc2, E1.st, E1.ns, en1, hidx, partOf_none, partOf_int, hsl, hb]
    exact k2 _ _ (pk ++ [.int node]) 0 (C1.pre.trans (pre_app _ _)) (d1.ring hf) (at_app _ _ 2) (by simp) (by simp; omega)
   ·have hc2 : (fr1.map (fun f : Int × Nat => f.1)).contains node = false := by simpa using hf
    simp! [hc2]
    refine inner_run S hcl hkl (n := mW ks su seen1 fr1) (fun fr2 node2 e2 h2 F2 hlt hk2 hn2 => ?_) (fun e2 h2 F2 => ?_) fr1 e1 h1 ⟨⟨rk1, clk1, d1.black hm hf⟩, ⟨bs1, ts1, C1⟩, sz1, E1⟩ (Nat.le_refl _)
    ·simp! [id_eq]
     exact ⟨_, hlt, seen1, fr2, node2, rfl, hk2, F2, hn2, hs1, .inr (hx1.elim (fun e => e ▸ hm) id)⟩
    ·simp! [id_eq]
     refine ⟨rest, seen1, rfl, fun x h => hr x (List.mem_cons_of_mem _ h), fun x h => ?_, F2⟩
     rcases hall x h with h | h
     ·rcases List.mem_cons.mp h with rfl | h
      ·exact .inr (hx1.elim (fun e => e ▸ hm) id)
      ·exact .inl h
     ·exact .inr (hs1 x h)
  ·have hc1 : seen1.contains node = false := by simpa using hm
   have hfx : node ∉ fr1.map (fun f : Int × Nat => f.1) := fun h => hm (d1.frs node h)
   have hsl1 : seen1.length < 1000 := by have := sz1.b; omega
   have C2 := C1.set2 (seen1 ++ [node]) (kse1 + 1)
   refine Mine.hold fun gL bk => ?_
   refine Mine.gen (h1.set (hB.length + 2) (.iset (seen1 ++ [node]), kse1 + 1)) fun h2 eh2 => ?_
   rw [eh2] at C2
   have hadd : aAdd [.ref (hB.length + 2), .int node] h1 = some (.none, h2) := by
    rw [aAdd_at ese1 hsl1, if_neg (by rw [hc1]; exact Bool.false_ne_true), eh2]
   have Sg := S.grow C2.pre
   obtain ⟨kD2, eD2⟩ := Sg.dct
   obtain ⟨kl, el⟩ := Sg.suc node hnk
   have hit : aIter [.ref (sr node)] h2 = aNew (.liter (sr node) 0) h2 := aIter_at el
   have C3 := C2.addIt node
   refine Mine.gen (h2 ++ [(AObj.liter (sr node) 0, 0), (.bound "list_iterator.__next__" h2.length, 0)]) fun h3 eh3 => ?_
   rw [eh3] at C3
   obtain ⟨k4, e4⟩ := C3.it
   have lb : bs1.length = fr1.length := C1.its.len
   have hl4 : bs1.length ≤ 1000000 := by omega
   have C4 := C3.set1 (bs1.reverse ++ [h2.length + 1]) (k4 + 1)
   refine Mine.gen (h3.set (hB.length + 1) (.list ((bs1.reverse ++ [h2.length + 1]).map .ref), k4 + 1)) fun h4 eh4 => ?_
   rw [eh4] at C4
   have happ : aAppend [.ref (hB.length + 1), .ref (h2.length + 1)] h3 = some (.none, h4) := by
    have : (bs1.reverse.map AV.ref).length ≤ 1000000 := by simp; omega
    rw [aAppend_at e4 this, ← eh4, List.map_append]; rfl
   obtain ⟨k5, e5⟩ := C4.st
   have hlen : aLen [.ref hB.length] h4 = some (.int fr1.length, h4) := by
    have : ((fr1.map (fun f : Int × Nat => f.1)).reverse.map AV.int).length ≤ 1000000 := by simp; omega
    rw [aLen_at e5 this]; simp
   obtain ⟨k6, e6⟩ := C4.ns
   have C5 := C4.set3 (stk ((node, 0) :: fr1)) (k6 + 1)
   refine Mine.gen (h4.set (hB.length + 3) (.dict (stk ((node, 0) :: fr1)), k6 + 1)) fun h5 eh5 => ?_
   rw [eh5] at C5
   have hset : aSetItem (.ref (hB.length + 3)) (.int node) (.int fr1.length) h4 = some ((), h5) := by
    have : (stk fr1).length ≤ 1000000 := by rw [stk_len]; omega
    rw [aSetItem_at e6 this, vset_stk hfx, ← eh5]; rfl
   obtain ⟨k7, e7⟩ := C5.st
   have C6 := C5.set0 ((fr1.map (fun f : Int × Nat => f.1)).reverse ++ [node]) (k7 + 1)
   refine Mine.gen (h5.set hB.length (.list (((fr1.map (fun f : Int × Nat => f.1)).reverse ++ [node]).map .int), k7 + 1)) fun h6 eh6 => ?_
   refine bk ?_; clear bk gL
   rw [eh6] at C6
   have happ2 : aAppend [.ref hB.length, .int node] h5 = some (.none, h6) := by
    have : ((fr1.map (fun f : Int × Nat => f.1)).reverse.map AV.int).length ≤ 1000000 := by simp; omega
    rw [aAppend_at e7 this, ← eh6, List.map_append]; rfl
   have tyse : tyOf (.ref (hB.length + 2)) h1 = some "set" := ty_set ese1
   have hwr : aWrap "__next__" (.ref h2.length) (h2 ++ [(AObj.liter (sr node) 0, 0)]) = aNew (.bound "list_iterator.__next__" h2.length) (h2 ++ [(AObj.liter (sr node) 0, 0)]) := by
    simp! [aWrap]
   simp! [hc1, E1.se, en1, tyse, hadd, E1.it, ty_list e4, E1.n2i, aIdx_dict eD2 hnk, Sg.n_su hnk, hit, hwr, eh3, happ, E1.st, hlen, E1.ns, hset, ty_list e7, happ2]
   have ty2 : tyOf (.ref (hB.length + 1)) h2 = some "list" := by obtain ⟨k, e⟩ := C2.it; exact ty_list e
   refine ⟨ty2, ?_⟩
   have hpu := openW_push hnk hm (su := su)
   have hml : (minus ks (seen1 ++ [node])).length < (minus ks seen1).length := minus_less (fun x hx => by rw [List.mem_singleton.mp hx]; exact ⟨hnk, hm⟩) (by simp)
   have hmW : mW ks su (seen1 ++ [node]) ((node, 0) :: fr1) < mW ks su seen1 fr1 := by
    unfold mW; rw [frW_cons]; unfold wt at hpu; omega
   have szn : Sz ks (seen1 ++ [node]) ((node, 0) :: fr1) := by
    have := sz1.a; have := sz1.b
    refine ⟨?_, ?_⟩
    ·simp only [List.length_append, List.length_cons, List.length_nil]; omega
    ·simp only [List.length_append, List.length_cons, List.length_nil]; omega
   have C6' : FC hB h6 sr (((node, 0) :: fr1).map (·.1)).reverse ((h2.length + 1) :: bs1).reverse (seen1 ++ [node]) (stk ((node, 0) :: fr1)) ((h2.length + 1) :: bs1) (h2.length :: ts1) ((node, 0) :: fr1) := by
    rw [List.map_cons, List.reverse_cons, List.reverse_cons]; exact C6
   have hx2 : x0 ∈ seen1 ++ [node] := hx1.elim (fun e => by rw [e]; simp) fun h => List.mem_append_left _ h
   have hs2 : ∀ x ∈ seen, x ∈ seen1 ++ [node] := fun x h => List.mem_append_left _ (hs1 x h)
   refine inner_run S hcl hkl (n := mW ks su seen1 fr1) (fun fr2 node2 e2 hh F2 hlt hk2 hn2 => ?_) (fun e2 hh F2 => ?_) ((node, 0) :: fr1) e1 h6 ⟨⟨rk1, clk1, d1.push hm hnk⟩, ⟨_, _, C6'⟩, szn, E1⟩ (Nat.le_of_lt hmW)
   ·simp! [id_eq]
    exact ⟨_, hlt, seen1 ++ [node], fr2, node2, rfl, hk2, F2, hn2, hs2, .inr hx2⟩
   ·simp! [id_eq]
    refine ⟨rest, seen1 ++ [node], rfl, fun x h => hr x (List.mem_cons_of_mem _ h), fun x h => ?_, F2⟩
    rcases hall x h with h | h
    ·rcases List.mem_cons.mp h with rfl | h
     ·exact .inr hx2
     ·exact .inl h
    ·exact .inr (hs2 x h)
 ·rintro ⟨e, h⟩ zI1
  refine Mine.hold fun gL bk => ?_
  obtain ⟨rest, seen, hi, hr, hall, F⟩ := zI1
  have hn : rest = [] := by simpa using hi.symm
  subst hn
  obtain ⟨rk, clk, d⟩ := F.df
  obtain ⟨bs, ts, C⟩ := F.fc
  refine bk ?_; clear bk gL
  simp! [id_eq]
  exact k1 h C.pre (d.ranked fun x hx => (hall x hx).resolve_left (by simp))
noncomputable def rdyOf (ks : List Int) (np : Int → Int) : List Int := ks.filter fun v => decide (np v = 0)
theorem prepare_run {h hb : AH} {lo s a D : Nat} {pa fi : Int} {g : Gr} {K : Except String AV → AH → Prop} (hS : SoG h lo s a D .none pa fi g) (pb : hb <+: h) (hbl : hb.length ≤ lo) (hlo : lo ≤ h.length) (hcl : ∀ v ∈ g.ks, ∀ w ∈ g.su v, w ∈ g.ks) (hkl : g.ks.length ≤ 900)
  (k : ∀ h' R ni sr dd r, So2 h' lo s a D R g.ks ni sr dd g.np g.su (rdyOf g.ks g.np) → hb <+: h' → lo ≤ R → ((r = .ok .none ∧ Ranked g.ks g.su) ∨ (r = .error "CycleError" ∧ Ring g.ks g.su)) → K r h') : wpH (aPrepare [.ref s]) K h := by
 refine wp_defX (bs := [("self", .ref s)]) rfl ?_
 unfold prepare.prog
 obtain ⟨_, ni, sr, dd, S⟩ := hS
 obtain ⟨kD, eD⟩ := S.dct
 have lD := lt_of_get eD
 simp! [S.a_rn (.inl rfl), Bool.not_true, S.a_n2i, ty_dict eD, aView, eD, viewOf, app_old lD]
 rw [List.map_map]
 have S1 := S.grow (pre_app h [(AObj.dview "dict_values" D, 0)])
 refine Mine.gen (h ++ [(AObj.dview "dict_values" D, 0)]) fun H1 eH1 => ?_
 rw [eH1] at S1 ⊢
 have p1 : h <+: H1 := eH1 ▸ pre_app _ _
 refine comp_filter (β := Int) (inj := fun v => .ref (ni v)) (p := fun v => decide (g.np v = 0)) (out := .int) (xs := g.ks) (hg := by simp [prefix_get p1 eD]) (hl := by omega) ?_ ?_
 ·intro v hv e' h' he' p'
  have S' := S1.grow p'
  simp! [S'.n_np hv, aEq_int]
  by_cases hz : g.np v = 0
  ·simp! [hz, decide_true, S'.n_node hv]
   exact ⟨rfl, he'.put (by decide), p'⟩
  ·simp! [hz, decide_false, Bool.false_eq_true]
   exact ⟨rfl, he'.put (by decide), p'⟩
 intro h2 p2
 refine Mine.gen (rdyOf g.ks g.np) fun rdy erdy => ?_
 have erdy' : (g.ks.filter fun v => decide (g.np v = 0)) = rdy := erdy
 rw [erdy']
 rw [erdy] at k
 refine Mine.gen (h2 ++ [(AObj.list (rdy.map AV.int), 0)]) fun H2 eH2 => ?_
 have q2 : H1 <+: H2 := eH2 ▸ pre_app' p2 _
 have S2 := S1.grow q2
 have iR : IL H2 h2.length rdy := ⟨0, eH2 ▸ at_app0 _ _⟩
 obtain ⟨h3, e3, S3, same3, l3, kl3⟩ := S2.set_at (n := "_ready_nodes") (x := .ref h2.length) (rv' := .ref h2.length) (pa' := pa) (fi' := fi) ix_rn (by simp [put_nil, put_cons])
 have hfe : ownM "TopologicalSorter" "_find_cycle" (.ref s) h3 = some () := S3.own (by decide) (by decide) (by decide) (by decide)
 have lp := p2.length_le
 have lp1 := p1.length_le
 have lq2 := q2.length_le
 have iR3 : IL h3 h2.length rdy := by
  obtain ⟨kR, eR⟩ := iR
  exact ⟨kR, by rw [same3 _ (kl3 _ _ _ eR)]; exact eR⟩
 have pb3 : hb <+: h3 := pre_same ((pb.trans p1).trans q2) fun i hi => same3 i (by have := S.low.2.1; omega)
 have So3 : So2 h3 lo s a D h2.length g.ks ni sr dd g.np g.su rdy := by
  refine ⟨⟨pa, fi, S3⟩, iR3, fun v hv => ?_, by omega, fun x hx => ?_⟩
  ·have := (S1.suc v hv).lt; omega
  ·rw [← erdy] at hx; exact (List.mem_filter.mp hx).1
 simp! [eH2, e3, hfe]
 refine findCycle_run S3 hcl hkl (fun h4 p4 rk => ?_) (fun h4 c xs kk p4 rg ec hne hl => ?_)
 ·simp! [aTruth_bool, aTruth_ref]
  exact k h4 _ _ _ _ _ (So3.grow p4) (pb3.trans p4) (by omega) (.inl ⟨rfl, rk⟩)
 ·have hie : xs.isEmpty = false := by cases xs <;> simp_all
  simp! [aTruth_bool, aTruth_ref, ec, hl, hie, Bool.not_false]
  exact k h4 _ _ _ _ _ (So3.grow p4) (pb3.trans p4) (by omega) (.inr ⟨rfl, rg⟩)
theorem dec_fold : ∀ (T : List Int) (np : Int → Int) (rdy : List Int), (∀ w ∈ T, (T.count w : Int) ≤ np w) →
  (∀ w, (T.foldl decS (np, rdy)).1 w = np w - T.count w) ∧ ∃ zs, (T.foldl decS (np, rdy)).2 = rdy ++ zs ∧ zs.Nodup ∧ ∀ w, w ∈ zs ↔ (w ∈ T ∧ np w = T.count w)
 | [], np, rdy, _ => ⟨fun w => by simp, [], by simp, List.nodup_nil, fun w => by simp⟩
 | w0 :: T, np, rdy, H => by
  have H' : ∀ w ∈ T, (T.count w : Int) ≤ upd np w0 (np w0 - 1) w := fun w hw => by
   have h := H w (List.mem_cons_of_mem _ hw)
   rw [List.count_cons] at h
   by_cases e : w = w0
   ·subst e; rw [upd_eq]; simp at h; omega
   ·rw [upd_ne _ _ e]
    have : (w0 == w) = false := by simpa using fun q : w0 = w => e q.symm
    rw [this] at h; simpa using h
  refine Mine.hold fun gL bk => ?_
  obtain ⟨h1, zs, h2, h3, h4⟩ := dec_fold T (upd np w0 (np w0 - 1)) (if np w0 - 1 = 0 then rdy ++ [w0] else rdy) H'
  refine bk ?_; clear bk gL
  have hf : (w0 :: T).foldl decS (np, rdy) = T.foldl decS (upd np w0 (np w0 - 1), if np w0 - 1 = 0 then rdy ++ [w0] else rdy) := rfl
  rw [hf]
  refine ⟨fun w => ?_, ?_⟩
  ·rw [h1, List.count_cons]
   by_cases e : w = w0
   ·subst e; rw [upd_eq]; simp; omega
   ·rw [upd_ne _ _ e]
    have : (w0 == w) = false := by simpa using fun q : w0 = w => e q.symm
    rw [this]; simp
  ·have key : ∀ w, w ≠ w0 → (w ∈ zs ↔ w ∈ w0 :: T ∧ np w = ((w0 :: T).count w : Int)) := fun w hw => by
    have : (w0 == w) = false := by simpa using fun q : w0 = w => hw q.symm
    rw [h4, upd_ne _ _ hw, List.count_cons, this, List.mem_cons]
    simp [hw]
   have cw : ((w0 :: T).count w0 : Int) = T.count w0 + 1 := by rw [List.count_cons]; simp
   by_cases hz : np w0 - 1 = 0
   ·rw [if_pos hz] at h2
    have hnT : w0 ∉ T := fun hm => by
     have := H' w0 hm
     rw [upd_eq, hz] at this
     have := List.count_pos_iff.mpr hm
     omega
    have hc0 : T.count w0 = 0 := List.count_eq_zero.mpr hnT
    have hnz : w0 ∉ zs := fun hm => hnT ((h4 w0).mp hm).1
    refine ⟨w0 :: zs, by rw [if_pos hz, h2, List.append_assoc]; rfl, List.nodup_cons.mpr ⟨hnz, h3⟩, fun w => ?_⟩
    by_cases e : w = w0
    ·subst e; rw [cw, hc0]; simp; omega
    ·rw [List.mem_cons, ← key w e]; simp [e]
   ·rw [if_neg hz] at h2
    refine ⟨zs, by rw [if_neg hz]; exact h2, h3, fun w => ?_⟩
    by_cases e : w = w0
    ·subst e
     rw [h4, upd_eq, cw]
     constructor
     ·rintro ⟨a, b⟩; exact ⟨List.mem_cons_self, by omega⟩
     ·rintro ⟨a, b⟩
      refine ⟨?_, by omega⟩
      apply Classical.byContradiction
      intro hn
      have hc0 : T.count w = 0 := List.count_eq_zero.mpr hn
      omega
    ·exact key w e
theorem done_fold (su : Int → List Int) : ∀ (W : List Int) (np : Int → Int) (rdy : List Int), W.Nodup → (∀ v ∈ W, ∀ u ∈ W, u ∉ su v) → (∀ v ∈ W, np v = -1) → (∀ w ∈ W.flatMap su, ((W.flatMap su).count w : Int) ≤ np w) →
  OkDone su (np, rdy) W ∧ (∀ w, (W.foldl (doneS su) (np, rdy)).1 w = if w ∈ W then -2 else np w - (W.flatMap su).count w) ∧ ∃ zs, (W.foldl (doneS su) (np, rdy)).2 = rdy ++ zs ∧ zs.Nodup ∧ ∀ w, w ∈ zs ↔ (w ∈ W.flatMap su ∧ np w = (W.flatMap su).count w)
 | [], np, rdy, _, _, _, _ => ⟨trivial, fun w => by simp, [], by simp, List.nodup_nil, fun w => by simp⟩
 | v :: W, np, rdy, hnd, hds, hm1, H => by
  obtain ⟨hvW, hndW⟩ := List.nodup_cons.mp hnd
  have hT : (v :: W).flatMap su = su v ++ W.flatMap su := List.flatMap_cons
  rw [hT] at H ⊢
  have hvs : v ∉ su v := hds v List.mem_cons_self v List.mem_cons_self
  have hWs : ∀ u ∈ W, u ∉ su v := fun u hu => hds v List.mem_cons_self u (List.mem_cons_of_mem _ hu)
  have hvF : v ∉ W.flatMap su := fun h => by
   obtain ⟨u, hu, hvu⟩ := List.mem_flatMap.mp h
   exact hds u (List.mem_cons_of_mem _ hu) v List.mem_cons_self hvu
  have hWF : ∀ u ∈ W, u ∉ W.flatMap su := fun u hu h => by
   obtain ⟨u', hu', huu⟩ := List.mem_flatMap.mp h
   exact hds u' (List.mem_cons_of_mem _ hu') u (List.mem_cons_of_mem _ hu) huu
  have Hs : ∀ w ∈ su v, ((su v).count w : Int) ≤ upd np v (-2) w := fun w hw => by
   have := H w (List.mem_append_left _ hw)
   rw [List.count_append] at this
   rw [upd_ne _ _ (fun e : w = v => hvs (e ▸ hw))]; omega
  refine Mine.hold fun gL bk => ?_
  obtain ⟨a1, zs1, a2, a3, a4⟩ := dec_fold (su v) (upd np v (-2)) rdy Hs
  refine Mine.gen ((doneS su (np, rdy) v).1) fun np1 enp1 => ?_
  have hd : doneS su (np, rdy) v = (np1, rdy ++ zs1) := by
   rw [← enp1, ← a2]; rfl
  have a1' : ∀ w, np1 w = upd np v (-2) w - (su v).count w := fun w => by rw [← enp1]; exact a1 w
  have b1 : ∀ w ∈ W.flatMap su, ((W.flatMap su).count w : Int) ≤ np1 w := fun w hw => by
   have := H w (List.mem_append_right _ hw)
   rw [List.count_append] at this
   rw [a1', upd_ne _ _ (fun e : w = v => hvF (e ▸ hw))]; omega
  obtain ⟨c1, c2, zs2, c3, c4, c5⟩ := done_fold su W np1 (rdy ++ zs1) hndW (fun x hx u hu => hds x (List.mem_cons_of_mem _ hx) u (List.mem_cons_of_mem _ hu)) (fun u hu => by
   rw [a1', upd_ne _ _ (fun e : u = v => hvW (e ▸ hu)), List.count_eq_zero.mpr (hWs u hu)]
   have := hm1 u (List.mem_cons_of_mem _ hu); omega) b1
  refine bk ?_; clear bk gL
  refine ⟨⟨hm1 v List.mem_cons_self, by rw [hd]; exact c1⟩, fun w => ?_, zs1 ++ zs2, ?_, ?_, fun w => ?_⟩
  ·rw [List.foldl_cons, hd, c2, a1', List.count_append]
   by_cases e : w = v
   ·subst e
    rw [if_neg hvW, if_pos List.mem_cons_self, upd_eq, List.count_eq_zero.mpr hvs, List.count_eq_zero.mpr hvF]; rfl
   ·rw [upd_ne _ _ e]
    by_cases hw : w ∈ W
    ·rw [if_pos hw, if_pos (List.mem_cons_of_mem _ hw)]
    ·rw [if_neg hw, if_neg (by simp [e, hw])]; omega
  ·rw [List.foldl_cons, hd, c3, List.append_assoc]
  ·refine List.nodup_append.mpr ⟨a3, c4, fun x hx y hy e => ?_⟩
   refine Mine.hold fun gL bk => ?_
   subst e
   obtain ⟨p1, p2⟩ := (a4 x).mp hx
   obtain ⟨q1, q2⟩ := (c5 x).mp hy
   refine bk ?_; clear bk gL
   rw [a1', p2] at q2
   have := List.count_pos_iff.mpr q1
   omega
  ·rw [List.mem_append, a4, c5, List.mem_append, List.count_append, a1']
   constructor
   ·rintro (⟨p1, p2⟩ | ⟨q1, q2⟩)
    ·have hne : w ≠ v := fun e => hvs (e ▸ p1)
     rw [upd_ne _ _ hne] at p2
     refine ⟨.inl p1, ?_⟩
     have := H w (List.mem_append_left _ p1)
     rw [List.count_append] at this
     omega
    ·have hne : w ≠ v := fun e => hvF (e ▸ q1)
     rw [upd_ne _ _ hne] at q2
     exact ⟨.inr q1, by omega⟩
   ·rintro ⟨p, q⟩
    by_cases hF : w ∈ W.flatMap su
    ·have hne : w ≠ v := fun e => hvF (e ▸ hF)
     exact .inr ⟨hF, by rw [upd_ne _ _ hne]; omega⟩
    ·have p1 := p.resolve_right hF
     have hne : w ≠ v := fun e => hvs (e ▸ p1)
     rw [List.count_eq_zero.mpr hF] at q
     exact .inl ⟨p1, by rw [upd_ne _ _ hne]; omega⟩
theorem addG_np (node : Int) : ∀ (preds : List Int) (g : Gr), (preds.foldl (addP node) g).np = g.np
 | [], _ => rfl
 | p :: ps, g => addG_np node ps (addP node g p)
theorem addG_ks (node : Int) : ∀ (preds : List Int) (g : Gr) (x : Int), x ∈ (preds.foldl (addP node) g).ks ↔ x ∈ g.ks ∨ x ∈ preds
 | [], g, x => by simp
 | p :: ps, g, x => by
  rw [List.foldl_cons, addG_ks node ps]
  simp only [addP, mem_addK, List.mem_cons]
  constructor
  ·rintro ((h | h) | h)
   ·exact .inl h
   ·exact .inr (.inl h)
   ·exact .inr (.inr h)
  ·rintro (h | h | h)
   ·exact .inl (.inl h)
   ·exact .inl (.inr h)
   ·exact .inr h
theorem addG_su (node : Int) : ∀ (preds : List Int) (g : Gr) (u w : Int), ((preds.foldl (addP node) g).su u).count w = (g.su u).count w + if w = node then preds.count u else 0
 | [], g, u, w => by simp
 | p :: ps, g, u, w => by
  rw [List.foldl_cons, addG_su node ps, List.count_cons]
  simp only [addP]
  by_cases e : u = p
  ·subst e
   rw [upd_eq, List.count_append]
   by_cases hw : w = node
   ·subst hw; simp; omega
   ·have : (node == w) = false := by simpa using fun q : node = w => hw q.symm
    simp [List.count_cons, hw, this]
  ·rw [upd_ne _ _ e]
   have : (p == u) = false := by simpa using fun q : p = u => e q.symm
   rw [this]; simp
structure Told (live : List Int) (nd : Int → List Int) (g : Gr) : Prop where
 np : ∀ v, g.np v = if v ∈ live then (nd v).length else 0
 ks : ∀ x, x ∈ g.ks ↔ x ∈ live ∨ ∃ v ∈ live, x ∈ nd v
 su : ∀ u w, (g.su u).count w = if w ∈ live then (nd w).count u else 0
theorem initG_told (nd : Int → List Int) : ∀ (rest dn : List Int) (g : Gr), (dn ++ rest).Nodup → Told dn nd g → Told (dn ++ rest) nd (rest.foldl (fun g v => addG g v (nd v)) g)
 | [], dn, g, _, t => by simpa using t
 | v :: rest, dn, g, hn, t => by
  have e : dn ++ v :: rest = (dn ++ [v]) ++ rest := by simp
  have hv : v ∉ dn := by
   rw [e, List.nodup_append] at hn
   have := hn.1
   rw [List.nodup_append] at this
   exact fun h => this.2.2 v h v (by simp) rfl
  rw [e] at hn ⊢
  refine initG_told nd rest (dn ++ [v]) (addG g v (nd v)) hn ⟨fun w => ?_, fun x => ?_, fun u w => ?_⟩
  ·unfold addG
   rw [addG_np]
   simp only [upd]
   by_cases hw : w = v
   ·subst hw
    rw [if_pos rfl, t.np, if_neg hv, if_pos (by simp)]; simp
   ·rw [if_neg hw, t.np]
    simp [hw]
  ·unfold addG
   rw [addG_ks, mem_addK, t.ks]
   simp only [List.mem_append, List.mem_singleton]
   constructor
   ·rintro (((h | ⟨y, hy, hx⟩) | h) | h)
    ·exact .inl (.inl h)
    ·exact .inr ⟨y, .inl hy, hx⟩
    ·exact .inl (.inr h)
    ·exact .inr ⟨v, .inr rfl, h⟩
   ·rintro ((h | h) | ⟨y, hy | rfl, hx⟩)
    ·exact .inl (.inl (.inl h))
    ·exact .inl (.inr h)
    ·exact .inl (.inl (.inr ⟨y, hy, hx⟩))
    ·exact .inr hx
  ·unfold addG
   rw [addG_su]
   simp only [t.su, List.mem_append, List.mem_singleton]
   by_cases hw : w = v
   ·subst hw; simp [hv]
   ·simp [hw]
theorem initG_is {live : List Int} (nd : Int → List Int) (hn : live.Nodup) : Told live nd (initG live nd) := by
 have := initG_told nd live [] g0 (by simpa using hn) ⟨fun v => by simp [g0], fun x => by simp [g0], fun u w => by simp [g0]⟩
 rw [List.nil_append] at this; exact this
noncomputable def b2n (b : Bool) : Nat := if b = true then 1 else 0
theorem filter_split {α : Type} (p q r : α → Bool) : ∀ l : List α, (∀ x ∈ l, b2n (p x) = b2n (q x) + b2n (r x)) → (l.filter p).length = (l.filter q).length + (l.filter r).length
 | [], _ => rfl
 | x :: l, h => by
  have h1 := h x List.mem_cons_self
  have h2 := filter_split p q r l fun y hy => h y (List.mem_cons_of_mem _ hy)
  rw [List.filter_cons, List.filter_cons, List.filter_cons]
  unfold b2n at h1
  cases hp : p x <;> cases hq : q x <;> cases hr : r x <;> simp [hp, hq, hr] at h1 ⊢ <;> omega
theorem count_filter_len (l : List Int) (v : Int) : l.count v = (l.filter fun x => decide (x = v)).length := by
 rw [List.count_eq_countP, List.countP_eq_length_filter]
 congr 2
theorem flat_count {su nd : Int → List Int} {live : List Int} {g : Gr} (t : Told live nd g) (hsu : su = g.su) {w : Int} (hw : w ∈ live) : ∀ W : List Int, W.Nodup → (W.flatMap su).count w = ((nd w).filter fun f => W.contains f).length
 | [], _ => by rw [List.filter_eq_nil_iff.mpr (by simp)]; simp
 | v :: W, h => by
  obtain ⟨h1, h2⟩ := List.nodup_cons.mp h
  rw [List.flatMap_cons, List.count_append, flat_count t hsu hw W h2, hsu, t.su, if_pos hw, count_filter_len]
  symm
  refine filter_split _ _ _ _ fun x zz => ?_
  unfold b2n
  by_cases e : x = v
  ·subst e; simp [h1]
  ·simp [e]
noncomputable def cnt (nd : Int → List Int) (L : List Int) (x : Int) : Nat := ((nd x).filter fun f => L.contains f || decide (f = 8)).length
theorem cnt_pos {nd : Int → List Int} {L : List Int} {x f : Int} (h : f ∈ nd x) (hf : f ∈ L ∨ f = 8) : 0 < cnt nd L x := by
 unfold cnt
 refine List.length_pos_of_mem (a := f) (List.mem_filter.mpr ⟨h, ?_⟩)
 rcases hf with h | h <;> simp [h]
theorem cnt_le {nd : Int → List Int} {L L' : List Int} (h : ∀ x ∈ L', x ∈ L) (x : Int) : cnt nd L' x ≤ cnt nd L x := by
 unfold cnt
 have : ((nd x).filter fun f => L'.contains f || decide (f = 8)) = (((nd x).filter fun f => L.contains f || decide (f = 8)).filter fun f => L'.contains f || decide (f = 8)) := by
  rw [List.filter_filter]
  congr 1; funext f
  by_cases h1 : f ∈ L'
  ·simp [h1, h f h1]
  ·by_cases h2 : f = 8 <;> simp [h1, h2]
 rw [this]; exact List.length_filter_le _ _
structure KL (live : List Int) (nd : Int → List Int) (np : Int → Int) (L W : List Int) : Prop where
 wn : W.Nodup
 wm : ∀ x, x ∈ W ↔ (x ∈ L ∧ cnt nd L x = 0)
 wt : ∀ v ∈ L, v ∉ W → np v = cnt nd L v
 wo : ∀ v ∈ W, np v = -1
 sub : ∀ x ∈ L, x ∈ live
 gone : ∀ w ∈ live, w ∉ L → cnt nd L w = 0
theorem KL.step {live L W : List Int} {nd : Int → List Int} {np : Int → Int} {g : Gr} (k : KL live nd np L W) (t : Told live nd g) (h8 : 8 ∉ live) :
  OkDone g.su (np, []) W ∧ KL live nd (outN (W.foldl (doneS g.su) (np, [])).1 (W.foldl (doneS g.su) (np, [])).2) (minus L W) (W.foldl (doneS g.su) (np, [])).2 ∧ ∀ x ∈ (W.foldl (doneS g.su) (np, [])).2, x ∈ live := by
 have mem_su : ∀ u w, w ∈ g.su u → w ∈ live ∧ u ∈ nd w := fun u w h => by
  have := List.count_pos_iff.mpr h
  rw [t.su] at this
  split at this
  ·rename_i hw; exact ⟨hw, List.count_pos_iff.mp this⟩
  ·omega
 have WL : ∀ v ∈ W, v ∈ L := fun v h => ((k.wm v).mp h).1
 have Wlive : ∀ v ∈ W, v ∈ live := fun v h => k.sub v (WL v h)
 have W8 : 8 ∉ W := fun h => h8 (Wlive 8 h)
 have hT : ∀ w ∈ W.flatMap g.su, w ∈ L ∧ w ∉ W := fun w h => by
  obtain ⟨v, hv, hw⟩ := List.mem_flatMap.mp h
  obtain ⟨hwl, hvn⟩ := mem_su v w hw
  have hp := cnt_pos hvn (L := L) (.inl (WL v hv))
  refine ⟨?_, fun hW => ?_⟩
  ·apply Classical.byContradiction
   intro hn
   have := k.gone w hwl hn
   omega
  ·have := ((k.wm w).mp hW).2; omega
 have hds : ∀ v ∈ W, ∀ u ∈ W, u ∉ g.su v := fun v hv u hu h => (hT u (List.mem_flatMap.mpr ⟨v, hv, h⟩)).2 hu
 have hsplit : ∀ w ∈ L, w ∉ W → (np w = (cnt nd (minus L W) w : Int) + (W.flatMap g.su).count w) := fun w hw hnW => by
  rw [k.wt w hw hnW, flat_count t rfl (k.sub w hw) W k.wn]
  unfold cnt
  have := filter_split (fun f => L.contains f || decide (f = 8)) (fun f => (minus L W).contains f || decide (f = 8)) (fun f => W.contains f) (nd w) fun f zz => by
   unfold b2n minus
   by_cases h1 : f ∈ W
   ·have h2 := WL f h1
    have h3 : f ≠ 8 := fun e => W8 (e ▸ h1)
    simp [h1, h2, h3]
   ·by_cases h2 : f ∈ L <;> by_cases h3 : f = 8 <;> simp [h1, h2, h3, W8]
  rw [this]; rfl
 obtain ⟨ok, hnp, zs, hz, hzn, hzm⟩ := done_fold g.su W np [] k.wn hds k.wo fun w hw => by
  obtain ⟨h1, h2⟩ := hT w hw
  have := hsplit w h1 h2
  omega
 rw [List.nil_append] at hz
 rw [hz]
 have mm : ∀ x, x ∈ minus L W ↔ x ∈ L ∧ x ∉ W := fun x => by unfold minus; simp [List.mem_filter]
 have zm : ∀ x, x ∈ zs ↔ (x ∈ minus L W ∧ cnt nd (minus L W) x = 0) := fun x => by
  rw [hzm, mm]
  constructor
  ·rintro ⟨h1, h2⟩
   obtain ⟨a, b⟩ := hT x h1
   have := hsplit x a b
   exact ⟨⟨a, b⟩, by omega⟩
  ·rintro ⟨⟨a, b⟩, c⟩
   have h := hsplit x a b
   have hpos : cnt nd L x ≠ 0 := fun e => b ((k.wm x).mpr ⟨a, e⟩)
   have h' := k.wt x a b
   refine ⟨?_, by omega⟩
   have : 0 < (W.flatMap g.su).count x := by omega
   exact List.count_pos_iff.mp this
 refine ⟨ok, ⟨hzn, zm, fun v hv hvz => ?_, fun v hv => ?_, fun x hx => k.sub x ((mm x).mp hx).1, fun w hw hn => ?_⟩, fun x hx => k.sub x ((mm x).mp ((zm x).mp hx).1).1⟩
 ·obtain ⟨a, b⟩ := (mm v).mp hv
  unfold outN
  rw [if_neg hvz, hnp, if_neg b, hsplit v a b]; omega
 ·unfold outN; rw [if_pos hv]
 ·have hle := cnt_le (nd := nd) (L := L) (L' := minus L W) (fun x hx => ((mm x).mp hx).1) w
  by_cases hwL : w ∈ L
  ·have hwW : w ∈ W := by
    apply Classical.byContradiction
    intro h; exact hn ((mm w).mpr ⟨hwL, h⟩)
   have := ((k.wm w).mp hwW).2; omega
  ·have := k.gone w hw hwL; omega
theorem KL.init {live : List Int} {nd : Int → List Int} {g : Gr} (t : Told live nd g) (hkn : g.ks.Nodup) (h8 : 8 ∉ live) (hnear : ∀ v ∈ live, ∀ f ∈ nd v, f ∈ live ∨ f = 8) : KL live nd (outN g.np (rdyOf g.ks g.np)) live (minus (rdyOf g.ks g.np) [8]) := by
 have hc : ∀ v ∈ live, g.np v = (cnt nd live v : Int) := fun v hv => by
  rw [t.np, if_pos hv]
  unfold cnt
  rw [List.filter_eq_self.mpr fun f hf => by rcases hnear v hv f hf with h | h <;> simp [h]]
 have hr : ∀ x, x ∈ rdyOf g.ks g.np ↔ x ∈ g.ks ∧ g.np x = 0 := fun x => by unfold rdyOf; simp [List.mem_filter]
 have hm : ∀ x, x ∈ minus (rdyOf g.ks g.np) [8] ↔ x ∈ rdyOf g.ks g.np ∧ x ≠ 8 := fun x => by unfold minus; simp [List.mem_filter]
 have hW : ∀ x, x ∈ minus (rdyOf g.ks g.np) [8] ↔ (x ∈ live ∧ cnt nd live x = 0) := fun x => by
  rw [hm, hr, t.ks]
  constructor
  ·rintro ⟨⟨h | ⟨v, hv, hx⟩, h0⟩, hx8⟩
   ·have := hc x h; exact ⟨h, by omega⟩
   ·have h := (hnear v hv x hx).resolve_right hx8
    have := hc x h; exact ⟨h, by omega⟩
  ·rintro ⟨h, h0⟩
   have := hc x h
   exact ⟨⟨.inl h, by omega⟩, fun e => h8 (e ▸ h)⟩
 refine ⟨(hkn.filter _).filter _, hW, fun v hv hn => ?_, fun v hv => ?_, fun zz h => h, fun w hw hn => absurd hw hn⟩
 ·unfold outN
  rw [if_neg, hc v hv]
  intro h
  exact hn ((hm v).mpr ⟨h, fun e => h8 (e ▸ hv)⟩)
 ·unfold outN; rw [if_pos ((hm v).mp hv).1]
theorem count_insertZ (a x : Int) (l : List Int) : (insertZ a l).count x = (a :: l).count x := (insertZ_perm a l).count_eq x
theorem count_sortZ (x : Int) (l : List Int) : (sortZ l).count x = l.count x := (sortZ_perm l).count_eq x
theorem sorted_eq : ∀ {l m : List Int}, l.Pairwise (· ≤ ·) → m.Pairwise (· ≤ ·) → (∀ x, l.count x = m.count x) → l = m
 | [], m, _, _, h => by
  cases m with
  | nil => rfl
  | cons b m => have := h b; simp at this
 | a :: l, [], _, _, h => by have := h a; simp at this
 | a :: l, b :: m, h1, h2, h => by
  obtain ⟨p1, p2⟩ := List.pairwise_cons.mp h1
  obtain ⟨q1, q2⟩ := List.pairwise_cons.mp h2
  have hab : a = b := by
   have ha : a ∈ b :: m := List.count_pos_iff.mp (by rw [← h a]; exact List.count_pos_iff.mpr List.mem_cons_self)
   have hb : b ∈ a :: l := List.count_pos_iff.mp (by rw [h b]; exact List.count_pos_iff.mpr List.mem_cons_self)
   rcases List.mem_cons.mp ha with e | ha
   ·exact e
   ·rcases List.mem_cons.mp hb with e | hb
    ·exact e.symm
    ·have := q1 a ha; have := p1 b hb; omega
  subst hab
  rw [sorted_eq p2 q2 fun x => by have := h x; rw [List.count_cons, List.count_cons] at this; omega]
theorem nodup_count {l : List Int} (h : l.Nodup) (x : Int) : l.count x = if x ∈ l then 1 else 0 := by
 by_cases hx : x ∈ l
 ·rw [if_pos hx]
  have h1 := List.count_pos_iff.mpr hx
  have h2 := List.nodup_iff_count.mp h x
  omega
 ·rw [if_neg hx]; exact List.count_eq_zero.mpr hx
theorem sortZ_set {W F : List Int} (hW : W.Nodup) (hF : F.Pairwise (· < ·)) (hm : ∀ x, x ∈ W ↔ x ∈ F) : sortZ W = F := by
 refine sorted_eq (sortZ_sorted W) (hF.imp fun h => by omega) fun x => ?_
 have hFn : F.Nodup := hF.imp fun h => by omega
 rw [count_sortZ, nodup_count hW, nodup_count hFn]
 by_cases h : x ∈ W
 ·rw [if_pos h, if_pos ((hm x).mp h)]
 ·rw [if_neg h, if_neg fun q => h ((hm x).mpr q)]
noncomputable def srcA (ar : List (Int × Int)) (v : Int) : List Int := (ar.filter fun p => decide (p.2 = v)).map (·.1)
noncomputable def ndA (ar : List (Int × Int)) (live : List Int) (v : Int) : List Int := (ar.filter fun p => decide (p.2 = v) && (live ++ [8]).contains p.1).map (·.1)
theorem ndA_src (ar : List (Int × Int)) (live : List Int) (v : Int) : ndA ar live v = (srcA ar v).filter fun f => (live ++ [8]).contains f := by
 unfold ndA srcA
 rw [List.filter_map, List.filter_filter]
 congr 2
 funext p
 simp only [Function.comp]
 rw [Bool.and_comm]
theorem ndA_len (ar : List (Int × Int)) (live : List Int) (v : Int) : (ndA ar live v).length ≤ ar.length := by
 unfold ndA; rw [List.length_map]; exact List.length_filter_le _ _
theorem ndA_near {ar : List (Int × Int)} {live : List Int} {v f : Int} (h : f ∈ ndA ar live v) : f ∈ live ∨ f = 8 := by
 rw [ndA_src] at h
 have := (List.mem_filter.mp h).2
 simpa using this
theorem src_cnt {ar : List (Int × Int)} {live L : List Int} (hL : ∀ x ∈ L, x ∈ live) (v : Int) : ((srcA ar v).filter fun f => L.contains f || decide (f = 8)).length = cnt (ndA ar live) L v := by
 unfold cnt
 rw [ndA_src, List.filter_filter]
 congr 2; funext f
 by_cases h1 : f ∈ L
 ·simp [h1, hL f h1]
 ·by_cases h2 : f = 8 <;> simp [h1, h2]
theorem fallen_cnt {ar : List (Int × Int)} {live L : List Int} (hL : ∀ x ∈ L, x ∈ live) : fallen (srcA ar) (fun x => decide (x = 8)) L = L.filter fun v => decide (cnt (ndA ar live) L v = 0) := by
 unfold fallen
 congr 1; funext v
 rw [← src_cnt hL v]
 by_cases h : (srcA ar v).filter (fun f => L.contains f || decide (f = 8)) = []
 ·simp only [h, List.length_nil]
 ·have : ((srcA ar v).filter fun f => L.contains f || decide (f = 8)).length ≠ 0 := fun e => h (List.length_eq_zero_iff.mp e)
  simp only [h, this]
theorem KL.falls {ar : List (Int × Int)} {live L W : List Int} {np : Int → Int} (k : KL live (ndA ar live) np L W) (hs : L.Pairwise (· < ·)) :
  sortZ W = fallen (srcA ar) (fun x => decide (x = 8)) L ∧ minus L W = (L.filter fun x => !(fallen (srcA ar) (fun x => decide (x = 8)) L).contains x) ∧ (W = [] ↔ fallen (srcA ar) (fun x => decide (x = 8)) L = []) := by
 have hm : ∀ x, x ∈ W ↔ x ∈ fallen (srcA ar) (fun x => decide (x = 8)) L := fun x => by
  rw [fallen_cnt k.sub, List.mem_filter, k.wm]; simp
 have h1 : sortZ W = fallen (srcA ar) (fun x => decide (x = 8)) L := sortZ_set k.wn (hs.filter _) hm
 refine ⟨h1, ?_, ?_⟩
 ·unfold minus
  congr 1; funext x
  by_cases h : x ∈ W
  ·have h2 := (hm x).mp h; simp [h, h2]
  ·have h2 : x ∉ fallen (srcA ar) (fun x => decide (x = 8)) L := fun q => h ((hm x).mpr q)
   simp [h, h2]
 ·constructor
  ·intro e
   rw [← h1, e]; rfl
  ·intro e
   refine List.eq_nil_iff_forall_not_mem.mpr fun x hx => ?_
   have := (hm x).mp hx
   rw [e] at this; cases this
theorem fallsN_end (src : Int → List Int) (out : Int → Bool) (n : Nat) : ∀ there : List Int, there.length < n → fallen src out (fallsN src out n there).2 = [] := by
 induction n with
 | zero => exact fun zz h => absurd h (Nat.not_lt_zero _)
 | succ n ih =>
  intro there h
  rw [fallsN_succ]
  by_cases hf : fallen src out there = []
  ·rw [if_pos hf]; exact hf
  ·rw [if_neg hf]
   exact ih _ (Nat.lt_of_lt_of_le (fallen_less hf) (Nat.le_of_lt_succ h))
theorem fallsN_keep {src : Int → List Int} {S : List Int} (hp : ∀ x ∈ S, ∃ y ∈ S, y ∈ src x) (n : Nat) : ∀ there : List Int, (∀ x ∈ S, x ∈ there) → ∀ x ∈ S, x ∈ (fallsN src (fun zz => false) n there).2 := by
 induction n with
 | zero => exact fun there h => h
 | succ n ih =>
  intro there h
  rw [fallsN_succ]
  split
  ·exact h
  ·refine ih _ fun x hx => List.mem_filter.mpr ⟨h x hx, ?_⟩
   obtain ⟨y, hy, hyx⟩ := hp x hx
   have : x ∉ fallen src (fun zz => false) there := fun hf => by
    have h2 := (List.mem_filter.mp hf).2
    simp only [decide_eq_true_eq, Bool.or_false] at h2
    have : y ∈ (src x).filter fun one => there.contains one := List.mem_filter.mpr ⟨hyx, by simpa using h y hy⟩
    rw [h2] at this; cases this
   simpa using this
theorem ringed_is {ar : List (Int × Int)} {live : List Int} {g : Gr} (t : Told live (ndA ar live) g) : (Ranked g.ks g.su → ringedOf (srcA ar) live = false) ∧ (Ring g.ks g.su → ringedOf (srcA ar) live = true) := by
 have mem_su : ∀ u w, w ∈ g.su u ↔ w ∈ live ∧ u ∈ ndA ar live w := fun u w => by
  rw [← List.count_pos_iff, t.su]
  split
  ·rename_i h; rw [List.count_pos_iff]; exact ⟨fun q => ⟨h, q⟩, fun q => q.2⟩
  ·rename_i h; exact ⟨fun q => by omega, fun q => absurd q.1 h⟩
 unfold ringedOf
 refine Mine.gen ((fallsN (srcA ar) (fun zz => false) (live.length + 1) live).2) fun T hT => ?_
 rw [hT]
 constructor
 ·intro r
  have hnil : T = [] := by
   apply Classical.byContradiction
   intro hne
   have hsub : ∀ x ∈ T, x ∈ live := fun x hx => (fallsN_sub (srcA ar) (fun zz => false) (live.length + 1) live).subset (hT ▸ hx)
   have hend := fallsN_end (srcA ar) (fun zz => false) (live.length + 1) live (Nat.lt_succ_self _)
   rw [hT] at hend
   refine r.no hne (fun x hx => (t.ks x).mpr (.inl (hsub x hx))) fun x hx => ?_
   have hnf : x ∉ fallen (srcA ar) (fun zz => false) T := by rw [hend]; simp
   have : (srcA ar x).filter (fun one => T.contains one || false) ≠ [] := fun e => hnf (List.mem_filter.mpr ⟨hx, by simpa using e⟩)
   obtain ⟨y, hy⟩ := List.exists_mem_of_ne_nil _ this
   obtain ⟨hy1, hy2⟩ := List.mem_filter.mp hy
   have hyT : y ∈ T := by simpa using hy2
   refine ⟨y, hyT, (mem_su y x).mpr ⟨hsub x hx, ?_⟩⟩
   rw [ndA_src]
   exact List.mem_filter.mpr ⟨hy1, by simp [hsub y hyT]⟩
  rw [hnil]; rfl
 ·rintro zI0
  obtain ⟨S, hne, _, hp⟩ := zI0
  have hlive : ∀ x ∈ S, x ∈ live := fun x hx => by
   obtain ⟨y, _, hxy⟩ := hp x hx
   exact ((mem_su y x).mp hxy).1
  obtain ⟨x, hx⟩ := List.exists_mem_of_ne_nil _ hne
  have := fallsN_keep (src := srcA ar) (S := S) (fun x hx => by
   obtain ⟨y, hy, hxy⟩ := hp x hx
   have := ((mem_su y x).mp hxy).2
   rw [ndA_src] at this
   exact ⟨y, hy, (List.mem_filter.mp this).1⟩) (live.length + 1) live hlive x hx
  rw [hT] at this
  have hTn : T ≠ [] := fun e => by rw [e] at this; cases this
  simp [hTn]
section
variable {h : AH} {lo s a D R : Nat} {ks : List Int} {ni sr dd : Int → Nat} {np : Int → Int} {su : Int → List Int} {rdy : List Int}
theorem So2.own (S : So2 h lo s a D R ks ni sr dd np su rdy) {n : String} (h1 : n ≠ "_node2info") (h2 : n ≠ "_ready_nodes") (h3 : n ≠ "_npassedout") (h4 : n ≠ "_nfinished") : ownM "TopologicalSorter" n (.ref s) h = some () := by
 obtain ⟨pa, fi, C⟩ := S.c
 exact C.own h1 h2 h3 h4
theorem So2.other (S : So2 h lo s a D R ks ni sr dd np su rdy) {i : Nat} {x : AObj × Nat} {o : List AV} {k : Nat} (hi : h[i]? = some (.list o, k)) (hn : ∀ v ∈ ks, sr v ≠ i) (hR : i ≠ R) : So2 (h.set i x) lo s a D R ks ni sr dd np su rdy := by
 obtain ⟨pa, fi, C⟩ := S.c
 exact ⟨⟨pa, fi, C.other hi hn⟩, S.r.set hR, S.ne, S.lo, S.sub⟩
end
theorem IL.keep {R : Nat} {h h' : AH} (k : KeepL R h h') {r : Nat} {xs : List Int} (i : IL h r xs) (hr : r ≠ R) : IL h' r xs := by
 obtain ⟨kk, e⟩ := i; exact ⟨kk, k.1 _ _ _ e hr⟩
theorem RL.keep {R lo rd : Nat} {h h' : AH} (k : KeepL R h h') {xss : List (List Int)} (i : RL h lo rd xss) (h1 : R < lo) (h2 : rd ≠ R) : RL h' lo rd xss := by
 obtain ⟨refs, kk, e, hn, is⟩ := i
 refine ⟨refs, kk, k.1 _ _ _ e h2, hn, ?_⟩
 have hlo := hn.2
 clear hn e
 induction is with
 | nil => exact .nil
 | cons a _ ih => exact .cons (a.keep k (by have := hlo _ List.mem_cons_self; omega)) (ih fun r hr => hlo r (List.mem_cons_of_mem _ hr))
theorem RL.weaken {lo lo' rd : Nat} {h : AH} {xss : List (List Int)} (i : RL h lo rd xss) (hl : lo' ≤ lo) : RL h lo' rd xss := by
 obtain ⟨refs, kk, e, hn, is⟩ := i
 exact ⟨refs, kk, e, ⟨hn.1, fun r hr => Nat.le_trans hl (hn.2 r hr)⟩, is⟩
theorem RL.snoc {lo rd r : Nat} {h : AH} {xss : List (List Int)} {xs : List Int} (i : RL h lo rd xss) (j : IL h r xs) (h1 : r ≠ rd) (h2 : lo ≤ r) (hl : xss.length ≤ 1000) : ∃ h', aAppend [.ref rd, .ref r] h = some (.none, h') ∧ RL h' lo rd (xss ++ [xs]) ∧ (∀ i, i ≠ rd → h'[i]? = h[i]?) ∧ h'.length = h.length ∧ (∃ o k, h[rd]? = some (.list o, k) ∧ h' = h.set rd (.list (o ++ [.ref r]), k + 1)) := by
 obtain ⟨refs, kk, e, hn, is⟩ := i
 have hlen := is.len
 refine ⟨h.set rd (.list (refs.map AV.ref ++ [.ref r]), kk + 1), ?_, ⟨refs ++ [r], kk + 1, by rw [set_eq (lt_of_get e)]; simp, ⟨?_, fun q hq => ?_⟩, (is.set hn.1).snoc (j.set (Ne.symm h1))⟩, fun i hi => set_ne (Ne.symm hi), List.length_set, _, _, e, rfl⟩
 ·have : (refs.map AV.ref).length ≤ 1000000 := by rw [List.length_map]; omega
  exact aAppend_at e this
 ·simp only [List.mem_append, hn.1, List.mem_singleton, false_or]; exact Ne.symm h1
 ·rcases List.mem_append.mp hq with hq | hq
  ·exact hn.2 q hq
  ·rw [List.mem_singleton.mp hq]; exact h2
theorem nodup_len : ∀ {l m : List Int}, l.Nodup → (∀ x ∈ l, x ∈ m) → l.length ≤ m.length
 | [], _, _, _ => Nat.zero_le _
 | a :: l, m, h, hs => by
  obtain ⟨h1, h2⟩ := List.nodup_cons.mp h
  have ha := hs a List.mem_cons_self
  have := nodup_len (m := m.erase a) h2 fun x hx => (List.mem_erase_of_ne fun e : x = a => h1 (e ▸ hx)).mpr (hs x (List.mem_cons_of_mem _ hx))
  rw [List.length_erase_of_mem ha] at this
  have := List.length_pos_of_mem ha
  rw [List.length_cons]; omega
theorem initG_su_len {nd : Int → List Int} : ∀ (rest : List Int) (g : Gr), (∀ v ∈ rest, (nd v).length ≤ 50) → ∀ w, ((rest.foldl (fun g v => addG g v (nd v)) g).su w).length ≤ (g.su w).length + 50 * rest.length
 | [], g, _, w => by simp
 | v :: rest, g, h, w => by
  have h1 := initG_su_len rest (addG g v (nd v)) (fun u hu => h u (List.mem_cons_of_mem _ hu)) w
  have h2 := (addG_len v g (nd v) ⟨addK g.ks v, upd g.np v (g.np v + (nd v).length), g.su⟩).2 w
  have h3 := h v List.mem_cons_self
  rw [List.foldl_cons, List.length_cons]
  unfold addG at h1 ⊢
  simp only at h2
  omega
theorem swept_run {h0 : AH} {L A : Nat} {live : List Int} {ar : List (Int × Int)} {K : AV → AH → Prop} (hL : IL h0 L live) (hA : AL h0 A ar) (sl : live.length ≤ 10) (sa : ar.length ≤ 50) (hr8 : InR 8 live) (hso : live.Pairwise (· < ·))
  (k : ∀ h' r R1 T1, h0 <+: h' → h0.length ≤ r → h0.length ≤ R1 → (T1 = L ∨ h0.length ≤ T1) → h'[r]? = some (.list [.bool (ringedOf (srcA ar) live), .ref R1, .ref T1], 0) → RL h' h0.length R1 (swept1 (srcA ar) live).1 → IL h' T1 (swept1 (srcA ar) live).2 → K (.ref r) h') : wpH (aSwept [.ref L, .ref A]) K h0 := by
 refine wp_def (bs := [("live", .ref L), ("arrows", .ref A)]) rfl ?_
 unfold swept.prog
 obtain ⟨kL, gL⟩ := hL
 obtain ⟨kA, gA⟩ := hA
 have lL := lt_of_get gL
 have hln : live.Nodup := hso.imp fun h => by omega
 have h8' : 8 ∉ live := fun h => by have := hr8 8 h; omega
 have b1 : aBin .add (.ref L) (.ref h0.length) (h0 ++ [(AObj.list [AV.int 8], 0)]) = aNew (.list (live.map .int ++ [.int 8])) (h0 ++ [(AObj.list [AV.int 8], 0)]) := aBin_lists (by rw [app_old lL]; exact gL) (at_app0 _ _) (by simp; omega)
 simp! [b1, app_old lL, gL, itemsOf, put_nil, put_cons]
 refine Mine.gen (h0 ++ [(AObj.list [AV.int 8], 0), (AObj.list (live.map AV.int ++ [AV.int 8]), 0), (AObj.dict [], 0)]) fun Ha eHa => ?_
 have pa : h0 <+: Ha := eHa ▸ pre_app _ _
 have la := pa.length_le
 have iNear : IL Ha (h0.length + 1) (live ++ [8]) := ⟨0, by rw [← eHa, at_app]; simp⟩
 refine Mine.gen (ndA ar live) fun nd end_ => ?_
 rw [eHa]
 refine wp_forLoop (fun items st => ∃ (dn rest : List Int) (nr : Int → Nat), live = dn ++ rest ∧ items = rest.map .int ∧ (∃ k, st.hp[h0.length + 2]? = some (.dict (dn.map fun v => (v, .ref (nr v))), k)) ∧ (∀ v ∈ dn, IL st.hp (nr v) (nd v) ∧ h0.length + 3 ≤ nr v) ∧ h0 <+: st.hp ∧ IL st.hp (h0.length + 1) (live ++ [8]) ∧
  st.env.lookup "live" = some (.ref L) ∧ st.env.lookup "arrows" = some (.ref A) ∧ st.env.lookup "near" = some (.ref (h0.length + 1)) ∧ st.env.lookup "needs" = some (.ref (h0.length + 2))) ?_ ?_ ?_ _ _ ?_
 rotate_right
 ·refine ⟨[], live, fun zz => 0, rfl, rfl, ⟨0, eHa ▸ at_app _ _ 2⟩, fun v hv => (by cases hv), pa, iNear, ?_⟩
  simp! [id_eq]
 ·rintro items ⟨e, h⟩ zI2 g hg
  obtain ⟨dn, rest, nr, _, _, _, _, p, _⟩ := zI2
  simp only [List.mem_singleton] at hg
  subst hg
  exact prefix_get p gL
 ·rintro x items ⟨e, h⟩ zI3
  obtain ⟨dn, rest, nr, hdr, hi, ⟨kd, ed⟩, hdn, p, iN, a1, a2, a3, a4⟩ := zI3
  simp only at ed hdn p iN a1 a2 a3 a4
  cases rest with
  | nil => cases hi
  | cons v rest =>
  simp only [List.map_cons, List.cons.injEq] at hi
  obtain ⟨rfl, rfl⟩ := hi
  have hv : v ∉ dn := by
   rw [hdr, List.nodup_append] at hln
   exact fun h => hln.2.2 v h v (by simp) rfl
  have gA' := prefix_get p gA
  simp! [a2, itemsOf, gA']
  refine comp_arrows ar (fun p => decide (p.2 = v) && (live ++ [8]).contains p.1) (·.1) gA' (by decide) ?_ (by omega) ?_
  ·intro x hx e' h' P' he' p' hP'
   have f1 := he' "name" (by simp)
   have f2 := he' "near" (by simp)
   simp! [a3] at f1 f2
   have hm := aMem_list x.1 (iN.mono p')
   cases hc1 : decide (x.2 = v) <;> cases hc2 : (live ++ [8]).contains x.1 <;> simp only [hc1, hc2, Bool.and_true, Bool.and_false, Bool.false_eq_true, reduceIte] at hP' <;> simp! [f1, f2, aEq_int, hm, hc1, hc2, Bool.false_eq_true] <;> exact hP'
  intro h1 p1
  have end' : (ar.filter fun p => decide (p.2 = v) && (live ++ [8]).contains p.1).map (·.1) = nd v := by rw [← end_]; rfl
  rw [end']
  have lp1 := p1.length_le
  have ed1 := prefix_get (pre_app' p1 [(AObj.list ((nd v).map AV.int), 0)]) ed
  have hdl : (dn.map fun v => (v, AV.ref (nr v))).length ≤ 1000000 := by
   have := congrArg List.length hdr
   rw [List.length_append] at this
   rw [List.length_map]; omega
  have hdl' : dn.length ≤ 1000000 := by rwa [List.length_map] at hdl
  simp! [a4, aSetItem, ed1, hdl', vset_map nr v _ dn hv]
  have ld := lt_of_get ed
  have hlo : ∀ u ∈ dn, u ≠ v := fun u hu e => hv (e ▸ hu)
  refine ⟨dn ++ [v], rest, upd nr v h1.length, by rw [hdr]; simp, rfl, ⟨kd + 1, ?_⟩, fun u hu => ?_, ?_, ?_, ?_⟩
  ·rw [set_eq (lt_of_get ed1), List.map_append]
   have : dn.map (fun k => (k, AV.ref (upd nr v h1.length k))) = dn.map (fun k => (k, AV.ref (nr k))) := List.map_congr_left fun u hu => by rw [upd_ne _ _ (hlo u hu)]
   rw [this]
   simp only [List.map_cons, List.map_nil, upd_eq]
  ·rcases List.mem_append.mp hu with hu | hu
   ·obtain ⟨i, l⟩ := hdn u hu
    rw [upd_ne _ _ (hlo u hu)]
    exact ⟨(i.mono (pre_app' p1 _)).set (by omega), l⟩
   ·rw [List.mem_singleton.mp hu, upd_eq]
    exact ⟨IL.set ⟨0, at_app0 _ _⟩ (by omega), by omega⟩
  ·exact pre_set (pre_app' (p.trans p1) _) (by omega)
  ·exact (iN.mono (pre_app' p1 _)).set (by omega)
  ·simp! [a1, a2, a3, a4]
 ·rintro ⟨e, h⟩ zI1
  obtain ⟨dn, rest, nr, hdr, hi, ⟨kd, ed⟩, hdn, p, iN, a1, a2, a3, a4⟩ := zI1
  have hn : rest = [] := by simpa using hi.symm
  subst hn
  rw [List.append_nil] at hdr
  subst hdr
  simp only at ed hdn p iN a1 a2 a3 a4
  simp! [a4]
  refine ts_run ⟨kd, ed⟩ (fun v hv => (hdn v hv).1) sl (fun v hv => by rw [← end_]; exact Nat.le_trans (ndA_len ar live v) sa) ?_
  intro h1 S1 p1 l1
  refine Mine.gen (initG live nd) fun g eg => ?_
  rw [eg] at S1
  have T : Told live (ndA ar live) g := by rw [end_, ← eg]; exact initG_is nd hln
  have hks : ∀ x ∈ g.ks, x ∈ live ∨ x = 8 := fun x hx => by
   rcases (T.ks x).mp hx with h | ⟨v, hv, hx⟩
   ·exact .inl h
   ·exact ndA_near hx
  have hcl : ∀ v ∈ g.ks, ∀ w ∈ g.su v, w ∈ g.ks := fun v hv w hw => by
   have := List.count_pos_iff.mpr hw
   rw [T.su] at this
   split at this
   ·rename_i h; exact (T.ks w).mpr (.inl h)
   ·omega
  have hown : ownM "TopologicalSorter" "prepare" (.ref (h.length + 1)) h1 = some () := by
   obtain ⟨_, ni, sr, dd, C⟩ := S1
   exact C.own (by decide) (by decide) (by decide) (by decide)
  have hsl : ∀ w, (g.su w).length ≤ 1000 := fun w => by
   have := initG_su_len (nd := nd) live g0 (fun v hv => by rw [← end_]; exact Nat.le_trans (ndA_len ar live v) sa) w
   have e : live.foldl (fun g v => addG g v (nd v)) g0 = g := eg
   rw [e] at this
   have e0 : (g0.su w).length = 0 := rfl
   omega
  have hkn : g.ks.Nodup := by obtain ⟨_, ni, sr, dd, C⟩ := S1; exact C.nd
  have hkl : g.ks.length ≤ 11 := by
   have := nodup_len (m := live ++ [8]) hkn fun x hx => by rcases hks x hx with h | h <;> simp [h]
   rw [List.length_append, List.length_singleton] at this; omega
  refine Mine.gen (ringedOf (srcA ar) live) fun rg erg => ?_
  have rgi := ringed_is T
  rw [erg] at rgi k
  have lh := p.length_le
  have lp1 := p1.length_le
  have rest_run : ∀ (h2 : AH) (R : Nat) (ni sr : Int → Nat) (dd : Int → Nat) (e2 : List (String × AV)), So2 h2 h.length (h.length + 1) h.length (h.length + 2) R g.ks ni sr dd g.np g.su (rdyOf g.ks g.np) → h <+: h2 → h.length ≤ R →
    e2.lookup "live" = some (.ref L) → e2.lookup "sorter" = some (.ref (h.length + 1)) → e2.lookup "ringed" = some (.bool rg) →
    wpA (bSeq (bSet "rounds" (bList (pure [])))
       (bSeq
        (bSet "waiting"
         (bCall aFilter
          (bCons (bMethO "TopologicalSorter" "get_ready" aGetReady (bVar "sorter") (pure []))
           (bCons (bList (bCons (pure (AV.int 8)) (pure []))) (pure [])))))
        (bSeq
         (bWhile (bCmp COp.ne (bVar "waiting") (bList (pure [])))
          (bSeq
           (bExpr
            (bMeth "list" aAppend (bVar "rounds")
             (bCons (bCall aSorted (bCons (bVar "waiting") (pure []))) (pure []))))
           (bSeq (bSet "live" (bCall aFilter (bCons (bVar "live") (bCons (bVar "waiting") (pure [])))))
            (bSeq (bExpr (bMethO "TopologicalSorter" "done" aDone (bVar "sorter") (bStar (bVar "waiting"))))
             (bSet "waiting"
              (bCall aFilter
               (bCons (bMethO "TopologicalSorter" "get_ready" aGetReady (bVar "sorter") (pure []))
                (bCons (bList (bCons (pure (AV.int 8)) (pure []))) (pure []))))))))
          (pure AFlow.next))
         (bRet (bList (bCons (bVar "ringed") (bCons (bVar "rounds") (bCons (bVar "live") (pure [])))))))))
     (kBody K) ⟨e2, h2⟩ := by
   intro h2 R ni sr dd e2 S2 p2 lR c1 c2 c3
   refine Mine.gen (rdyOf g.ks g.np) fun rdy erdy => ?_
   have hrl : rdy.length ≤ 11 := by
    have : rdy.length ≤ g.ks.length := erdy ▸ List.length_filter_le _ _
    omega
   have own2 := (S2.grow (pre_app h2 [(AObj.list [], 0)])).own (n := "get_ready") (by decide) (by decide) (by decide) (by decide)
   have lR2 := S2.r.lt
   have srlt : ∀ v ∈ g.ks, sr v < h2.length := fun v hv => by
    obtain ⟨pa, fi, C⟩ := S2.c
    exact (C.suc v hv).lt
   simp! [c2, own2]
   have S2' := S2.grow (pre_app h2 [(AObj.list [], 0)])
   refine getReady_run S2' (p2.trans (pre_app _ _)) (Nat.le_refl _) (by rw [erdy]; omega) ?_
   intro h3 S3 kl3 p3
   simp! [id_eq]
   have lh3 := kl3.2
   rw [List.length_append, List.length_singleton] at lh3
   refine filter_run (xs := rdyOf g.ks g.np) (ys := [8]) (.inl rfl) ⟨0, at_app0 _ _⟩ (by rw [erdy]; omega) ?_
   intro w0 h4 p4 lw0 iw0
   have KI := KL.init T hkn h8' (fun v hv f hf => ndA_near hf)
   have iw0' : IL h4 w0 (minus (rdyOf g.ks g.np) [8]) := iw0
   have pre34 : h3 <+: h4 := (pre_app _ _).trans p4
   have rd0 : RL (h2 ++ [(AObj.list [], 0)]) (R + 1) h2.length [] := ⟨[], 0, at_app0 _ _, ⟨by simp, fun zz h => (by cases h)⟩, .nil⟩
   have rd4 : RL h4 (R + 1) h2.length [] := (rd0.keep kl3 (by omega) (by omega)).mono pre34
   have lw0' : h2.length < w0 := by rw [List.length_append] at lw0; omega
   have LR : L < R := by omega
   have iL4 : IL h4 L live := IL.mono ⟨kL, gL⟩ ((p.trans p3).trans pre34)
   simp! [id_eq]
   refine Mine.gen (swept1 (srcA ar) live) fun tot etot => ?_
   rw [etot] at k
   refine wp_while (fun n st => ∃ (Lc W : List Int) (np' : Int → Int) (acc : List (List Int)) (w l : Nat), n = Lc.length ∧ KL live (ndA ar live) np' Lc W ∧ Lc.Sublist live ∧ So2 st.hp h.length (h.length + 1) h.length (h.length + 2) R g.ks ni sr dd np' g.su [] ∧ IL st.hp w W ∧ IL st.hp l Lc ∧ RL st.hp (R + 1) h2.length acc ∧
    w ≠ R ∧ l ≠ R ∧ w ≠ h2.length ∧ l ≠ h2.length ∧ (l = L ∨ h0.length ≤ l) ∧ h <+: st.hp ∧ acc.length + Lc.length ≤ 100 ∧ h2.length ≤ st.hp.length ∧ (acc ++ (fallsN (srcA ar) (fun x => decide (x = 8)) (Lc.length + 1) Lc).1, (fallsN (srcA ar) (fun x => decide (x = 8)) (Lc.length + 1) Lc).2) = tot ∧
    st.env.lookup "waiting" = some (.ref w) ∧ st.env.lookup "live" = some (.ref l) ∧ st.env.lookup "rounds" = some (.ref h2.length) ∧ st.env.lookup "sorter" = some (.ref (h.length + 1)) ∧ st.env.lookup "ringed" = some (.bool rg)) ?_ live.length _ ?_
   rotate_left
   ·refine ⟨live, _, _, [], w0, L, rfl, KI, List.Sublist.refl _, S3.grow pre34, iw0', iL4, rd4, by omega, by omega, by omega, by omega, .inl rfl, p3.trans pre34, by simp; omega, (show h2.length ≤ h4.length by have := pre34.length_le; omega), by rw [← etot]; rfl, ?_⟩
    simp! [c1, c2, c3]
   rintro n ⟨e5, h5⟩ zI2
   obtain ⟨Lc, W, np', acc, w, l, rfl, kl, lsub, S5, iW, iLc, rd5, wR, lR', wrd, lrd, lL', p5, hal, l25, htot, d1, d2, d3, d4, d5⟩ := zI2
   simp only at S5 iW iLc rd5 p5 l25 d1 d2 d3 d4 d5
   have lso : Lc.Pairwise (· < ·) := hso.sublist lsub
   obtain ⟨fe1, fe2, fe3⟩ := kl.falls lso
   have hLl : Lc.length ≤ 10 := Nat.le_trans lsub.length_le sl
   have hWl : W.length ≤ 10 := by
    have := (sortZ_perm W).length_eq
    have h2 := List.length_filter_le (fun name => decide ((srcA ar name).filter (fun one => Lc.contains one || decide (one = 8)) = [])) Lc
    have h3 : (fallen (srcA ar) (fun x => decide (x = 8)) Lc).length ≤ Lc.length := h2
    rw [← fe1] at h3; omega
   simp! [d1, aNe_int0 h5 _ iW]
   refine Mine.gen (h5 ++ [(AObj.list [], 0)]) fun H5 eH5 => ?_
   have q5 : h5 <+: H5 := eH5 ▸ pre_app _ _
   have lq5 : H5.length = h5.length + 1 := by rw [← eH5]; simp
   rw [eH5]
   by_cases hw : W = []
   ·simp! [hw, decide_true, Bool.not_true, d2, d3, d5]
    have hN : fallsN (srcA ar) (fun x => decide (x = 8)) (Lc.length + 1) Lc = ([], Lc) := by rw [fallsN_succ, if_pos (fe3.mp hw)]
    rw [hN, List.append_nil] at htot
    have qE := q5.trans (pre_app H5 [(AObj.list [AV.bool rg, AV.ref h2.length, AV.ref l], 0)])
    refine k _ H5.length h2.length l ((p.trans p5).trans qE) (by have := p5.length_le; omega) (by omega) lL' (at_app0 _ _) ?_ ?_
    ·rw [← htot]; exact (rd5.mono qE).weaken (by omega)
    ·rw [← htot]; exact iLc.mono qE
   ·have hfe : fallen (srcA ar) (fun x => decide (x = 8)) Lc ≠ [] := fun e => hw (fe3.mpr e)
    obtain ⟨kW, gW⟩ := iW
    have gW5 := prefix_get q5 gW
    have hW64 : W.length < 64 := by omega
    have ty5 : tyOf (.ref h2.length) H5 = some "list" := by obtain ⟨_, _, e, _⟩ := rd5.mono q5; exact ty_list e
    refine Mine.gen (H5 ++ [(AObj.list ((sortZ W).map AV.int), 0)]) fun H6 eH6 => ?_
    have q6 : H5 <+: H6 := eH6 ▸ pre_app _ _
    have iS6 : IL H6 H5.length (sortZ W) := ⟨0, eH6 ▸ at_app0 _ _⟩
    have rd6 := (rd5.mono q5).mono q6
    have lR5 : R < h5.length := S5.r.lt
    obtain ⟨H7, e7, rd7, same7, l7, o7, k7, g7, eH7⟩ := rd6.snoc iS6 (by omega) (by omega) (by omega)
    simp! [hw, decide_false, Bool.not_false, d3, ty5, d1, aSorted, gW5, avInts_map, hW64, eH6, e7, d2]
    have S7 : So2 H7 h.length (h.length + 1) h.length (h.length + 2) R g.ks ni sr dd np' g.su [] := by
     rw [eH7]
     exact ((S5.grow q5).grow q6).other g7 (fun v hv => by have := srlt v hv; omega) (by omega)
    have iW7 : IL H7 w W := ((IL.mono ⟨kW, gW⟩ q5).mono q6).same (same7 _ wrd)
    have iL7 : IL H7 l Lc := ((iLc.mono q5).mono q6).same (same7 _ lrd)
    have p7 : h <+: H7 := pre_same ((p5.trans q5).trans q6) fun i hi => same7 i (by have := p2.length_le; omega)
    have lq6 := q6.length_le
    refine filter_run (.inr ⟨_, rfl, iL7⟩) iW7 (by omega) ?_
    intro l' h8 p8 ll' iL8
    have S8 := S7.grow p8
    obtain ⟨kW8, gW8⟩ := iW7.mono p8
    have own8 := S8.own (n := "done") (by decide) (by decide) (by decide) (by decide)
    have hWl' : W.length ≤ 1000000 := by omega
    simp! [d1, d4, own8, starOf, gW8, hWl']
    obtain ⟨ok, ks2, zl⟩ := kl.step T h8'
    refine done_run S8 (p7.trans p8) (Nat.le_refl _) (fun v hv => (T.ks v).mpr (.inl (kl.sub v ((kl.wm v).mp hv).1))) hcl ok hsl (by omega) (by simp) ?_
    intro h9 S9 kl9 p9
    have own9 := S9.own (n := "get_ready") (by decide) (by decide) (by decide) (by decide)
    refine Mine.gen ((W.foldl (doneS g.su) (np', [])).2) fun zs ezs => ?_
    rw [ezs] at S9 ks2 zl
    have hzl : zs.length ≤ 10 := by
     have := nodup_len ks2.wn zl; omega
    simp! [d4, own9]
    refine getReady_run S9 p9 (Nat.le_refl _) (by omega) ?_
    intro h10 S10 kl10 p10
    simp! [id_eq]
    refine filter_run (xs := zs) (ys := [8]) (.inl rfl) ⟨0, at_app0 _ _⟩ (by omega) ?_
    intro w' h11 p11 lw' iw'
    have hz8 : (zs.filter fun z => !([8] : List Int).contains z) = zs := by
     refine List.filter_eq_self.mpr fun x hx => ?_
     have : x ≠ 8 := fun e => h8' (e ▸ zl x hx)
     simpa using this
    rw [hz8] at iw'
    simp! [id_eq]
    have p1011 : h10 <+: h11 := (pre_app _ _).trans p11
    have klm : KeepL R h8 h10 := kl9.trans kl10
    have b8 := p8.length_le
    have b10 := klm.2
    have b11 := p1011.length_le
    have bw : h10.length ≤ w' := by rw [List.length_append] at lw'; omega
    have hless := fallen_less hfe
    have em : minus Lc W = Lc.filter fun x => !W.contains x := rfl
    refine ⟨(minus Lc W).length, by rw [fe2]; exact hless, minus Lc W, zs, _, acc ++ [sortZ W], w', l', rfl, ks2, (List.filter_sublist).trans lsub, S10.grow p1011, iw', (iL8.keep klm (by omega)).mono p1011, ((rd7.mono p8).keep klm (by omega) (by omega)).mono p1011, by omega, by omega, by omega, by omega, .inr (by have := p5.length_le; omega), p10.trans p1011, ?_, (show h2.length ≤ h11.length by omega), ?_, ?_⟩
    ·rw [fe2, List.length_append, List.length_singleton]; omega
    ·rw [← htot, fallsN_step rfl hfe, fe2, fe1]; simp
    ·simp! [d3, d4, d5]
  simp! [hown]
  refine prepare_run S1 p1 (Nat.le_refl _) (by omega) hcl (by omega) ?_
  intro h2 R ni sr dd r S2 p2 lR hr
  rcases hr with ⟨rfl, rk⟩ | ⟨rfl, rk⟩
  ·simp only [kLift_eq, kExprX_ok, kTry_next, kSeq_next]
   have := rgi.1 rk
   subst this
   refine rest_run h2 R ni sr dd _ S2 p2 lR ?_ ?_ ?_ <;> simp! [a1]
  ·simp only [kLift_eq, kExprX_er, kTry_exc, wp_noExc, wp_set, wpA_pure, kSet_eq, kNoExc_next, kSeq_next]
   have := rgi.2 rk
   subst this
   refine rest_run h2 R ni sr dd _ S2 p2 lR ?_ ?_ ?_ <;> simp! [a1]
noncomputable def liveL (ar : List (Int × Int)) (live part : List Int) : List Int := minus live (minus (rowOf part live) (keptOf ar live (rowOf part live)))
noncomputable def toldF (ar : List (Int × Int)) : List (List Int) → List Int → List Rc := List.rec (fun zz => []) fun p zz ih live => .sweep (ringedOf (srcA ar) live) (swept1 (srcA ar) live).1 (swept1 (srcA ar) live).2 :: lookF ar (swept1 (srcA ar) live).2 p :: ih (liveL ar (swept1 (srcA ar) live).2 p)
theorem toldF_nil (ar : List (Int × Int)) (live : List Int) : toldF ar [] live = [] := rfl
theorem toldF_cons (ar : List (Int × Int)) (p : List Int) (ps : List (List Int)) (live : List Int) : toldF ar (p :: ps) live = .sweep (ringedOf (srcA ar) live) (swept1 (srcA ar) live).1 (swept1 (srcA ar) live).2 :: lookF ar (swept1 (srcA ar) live).2 p :: toldF ar ps (liveL ar (swept1 (srcA ar) live).2 p) := rfl
theorem r8_sorted : r8.Pairwise (· < ·) := by decide
theorem r8_len : r8.length = 8 := by decide
theorem idx2 {h : AH} {r k : Nat} {a b c : AV} (e : h[r]? = some (.list [a, b, c], k)) : aIdx (.ref r) (.int 2) h = some c := by
 have : idxOf 2 [a, b, c].length = some 2 := by show idxOf 2 3 = some 2; decide
 exact aIdx_at e this rfl
theorem told_run {h0 : AH} {P A lo : Nat} {parts : List (List Int)} {ar : List (Int × Int)} {K : AV → AH → Prop} (hP : RL h0 lo P parts) (hA : AL h0 A ar) (hp : parts.length ≤ 100) (sa : ar.length ≤ 50)
  (k : ∀ h' R, h0 <+: h' → h0.length ≤ R → TL h' R ((toldF ar parts r8).map Rc.data) → K (.ref R) h') : wpH (aTold [.ref P, .ref A]) K h0 := by
 refine wp_def (bs := [("parts", .ref P), ("arrows", .ref A)]) rfl ?_
 unfold told.prog
 obtain ⟨prefs, kP, eP, nP, iP⟩ := hP
 have hPl := lt_of_get eP
 simp! [aRange, aListR, put_nil, put_cons, itemsOf, Int.reduceLE, Int.reduceToNat, app_old hPl, eP]
 refine Mine.gen ((toldF ar parts r8).map Rc.data) fun tot htot => ?_
 rw [htot] at k
 refine wp_forLoop (fun items st => ∃ (prefs : List Nat) (prest : List (List Int)) (live : List Int) (l : Nat) (ds : List PyData), items = prefs.map .ref ∧ ILs h0 prefs prest ∧ h0 <+: st.hp ∧ IL st.hp l live ∧ live.Sublist r8 ∧ TL st.hp (h0.length + 2) ds ∧ l ≠ h0.length + 2 ∧ ds.length + 2 * prest.length ≤ 1000 ∧ ds ++ (toldF ar prest live).map Rc.data = tot ∧
  st.env.lookup "live" = some (.ref l) ∧ st.env.lookup "arrows" = some (.ref A) ∧ st.env.lookup "told" = some (.ref (h0.length + 2))) ?_ ?_ ?_ _ _ ?_
 rotate_right
 ·refine ⟨prefs, parts, r8, h0.length + 1, [], rfl, iP, pre_app _ _, ⟨0, at_app _ _ 1⟩, List.Sublist.refl _, ⟨[], 0, at_app _ _ 2, .nil⟩, by omega, by simp; omega, by rw [← htot]; rfl, ?_⟩
  simp! [id_eq]
 ·rintro items ⟨e, h⟩ zI2 g hg
  obtain ⟨prefs', prest, live, l, ds, rfl, iP', p, _⟩ := zI2
  simp only [List.mem_singleton] at hg
  subst hg
  exact prefix_get p eP
 ·rintro x items ⟨e, h⟩ zI3
  obtain ⟨prefs', prest, live, l, ds, hi, iP', p, iL, sub, tL, lR, hds, htt, e1, e2, e3⟩ := zI3
  simp only at p iL tL e1 e2 e3
  cases iP' with
  | nil => cases hi
  | @cons pr part pfs prest hpr iP' =>
  simp only [List.map_cons, List.cons.injEq] at hi
  obtain ⟨rfl, rfl⟩ := hi
  have hlen : live.length ≤ 8 := by have := sub.length_le; rw [r8_len] at this; exact this
  have hso : live.Pairwise (· < ·) := r8_sorted.sublist sub
  have hin : InR 8 live := fun x hx => inR_r8 x (sub.subset hx)
  simp only [List.length_cons] at hds
  simp! [e3, tL.ty, e1, e2]
  refine swept_run iL (hA.mono p) (by omega) sa hin hso ?_
  intro h1 r R1 T1 p1 lr lR1 hT1 er rl1 il1
  refine Mine.gen ((swept1 (srcA ar) live).2) fun live1 el1 => ?_
  rw [el1] at il1
  have sub1 : live1.Sublist live := el1 ▸ fallsN_sub _ _ _ _
  have ltL := tL.lt
  have T1R : T1 ≠ h0.length + 2 := by rcases hT1 with rfl | h <;> omega
  simp! [id_eq]
  refine aStart (d := (Rc.sweep (ringedOf (srcA ar) live) (swept1 (srcA ar) live).1 live1).data) (tL.mono p1) (sweep_data (k := 0) (by rw [set_ne (by omega)]; exact er) (rl1.set (by omega) (by omega)) (il1.set (Ne.symm T1R))) (by omega) ?_
  intro h2 tL2 same2 l2 ⟨refs2, k2, er2, lr2⟩
  have er2' : h2[h0.length + 2]? = some (AObj.list (refs2.map AV.ref ++ [AV.ref r]), k2) := by rw [er2]; simp
  have il2 : IL h2 T1 live1 := il1.same (same2 _ T1R)
  have err2 : h2[r]? = some (.list [.bool (ringedOf (srcA ar) live), .ref R1, .ref T1], 0) := by rw [same2 _ (by omega)]; exact er
  have p2 : h0 <+: h2 := pre_same (p.trans p1) fun i hi => same2 i (by omega)
  have ix1 := aIdx_last er2' (by rw [List.length_map]; omega)
  have ix2 := idx2 err2
  simp! [e3, tL2.ty, Int.reduceNeg, ix1, ix2, e2]
  have sl1 : live1.length ≤ 8 := Nat.le_trans sub1.length_le hlen
  refine looked_run il2 (hpr.mono p2) (hA.mono p2) (by omega) (by omega) ?_
  intro h3 r3 A1 B1 C1 p3 lr3 lA lB lC e3r iA iB iC
  have hl := tL2.lt
  simp! [id_eq]
  refine aStart (d := (lookF ar live1 part).data) (tL2.mono p3) (look_data (k := 0) (by rw [set_ne (by omega)]; exact e3r) (iA.set (by omega)) (iB.set (by omega)) (iC.set (by omega))) (by simp only [List.length_append, List.length_cons, List.length_nil]; omega) ?_
  intro h4 tL4 same4 l4 ⟨refs4, k4, er4, lr4⟩
  have er4' : h4[h0.length + 2]? = some (AObj.list (refs4.map AV.ref ++ [AV.ref r3]), k4) := by rw [er4]; simp
  have err4 : h4[r3]? = some (.list [.ref A1, .ref B1, .ref C1], 0) := by rw [same4 _ (by omega)]; exact e3r
  have p4 : h0 <+: h4 := pre_same (p2.trans p3) fun i hi => same4 i (by omega)
  have lr4' : refs4.length < 1000000 := by rw [lr4]; simp only [List.length_append, List.length_cons, List.length_nil]; omega
  have ix3 := aIdx_last er4' (by rw [List.length_map]; exact lr4')
  have ix4 := idx2 err4
  simp! [e3, Int.reduceNeg, ix3, ix4]
  refine ⟨pfs, prest, liveL ar live1 part, C1, _, rfl, iP', p4, iC.same (same4 _ (by omega)), ((List.filter_sublist).trans sub1).trans sub, tL4, by omega, by simp only [List.length_append, List.length_cons, List.length_nil]; omega, ?_, ?_⟩
  ·rw [← htt, toldF_cons, el1]; simp
  ·simp! [e2, e3]
 ·rintro ⟨e, h⟩ zI1
  obtain ⟨prefs', prest, live, l, ds, hi, iP', p, iL, sub, tL, lR, hds, htt, e1, e2, e3⟩ := zI1
  have hn : prefs' = [] := by simpa using hi.symm
  subst hn
  cases iP'
  simp! [e3]
  simp only [toldF_nil, List.map_nil, List.append_nil] at htt
  subst htt
  exact k _ _ p (by omega) tL
theorem cnt1 {a b c : Nat} (h : 0 < b) : c + (a - (b - 1)) = c + (a + 1 - b) ∧ b - 1 - a = b - (a + 1) := by omega
theorem cnt2 {a b c : Nat} (h : b = 0) : c + 1 + (a - b) = c + (a + 1 - b) ∧ b - a = b - (a + 1) := by omega
theorem uldF_count (xs : List Int) : ∀ (act miss : List Int) (x : Int), (uldF xs act miss).1.count x = miss.count x + (xs.count x - act.count x) ∧ (uldF xs act miss).2.count x = act.count x - xs.count x := by
 induction xs with
 | nil => exact fun act miss x => ⟨(Nat.add_zero _).symm.trans (by rw [List.count_nil, Nat.zero_sub]; rfl), rfl⟩
 | cons y xs ih =>
  intro act miss x
  rw [uldF_cons]
  by_cases hc : act.contains y = true
  ·rw [if_pos hc, (ih (act.erase y) miss x).1, (ih (act.erase y) miss x).2]
   by_cases e : x = y
   ·subst e
    rw [List.count_erase_self, List.count_cons_self]
    exact cnt1 (List.count_pos_iff.mpr (by simpa using hc))
   ·rw [List.count_erase_of_ne e, List.count_cons_of_ne (Ne.symm e)]
    exact ⟨rfl, rfl⟩
  ·rw [if_neg hc, (ih act (miss ++ [y]) x).1, (ih act (miss ++ [y]) x).2, List.count_append]
   by_cases e : x = y
   ·subst e
    rw [List.count_cons_self, List.count_cons_self]
    exact cnt2 (List.count_eq_zero.mpr (by simpa using hc))
   ·rw [List.count_cons_of_ne (Ne.symm e), List.count_cons_of_ne (Ne.symm e)]
    exact ⟨rfl, rfl⟩
theorem count_map_snd (ar : List (Int × Int)) (q : Int × Int → Bool) (x : Int) : ((ar.filter q).map (·.2)).count x = (ar.filter fun p => q p && decide (p.2 = x)).length := by
 rw [count_filter_len, List.filter_map, List.length_map, List.filter_filter]
 congr 2; funext p
 simp only [Function.comp]; rw [Bool.and_comm]
theorem srcA_filter (ar : List (Int × Int)) (q : Int → Bool) (x : Int) : ((srcA ar x).filter q).length = (ar.filter fun p => q p.1 && decide (p.2 = x)).length := by
 unfold srcA
 rw [List.filter_map, List.length_map, List.filter_filter]
 rfl
theorem count_dueOuter {src : Int → List Int} {t1 : List Int} (q : Int → Bool) (x : Int) (row : List Int) : row.Nodup → (row.flatMap fun name => ((src name).filter q).map fun zz => name).count x = if x ∈ row then ((src x).filter q).length else 0 := by
 induction row with
 | nil => exact fun zz => rfl
 | cons y row ih =>
  intro h
  obtain ⟨h1, h2⟩ := List.nodup_cons.mp h
  rw [List.flatMap_cons, List.count_append, ih h2]
  have hc : (((src y).filter q).map fun zz => y).count x = if x = y then ((src y).filter q).length else 0 := by
   generalize (src y).filter q = l
   induction l with
   | nil => exact (ite_self 0).symm
   | cons a l ih =>
    rw [List.map_cons, List.count_cons, ih]
    by_cases e : x = y
    ·subst e; simp
    ·have : (y == x) = false := by simpa using fun q : y = x => e q.symm
     simp [e, this]
  rw [hc]
  by_cases e : x = y
  ·subst e; simp [h1]
  ·simp [e]
theorem flatMap_sorted {g : Int → List Int} (hg : ∀ x, ∀ y ∈ g x, y = x) (row : List Int) : row.Pairwise (· < ·) → (row.flatMap g).Pairwise (· ≤ ·) := by
 induction row with
 | nil => exact fun zz => List.Pairwise.nil
 | cons y row ih =>
  intro h
  obtain ⟨h1, h2⟩ := List.pairwise_cons.mp h
  rw [List.flatMap_cons, List.pairwise_append]
  refine ⟨?_, ih h2, fun a ha b hb => ?_⟩
  ·have : ∀ l : List Int, (∀ z ∈ l, z = y) → l.Pairwise (· ≤ ·) := by
    intro l
    induction l with
    | nil => intro _; exact List.Pairwise.nil
    | cons a l ih =>
     intro hl
     refine List.pairwise_cons.mpr ⟨fun z hz => ?_, ih fun z hz => hl z (List.mem_cons_of_mem _ hz)⟩
     rw [hl a List.mem_cons_self, hl z (List.mem_cons_of_mem _ hz)]; exact Int.le_refl _
   exact this _ (hg y)
  ·obtain ⟨x, hx, hb⟩ := List.mem_flatMap.mp hb
   rw [hg y a ha, hg x b hb]
   exact Int.le_of_lt (h1 x hx)
section
variable {ar : List (Int × Int)} {live row : List Int}
theorem outer_eq (hso : live.Pairwise (· < ·)) (hrow : row.Sublist live) (h8 : 8 ∉ live) : sortZ (outerOf ar live row).1 = dueOuter (srcA ar) live row ∧ (outerOf ar live row).2 = [] ∧ ∀ x, x ∈ (outerOf ar live row).1 ↔ x ∈ dueOuter (srcA ar) live row := by
 have hrs : row.Pairwise (· < ·) := hso.sublist hrow
 have hrn : row.Nodup := hrs.imp fun h => by omega
 have hsub : ∀ x ∈ row, x ∈ live := fun x hx => hrow.subset hx
 have h8r : 8 ∉ row := fun h => h8 (hsub 8 h)
 have hsplit : ∀ x, x ∈ row → (intoOf ar live row).count x = (withinOf ar row).count x + (dueOuter (srcA ar) live row).count x := fun x hx => by
  unfold intoOf withinOf dueOuter
  rw [count_map_snd, count_map_snd, count_dueOuter (t1 := live) _ x row hrn, if_pos hx, srcA_filter]
  refine filter_split _ _ _ _ fun p zz => ?_
  unfold b2n
  by_cases e : p.2 = x
  ·rw [e]
   by_cases h1 : p.1 ∈ row
   ·have h2 := hsub _ h1
    have h3 : p.1 ≠ 8 := fun q => h8r (q ▸ h1)
    simp [hx, h1, h2, h3]
   ·by_cases h2 : p.1 ∈ live <;> by_cases h3 : p.1 = 8 <;> simp [hx, h1, h2, h3, h8r]
  ·simp [e]
 have hout : ∀ x, x ∉ row → (intoOf ar live row).count x = 0 ∧ (withinOf ar row).count x = 0 ∧ (dueOuter (srcA ar) live row).count x = 0 := fun x hx => by
  refine ⟨List.count_eq_zero.mpr fun h => ?_, List.count_eq_zero.mpr fun h => ?_, ?_⟩
  ·obtain ⟨p, hp, rfl⟩ := List.mem_map.mp h
   have := (List.mem_filter.mp hp).2
   simp at this; exact hx this.2
  ·obtain ⟨p, hp, rfl⟩ := List.mem_map.mp h
   have := (List.mem_filter.mp hp).2
   simp at this; exact hx this.2
  ·unfold dueOuter
   rw [count_dueOuter (t1 := live) _ x row hrn, if_neg hx]
 have hc1 : ∀ x, (outerOf ar live row).1.count x = (dueOuter (srcA ar) live row).count x := fun x => by
  have := (uldF_count (intoOf ar live row).reverse (withinOf ar row) [] x).1
  unfold outerOf
  rw [this, List.count_reverse]
  by_cases hx : x ∈ row
  ·have := hsplit x hx; simp; omega
  ·obtain ⟨a, b, c⟩ := hout x hx
   rw [a, b, c]; simp
 have hc2 : ∀ x, (outerOf ar live row).2.count x = 0 := fun x => by
  have := (uldF_count (intoOf ar live row).reverse (withinOf ar row) [] x).2
  unfold outerOf
  rw [this, List.count_reverse]
  by_cases hx : x ∈ row
  ·have := hsplit x hx; omega
  ·obtain ⟨a, b, c⟩ := hout x hx
   omega
 refine ⟨sorted_eq (sortZ_sorted _) ?_ fun x => by rw [count_sortZ, hc1], ?_, fun x => by rw [← List.count_pos_iff, hc1, List.count_pos_iff]⟩
 ·unfold dueOuter
  exact flatMap_sorted (fun x y hy => by
   obtain ⟨_, _, e⟩ := List.mem_map.mp hy; exact e.symm) row hrs
 ·refine List.eq_nil_iff_forall_not_mem.mpr fun x hx => ?_
  have := List.count_pos_iff.mpr hx
  rw [hc2] at this; omega
inductive Reach (src : Int → List Int) (row O : List Int) : Int → Prop
 | base {x : Int} : x ∈ row → x ∈ O → Reach src row O x
 | step {x y : Int} : x ∈ row → Reach src row O y → y ∈ src x → Reach src row O x
theorem mem_ahead {found : List Int} {x : Int} : x ∈ aheadOf ar found ↔ ∃ y ∈ found, y ∈ srcA ar x := by
 unfold aheadOf srcA
 simp only [List.mem_map, List.mem_filter, decide_eq_true_eq, List.contains_eq_mem]
 constructor
 ·rintro zI0
  obtain ⟨p, ⟨hp, hf⟩, rfl⟩ := zI0
  exact ⟨p.1, hf, p, ⟨hp, rfl⟩, rfl⟩
 ·rintro zI0
  obtain ⟨y, hy, p, ⟨hp, rfl⟩, rfl⟩ := zI0
  exact ⟨p, ⟨hp, hy⟩, rfl⟩
theorem mem_mm {row ys : List Int} {x : Int} : x ∈ minus row (minus row ys) ↔ x ∈ row ∧ x ∈ ys := by
 unfold minus
 simp only [List.mem_filter, List.contains_eq_mem, Bool.not_eq_true', decide_eq_false_iff_not, not_and, Classical.not_not]
 constructor
 ·rintro ⟨h1, h2⟩; exact ⟨h1, h2 h1⟩
 ·rintro ⟨h1, h2⟩; exact ⟨h1, fun zz => h2⟩
theorem keptN_reach {O : List Int} (n : Nat) : ∀ (kept found : List Int), (minus row kept).length < n → (∀ x ∈ found, x ∈ row ∧ x ∉ kept) → (∀ x, x ∈ kept ∨ x ∈ found → Reach (srcA ar) row O x) → (∀ x ∈ row, x ∈ O → x ∈ kept ∨ x ∈ found) →
  (∀ y ∈ kept, ∀ x ∈ row, y ∈ srcA ar x → x ∈ kept ∨ x ∈ found) → ∀ x, x ∈ keptN ar row n kept found ↔ Reach (srcA ar) row O x := by
 induction n with
 | zero => exact fun zz zz h => absurd h (Nat.not_lt_zero _)
 | succ n ih0 =>
  intro kept found h hs hr ho hc
  rw [keptN_succ]
  by_cases hf : found = []
  ·rw [if_pos hf]
   subst hf
   refine fun x => ⟨fun hx => hr x (.inl hx), fun hx => ?_⟩
   induction hx with
   | base h1 h2 => exact (ho _ h1 h2).resolve_right (by simp)
   | step h1 _ h3 ih => exact (hc _ ih _ h1 h3).resolve_right (by simp)
  ·rw [if_neg hf]
   have hless := minus_less hs hf
   have hmem : ∀ x, x ∈ minus (minus row (minus row (aheadOf ar found))) (kept ++ found) ↔ (x ∈ row ∧ x ∈ aheadOf ar found) ∧ x ∉ kept ++ found := fun x => by
    rw [← mem_mm]; unfold minus; simp only [List.mem_filter, List.contains_eq_mem, Bool.not_eq_true', decide_eq_false_iff_not]
   refine ih0 _ _ (by omega) (fun x hx => ⟨((hmem x).mp hx).1.1, ((hmem x).mp hx).2⟩) (fun x hx => ?_) (fun x hx hO => .inl ?_) (fun y hy x hx hyx => ?_)
   ·rcases hx with hx | hx
    ·exact hr x (List.mem_append.mp hx)
    ·obtain ⟨⟨a, b⟩, _⟩ := (hmem x).mp hx
     obtain ⟨y, hy, hyx⟩ := mem_ahead.mp b
     exact .step a (hr y (.inr hy)) hyx
   ·exact List.mem_append.mpr (ho x hx hO)
   ·by_cases hin : x ∈ kept ++ found
    ·exact .inl hin
    ·rcases List.mem_append.mp hy with hy | hy
     ·exact absurd (List.mem_append.mpr (hc y hy x hx hyx)) hin
     ·exact .inr ((hmem x).mpr ⟨⟨hx, mem_ahead.mpr ⟨y, hy, hyx⟩⟩, hin⟩)
theorem kept_reach (x : Int) : x ∈ keptOf ar live row ↔ Reach (srcA ar) row (outerOf ar live row).1 x := by
 unfold keptOf
 refine keptN_reach (row.length + 1) [] _ (Nat.lt_succ_of_le (minus_len _ _)) (fun x hx => ⟨(mem_mm.mp hx).1, by simp⟩) (fun x hx => ?_) (fun x hx hO => .inr (mem_mm.mpr ⟨hx, hO⟩)) (fun y hy => (by cases hy)) x
 have hx := hx.resolve_left (by simp)
 exact .base (mem_mm.mp hx).1 (mem_mm.mp hx).2
theorem mem_safeStep {src : Int → List Int} {safe : List Int} {x : Int} : x ∈ safeStep src row safe ↔ x ∈ row ∧ (x ∈ safe ∨ ∃ y ∈ safe, y ∈ src x) := by
 unfold safeStep
 rw [List.mem_filter]
 have : (src x).filter (fun one => safe.contains one) ≠ [] ↔ ∃ y ∈ safe, y ∈ src x := by
  constructor
  ·intro hne
   obtain ⟨y, hy⟩ := List.exists_mem_of_ne_nil _ hne
   obtain ⟨a, b⟩ := List.mem_filter.mp hy
   exact ⟨y, by simpa using b, a⟩
  ·rintro zI0 e
   obtain ⟨y, a, b⟩ := zI0
   have : y ∈ (src x).filter (fun one => safe.contains one) := List.mem_filter.mpr ⟨b, by simpa using a⟩
   rw [e] at this; cases this
 rw [← this]
 by_cases h : x ∈ safe
 ·simp [h]
 ·simp [h]
noncomputable def Closed (src : Int → List Int) (row T : List Int) : Prop := ∀ x ∈ safeStep src row T, x ∈ T
theorem Closed.step {src : Int → List Int} {T : List Int} (c : Closed src row T) : Closed src row (safeStep src row T) := fun x hx => by
 obtain ⟨h1, h2⟩ := mem_safeStep.mp hx
 rcases h2 with h2 | ⟨y, hy, hyx⟩
 ·exact h2
 ·exact mem_safeStep.mpr ⟨h1, .inr ⟨y, c y hy, hyx⟩⟩
theorem Closed.iter {src : Int → List Int} (n : Nat) : ∀ {T : List Int}, Closed src row T → Closed src row (iterN (safeStep src row) n T) := by
 induction n with
 | zero => exact fun c => c
 | succ n ih => exact fun c => ih c.step
theorem iter_closed {src : Int → List Int} (n : Nat) : ∀ T : List Int, (minus row T).length ≤ n → Closed src row (iterN (safeStep src row) n T) := by
 induction n with
 | zero =>
  intro T h x hx
  have hx := (mem_safeStep.mp hx).1
  apply Classical.byContradiction
  intro hn
  have hn' : x ∉ T := hn
  have : x ∈ minus row T := List.mem_filter.mpr ⟨hx, by simpa using hn'⟩
  rw [List.length_eq_zero_iff.mp (Nat.le_zero.mp h)] at this; cases this
 | succ n ih =>
  intro T h
  by_cases hc : Closed src row T
  ·exact hc.iter (n + 1)
  ·refine ih _ ?_
   obtain ⟨x, hx⟩ := Classical.not_forall.mp hc
   obtain ⟨h1, h2⟩ := Classical.not_imp.mp hx
   have e : minus row (safeStep src row T) = (minus row T).filter fun z => !(safeStep src row T).contains z := by
    unfold minus
    rw [List.filter_filter]
    refine List.filter_congr fun z hz => ?_
    by_cases a : z ∈ T
    ·have : z ∈ safeStep src row T := mem_safeStep.mpr ⟨hz, .inl a⟩
     simp [a, this]
    ·simp [a]
   rw [e]
   exact Nat.le_of_lt_succ (Nat.lt_of_lt_of_le (filter_len_lt (x := x) (List.mem_filter.mpr ⟨(mem_safeStep.mp h1).1, by simpa using h2⟩) (by simpa using h1)) h)
theorem iter_sound {src : Int → List Int} {O : List Int} (n : Nat) : ∀ T : List Int, (∀ x ∈ T, x ∈ row → Reach src row O x) → (∀ x ∈ T, x ∈ row) → ∀ x ∈ iterN (safeStep src row) n T, Reach src row O x := by
 induction n with
 | zero => exact fun T h hr x hx => h x hx (hr x hx)
 | succ n ih =>
  intro T h hr
  exact ih _ (fun x hx zz => by
   obtain ⟨h1, h2⟩ := mem_safeStep.mp hx
   rcases h2 with h2 | ⟨y, hy, hyx⟩
   ·exact h x h2 h1
   ·exact .step h1 (h y hy (hr y hy)) hyx) fun x hx => (mem_safeStep.mp hx).1
theorem iter_base {src : Int → List Int} (n : Nat) : ∀ (T : List Int) (x : Int), x ∈ row → x ∈ T → x ∈ iterN (safeStep src row) n T := by
 induction n with
 | zero => exact fun zz zz zz h => h
 | succ n ih => exact fun zz x hr h => ih _ x hr (mem_safeStep.mpr ⟨hr, .inl h⟩)
theorem safe_reach {src : Int → List Int} {O : List Int} (hO : ∀ x ∈ O, x ∈ row) (x : Int) : x ∈ iterN (safeStep src row) row.length O ↔ Reach src row O x := by
 constructor
 ·exact iter_sound _ _ (fun x hx hr => .base hr hx) hO x
 ·intro h
  have hc := iter_closed (src := src) (row := row) row.length O (minus_len _ _)
  induction h with
  | base h1 h2 => exact iter_base _ _ _ h1 h2
  | step h1 _ h3 ih => exact hc _ (mem_safeStep.mpr ⟨h1, .inr ⟨_, ih, h3⟩⟩)
theorem Reach.congr {src : Int → List Int} {O O' : List Int} (h : ∀ x, x ∈ O ↔ x ∈ O') {x : Int} (r : Reach src row O x) : Reach src row O' x := by
 induction r with
 | base h1 h2 => exact .base h1 ((h _).mp h2)
 | step h1 _ h3 ih => exact .step h1 ih h3
theorem left_eq {part : List Int} (hso : live.Pairwise (· < ·)) (h8 : 8 ∉ live) : liveL ar live part = leftOf (srcA ar) live (rowOf part live) := by
 have hrow : (rowOf part live).Sublist live := List.filter_sublist
 obtain ⟨_, _, hO⟩ := outer_eq (ar := ar) hso hrow h8
 have hOr : ∀ x ∈ dueOuter (srcA ar) live (rowOf part live), x ∈ rowOf part live := fun x hx => by
  unfold dueOuter at hx
  obtain ⟨y, hy, hx⟩ := List.mem_flatMap.mp hx
  obtain ⟨_, _, e⟩ := List.mem_map.mp hx
  exact e ▸ hy
 have hk : ∀ x, x ∈ keptOf ar live (rowOf part live) ↔ x ∈ safeOf (srcA ar) live (rowOf part live) := fun x => by
  rw [kept_reach]
  unfold safeOf
  rw [safe_reach hOr]
  exact ⟨fun r => r.congr hO, fun r => r.congr fun x => (hO x).symm⟩
 unfold liveL leftOf minus
 refine List.filter_congr fun x zz => ?_
 by_cases h1 : x ∈ rowOf part live
 ·by_cases h2 : x ∈ keptOf ar live (rowOf part live)
  ·have := (hk x).mp h2; simp [h1, h2, this]
  ·have : x ∉ safeOf (srcA ar) live (rowOf part live) := fun q => h2 ((hk x).mpr q)
   simp [h1, h2, this]
 ·simp [h1]
end
theorem told_due (ar : List (Int × Int)) (parts : List (List Int)) : ∀ live : List Int, live.Sublist r8 → toldF ar parts live = dueF (srcA ar) parts live := by
 induction parts with
 | nil => exact fun zz zz => rfl
 | cons p ps ih =>
  intro live hs
  have hsub : (swept1 (srcA ar) live).2.Sublist live := fallsN_sub _ _ _ _
  have hs1 : (swept1 (srcA ar) live).2.Sublist r8 := hsub.trans hs
  have hso : (swept1 (srcA ar) live).2.Pairwise (· < ·) := r8_sorted.sublist hs1
  have h8 : 8 ∉ (swept1 (srcA ar) live).2 := fun h => by have := inR_r8 8 (hs1.subset h); omega
  obtain ⟨o1, o2, _⟩ := outer_eq (ar := ar) (row := rowOf p (swept1 (srcA ar) live).2) hso List.filter_sublist h8
  have hl := left_eq (ar := ar) (part := p) hso h8
  have hlook : lookF ar (swept1 (srcA ar) live).2 p = .look (dueOuter (srcA ar) (swept1 (srcA ar) live).2 (rowOf p (swept1 (srcA ar) live).2)) [] (leftOf (srcA ar) (swept1 (srcA ar) live).2 (rowOf p (swept1 (srcA ar) live).2)) := by
   unfold lookF
   rw [o1, o2, ← hl]; rfl
  rw [toldF_cons, dueF_cons]
  have hsl : (leftOf (srcA ar) (swept1 (srcA ar) live).2 (rowOf p (swept1 (srcA ar) live).2)).Sublist r8 := (List.filter_sublist).trans hs1
  rw [hlook, hl, ih _ hsl]
theorem Rc.refl (r : Rc) : PyData.eqv r.data r.data = true := by
 have hl : ∀ a : List Int, PyData.eqv (LI a) (LI a) = true := fun a => by
  simp only [LI, PyData.eqv, eqvAll_int, decide_true]
 have hll : ∀ rs : List (List Int), PyData.eqvAll (rs.map LI) (rs.map LI) = true := by
  intro rs
  induction rs with
  | nil => rfl
  | cons a rs ih => simp only [List.map_cons, PyData.eqvAll, hl, ih, Bool.and_self]
 cases r with
 | sweep b rs l => simp only [Rc.data, PyData.eqv, PyData.eqvAll, hl, hll, beq_self_eq_true, Bool.and_self]
 | look a b c => simp only [Rc.data, PyData.eqv, PyData.eqvAll, hl, Bool.and_self]
theorem rcs_refl (rs : List Rc) : PyData.eqvAll (rs.map Rc.data) (rs.map Rc.data) = true := by
 induction rs with
 | nil => rfl
 | cons r rs ih => simp only [List.map_cons, PyData.eqvAll, r.refl, ih, Bool.and_self]
theorem fallen_congr {f g : Int → List Int} {out : Int → Bool} {there : List Int} (h : ∀ x ∈ there, f x = g x) : fallen f out there = fallen g out there := by
 unfold fallen
 exact List.filter_congr fun x hx => by rw [h x hx]
theorem fallsN_congr {f g : Int → List Int} {out : Int → Bool} (n : Nat) : ∀ there : List Int, (∀ x ∈ there, f x = g x) → fallsN f out n there = fallsN g out n there := by
 induction n with
 | zero => exact fun zz zz => rfl
 | succ n ih =>
  intro there h
  rw [fallsN_succ, fallsN_succ, fallen_congr h, ih _ fun x hx => h x (List.mem_filter.mp hx).1]
theorem dueOuter_congr {f g : Int → List Int} {t1 row : List Int} (h : ∀ x ∈ row, f x = g x) : dueOuter f t1 row = dueOuter g t1 row := by
 unfold dueOuter
 rw [List.flatMap_def, List.flatMap_def]
 congr 1
 exact List.map_congr_left fun x hx => by rw [h x hx]
theorem safeStep_congr {f g : Int → List Int} {row : List Int} (h : ∀ x ∈ row, f x = g x) : safeStep f row = safeStep g row := by
 funext safe
 unfold safeStep
 exact List.filter_congr fun x hx => by rw [h x hx]
theorem dueF_congr {f g : Int → List Int} (parts : List (List Int)) : ∀ there : List Int, (∀ x ∈ there, f x = g x) → dueF f parts there = dueF g parts there := by
 induction parts with
 | nil => exact fun zz zz => rfl
 | cons p ps ih =>
  intro there h
  have e1 : ringedOf f there = ringedOf g there := by unfold ringedOf; rw [fallsN_congr _ _ h]
  have e2 : swept1 f there = swept1 g there := by unfold swept1; rw [fallsN_congr _ _ h]
  have hs : ∀ x ∈ (swept1 g there).2, f x = g x := fun x hx => h x ((fallsN_sub _ _ _ _).subset hx)
  have hr : ∀ x ∈ rowOf p (swept1 g there).2, f x = g x := fun x hx => hs x (List.mem_filter.mp hx).1
  have e3 := dueOuter_congr (t1 := (swept1 g there).2) hr
  have e4 : leftOf f (swept1 g there).2 (rowOf p (swept1 g there).2) = leftOf g (swept1 g there).2 (rowOf p (swept1 g there).2) := by
   unfold leftOf safeOf; rw [e3, safeStep_congr hr]
  rw [dueF_cons, dueF_cons]
  have hl : ∀ x ∈ leftOf g (swept1 g there).2 (rowOf p (swept1 g there).2), f x = g x := fun x hx => hs x (List.mem_filter.mp hx).1
  rw [e1, e2, e3, e4, ih _ hl]
theorem pickL_map {α β : Type} (f : α → β) (xs : List α) (lo hi st : Option Int) : pickL (xs.map f) lo hi st = (pickL xs lo hi st).map f := by
 unfold pickL
 rw [List.length_map]
 generalize sliceRange (sliceBounds lo hi st xs.length).1 (sliceBounds lo hi st xs.length).2.1 (sliceBounds lo hi st xs.length).2.2 = l
 induction l with
 | nil => rfl
 | cons a l ih =>
  rw [List.filterMap_cons, List.filterMap_cons, List.getElem?_map]
  cases xs[a]? with
  | none => exact ih
  | some x => simp only [Option.map_some, List.map_cons, ih]
theorem aBin_mod {a b : Int} (hb : b ≠ 0) (h : AH) : aBin .mod (.int a) (.int b) h = some (.int (a.fmod b), h) := by
 show bE (bG _ _) _ = _
 rw [bG_t hb]; rfl
theorem aBin_fdiv {a b : Int} (hb : b ≠ 0 ∧ b.natAbs < 1073741824) (h : AH) : aBin .fdiv (.int a) (.int b) h = some (.int (a.fdiv b), h) := by
 show bE (bG _ _) _ = _
 rw [bG_t hb]; rfl
theorem aBin_pow {a b : Int} (hb : 0 ≤ b ∧ b ≤ 1000000 ∧ a.natAbs < 2 ^ 62) (h : AH) : aBin .pow (.int a) (.int b) h = some (.int (a ^ b.toNat), h) := by
 show bE (bG _ _) _ = _
 rw [bG_t hb]; rfl
theorem compLoop_acc {β : Type} {gs : List (Nat × (AObj × Nat))} {f : AV → AM Unit} {tst : AM Bool} {m : AM (List AV)} (inj : β → AV) (I : List β → List AV → AS → Prop) (hg : ∀ dn acc st, I dn acc st → ∀ x ∈ gs, st.hp[x.1]? = some x.2) :
  ∀ (rest dn : List β) (acc : List AV) (Q : List AV → AS → Prop) (st : AS), (∀ x ∈ rest, ∀ dn acc st, I dn acc st → wpA (f (inj x)) (kTgtC tst m (fun ys st' => I (dn ++ [x]) (acc ++ ys) st')) st) → I dn acc st → (∀ ys st', I (dn ++ rest) (acc ++ ys) st' → Q ys st') → wpA (compLoop gs f tst m (rest.map inj)) Q st := by
 intro rest
 induction rest with
 | nil =>
  intro dn acc Q st hs hI hq
  show wpA (guard gs >>= fun zz => pure []) Q st
  rw [wpA_bind]
  refine wp_guard (hg _ _ _ hI) ?_
  obtain ⟨e, h⟩ := st
  show wpA (pure _) _ _
  rw [wpA_pure]; exact hq [] _ (by simpa using hI)
 | cons x xs ih =>
  intro dn acc Q st hs hI hq
  show wpA (guard gs >>= fun zz => f (inj x) >>= fun zz => tst >>= fun b => if b = true then (m >>= fun ys => compLoop gs f tst m (xs.map inj) >>= fun zs => pure (ys ++ zs)) else compLoop gs f tst m (xs.map inj)) Q st
  rw [wpA_bind]
  refine wp_guard (hg _ _ _ hI) ?_
  show wpA (f (inj x) >>= _) Q st
  rw [wpA_bind]
  refine wpA_mono (hs x List.mem_cons_self dn acc st hI) fun zz st1 h1 => ?_
  show wpA (tst >>= _) Q st1
  rw [wpA_bind]
  refine wpA_mono h1 fun b st2 h2 => ?_
  have hs' := fun y (hy : y ∈ xs) => hs y (List.mem_cons_of_mem _ hy)
  cases b with
  | true =>
   show wpA (m >>= _) Q st2
   rw [wpA_bind]
   refine wpA_mono h2 fun ys st3 h3 => ?_
   show wpA (compLoop gs f tst m (xs.map inj) >>= _) Q st3
   rw [wpA_bind]
   refine ih (dn ++ [x]) (acc ++ ys) _ st3 hs' h3 fun zs st4 h4 => ?_
   obtain ⟨e4, hp4⟩ := st4
   show wpA (pure _) _ _
   rw [wpA_pure]
   refine hq _ _ ?_
   simpa using h4
  | false =>
   show wpA (compLoop gs f tst m (xs.map inj)) Q st2
   refine ih (dn ++ [x]) (acc ++ []) _ st2 hs' h2 fun zs st4 h4 => ?_
   refine hq _ _ ?_
   simpa using h4
noncomputable def starts : List Int := [8, 9, 1, 47, 23, 30, 39, 69, 141, 34, 14]
theorem pickL_some {α : Type} (xs : List α) (lo hi st : Option Int) (n : Nat) (h : xs.length ≤ n) : (pickL xs lo hi st).length ≤ n := Nat.le_trans (pickL_len _ _ _ _) h
theorem filter_true {α : Type} (xs : List α) : xs.filter (fun zz => true) = xs := List.filter_eq_self.mpr fun zz zz => rfl
theorem range8v : (List.range (Int.toNat 8)).map (fun (i : Nat) => AV.int (i : Int)) = r8.map .int := by rfl
theorem law_run {h0 : AH} {xs : List Int} {K : AV → AH → Prop} (hx : xs.length ≤ 63) (k : ∀ h', K (.bool true) h') : wpA law.prog (kBody K) ⟨[("script", .script xs)], h0⟩ := by
 unfold law.prog
 have hxl : xs.length ≤ 1000000 := by omega
 refine Mine.gen (pickL xs none (some 12) none) fun pk epk => ?_
 have lpk : pk.length ≤ 63 := epk ▸ pickL_some xs _ _ _ 63 hx
 simp! [aNew, ne_eq, not_false_eq_true, partOf_none, partOf_int, aSlice, hxl, reduceCtorEq, pickL_map, epk, itemsOf]
 refine comp_filter (β := Int) (inj := .int) (p := fun zz => true) (out := fun c => .int (c.fmod 1000000)) (xs := pk) (hg := fun x hx => (by rw [List.mem_singleton.mp hx]; exact at_app0 _ _)) (hl := by omega) ?_ ?_
 ·intro c hc e' h' he' p'
  have hb : aBin .pow (.int 10) (.int 6) h' = some (.int 1000000, h') := aBin_pow (by decide) h'
  simp! [aInt, hb, aBin_mod (show (1000000 : Int) ≠ 0 by decide)]
  exact ⟨rfl, he'.put (by decide), p'⟩
 intro h1 p1
 rw [filter_true]
 refine Mine.gen (pk.map (fun c => c.fmod 1000000)) fun cs ecs => ?_
 have ecs' : pk.map (fun c => AV.int (c.fmod 1000000)) = cs.map .int := by rw [← ecs, List.map_map]; rfl
 have lcs : cs.length ≤ 63 := by rw [← ecs, List.length_map]; exact lpk
 rw [ecs']
 refine Mine.gen (h1 ++ [(AObj.list (cs.map AV.int), 0)]) fun H1 eH1 => ?_
 have iC : IL H1 h1.length cs := ⟨0, eH1 ▸ at_app0 _ _⟩
 rw [eH1]
 simp! [put_nil, put_cons, enumOf]
 have est : (AObj.list [AV.int 8, AV.int 9, AV.int 1, AV.int 47, AV.int 23, AV.int 30, AV.int 39, AV.int 69, AV.int 141, AV.int 34, AV.int 14]) = .list (starts.map .int) := rfl
 have ezp : ([AV.int 8, AV.int 9, AV.int 1, AV.int 47, AV.int 23, AV.int 30, AV.int 39, AV.int 69, AV.int 141, AV.int 34, AV.int 14].zipIdx.map fun x => AV.tup [.int x.2, x.1]) = starts.zipIdx.map fun x => AV.tup [.int x.2, .int x.1] := rfl
 refine Mine.gen (starts.zipIdx.map (fun x => x.1 + (pickL cs (some (x.2 : Int)) none (some 11)).sum)) fun dr edr => ?_
 have ldr : dr.length = 11 := by rw [← edr, List.length_map]; rfl
 rw [ezp, est]
 refine Mine.gen (H1 ++ [(AObj.list (starts.map AV.int), 0)]) fun H2 eH2 => ?_
 have q2 : H1 <+: H2 := eH2 ▸ pre_app _ _
 have iS : H2[H1.length]? = some (AObj.list (starts.map AV.int), 0) := eH2 ▸ at_app0 _ _
 rw [eH2]
 refine comp_filter (β := Int × Nat) (inj := fun x => .tup [.int x.2, .int x.1]) (p := fun zz => true) (out := fun x => .int (x.1 + (pickL cs (some (x.2 : Int)) none (some 11)).sum)) (xs := starts.zipIdx) (hg := fun x hx => (by rw [List.mem_singleton.mp hx]; exact iS)) (hl := by decide) ?_ ?_
 ·intro x hx e' h' he' p'
  have f1 := he' "cells" (by simp)
  simp! [id_eq] at f1
  obtain ⟨kc, ec⟩ := (iC.mono q2).mono p'
  have hcl : (cs.map AV.int).length ≤ 1000000 := by rw [List.length_map]; omega
  have hcl' : cs.length ≤ 1000000 := by omega
  simp! [aNew, ne_eq, not_false_eq_true, f1, partOf_none, partOf_int, aSlice, ec, hcl', pickL_map, Int.reduceEq, aSum, avInts_map, aBin_add]
  exact ⟨rfl, (he'.put (by decide)).put (by decide), p'.trans (pre_app _ _)⟩
 intro h2 p2
 rw [filter_true]
 have edr' : starts.zipIdx.map (fun x => AV.int (x.1 + (pickL cs (some (x.2 : Int)) none (some 11)).sum)) = dr.map .int := by rw [← edr, List.map_map]; rfl
 rw [edr']
 refine Mine.gen (h2 ++ [(AObj.list (dr.map AV.int), 0)]) fun H3 eH3 => ?_
 have q3 : H2 <+: H3 := eH3 ▸ pre_app' p2 _
 have iD : H3[h2.length]? = some (AObj.list (dr.map AV.int), 0) := eH3 ▸ at_app0 _ _
 rw [eH3]
 simp! [itemsOf, iD]
 refine Mine.gen (dr.map (fun n => (n.fmod 9, (n.fdiv 9).fmod 8))) fun ar ear => ?_
 have lar : ar.length = 11 := by rw [← ear, List.length_map]; exact ldr
 refine comp_filter (β := Int) (inj := .int) (p := fun zz => true) (out := fun n => pr (n.fmod 9, (n.fdiv 9).fmod 8)) (xs := dr) (hg := fun x hx => (by rw [List.mem_singleton.mp hx]; exact iD)) (hl := by omega) ?_ ?_
 ·intro n hn e' h' he' p'
  simp! [aBin_mod (show (9 : Int) ≠ 0 by decide), aBin_mod (show (8 : Int) ≠ 0 by decide), aBin_fdiv (show (9 : Int) ≠ 0 ∧ (9 : Int).natAbs < 1073741824 by decide)]
  exact ⟨rfl, he'.put (by decide), p'⟩
 intro h3 p3
 rw [filter_true]
 have ear' : dr.map (fun n => pr (n.fmod 9, (n.fdiv 9).fmod 8)) = ar.map pr := by rw [← ear, List.map_map]; rfl
 rw [ear']
 refine Mine.gen (h3 ++ [(AObj.list (ar.map pr), 0)]) fun H4 eH4 => ?_
 have q4 : H3 <+: H4 := eH4 ▸ pre_app' p3 _
 have iA : AL H4 h3.length ar := ⟨0, eH4 ▸ at_app0 _ _⟩
 rw [eH4]
 have e8 : ((8 : Int).natAbs < 4611686018427387904) := by decide
 simp! [rangeOf, e8, range8v]
 refine compLoop_acc (inj := .int) (fun dn acc st => ∃ refs : List Nat, acc = refs.map .ref ∧ ILs st.hp refs (dn.map (srcA ar)) ∧ (∀ r ∈ refs, r < st.hp.length) ∧ H4 <+: st.hp ∧ st.env.lookup "arrows" = some (.ref h3.length)) (fun zz zz zz zz x hx => (by cases hx)) r8 [] [] _ _ ?_ ?_ ?_
 ·rintro name hname dn acc ⟨e', h'⟩ zI5
  obtain ⟨refs, rfl, is, hlt, p', f1⟩ := zI5
  simp only at is hlt p' f1
  obtain ⟨ka, ea⟩ := iA.mono p'
  simp! [f1, itemsOf, ea]
  refine comp_arrows ar (fun p => decide (p.2 = name)) (·.1) ea (by decide) ?_ (by omega) ?_
  ·intro x hx e2 h5 P' he' p5 hP'
   have g1 := he' "name" (by simp)
   simp! [id_eq] at g1
   cases hc1 : decide (x.2 = name) <;> simp only [hc1, Bool.false_eq_true, reduceIte] at hP' <;> simp! [g1, aEq_int, hc1, Bool.false_eq_true] <;> exact hP'
  intro h5 p5
  simp! [id_eq]
  have lp5 := p5.length_le
  refine ⟨refs ++ [h5.length], by simp, ?_, fun r hr => ?_, p'.trans (pre_app' p5 _), f1⟩
  ·rw [List.map_append]
   exact (is.mono fun zz zz a => a.mono (pre_app' p5 _)).snoc ⟨0, at_app0 _ _⟩
  ·rcases List.mem_append.mp hr with hr | hr
   ·have := hlt r hr; omega
   ·rw [List.mem_singleton.mp hr]; omega
 ·exact ⟨[], rfl, .nil, fun zz h => (by cases h), List.prefix_refl _, by
   rw [lookup_restrict _ _ (by simp)]; simp! [id_eq]⟩
 rintro ys ⟨e5, h5⟩ zI2
 obtain ⟨refs, hy, is, hlt, p5, -⟩ := zI2
 rw [List.nil_append] at hy
 subst hy
 simp only at is hlt p5
 have lrefs : refs.length = 8 := by rw [is.len, List.length_map]; rfl
 have hr8 : refs.length ≤ 1000000 := by omega
 refine Mine.gen (h5 ++ [(AObj.list (refs.map AV.ref), 0)]) fun H5 eH5 => ?_
 have q5 : H4 <+: H5 := eH5 ▸ pre_app' p5 _
 have rS : RL H5 0 h5.length (r8.map (srcA ar)) := ⟨refs, 0, eH5 ▸ at_app0 _ _, ⟨fun h => by have := hlt _ h; omega, fun zz zz => Nat.zero_le _⟩, eH5 ▸ is.mono fun zz zz a => a.mono (pre_app _ _)⟩
 have iC5 : IL H5 h1.length cs := (((iC.mono q2).mono q3).mono q4).mono q5
 obtain ⟨kc5, ec5⟩ := iC5
 have b2 : ∀ name : Int, name ∈ r8 → (0 ≤ name ∧ name ≤ 1000000 ∧ (2 : Int).natAbs < 2 ^ 62) ∧ ((2 : Int) ^ name.toNat ≠ 0 ∧ ((2 : Int) ^ name.toNat).natAbs < 1073741824) := by decide
 refine ⟨by rw [List.length_map]; exact hr8, ?_⟩
 simp! [eH5, aSum, ec5, avInts_map, aBin_add, rangeOf, e8, range8v]
 refine Mine.gen (14 + cs.sum) fun mark emark => ?_
 rw [emark]
 refine comp_filter (β := Int) (inj := .int) (p := fun name => decide ((mark.fdiv (2 ^ name.toNat)).fmod 2 = 1)) (out := .int) (xs := r8) (hg := fun x hx => (by cases hx)) (hl := by decide) ?_ ?_
 ·intro name hname e' h' he' p'
  have f1 := he' "mark" (by simp)
  simp! [id_eq] at f1
  obtain ⟨c1, c2⟩ := b2 name hname
  simp! [f1, aBin_pow c1, aBin_fdiv c2, aBin_mod (show (2 : Int) ≠ 0 by decide), aEq_int]
  cases hc1 : decide ((mark.fdiv (2 ^ name.toNat)).fmod 2 = 1) <;> simp! [Bool.false_eq_true] <;> exact ⟨rfl, he'.put (by decide), p'⟩
 intro h6 p6
 refine Mine.gen (r8.filter (fun name => decide ((mark.fdiv (2 ^ name.toNat)).fmod 2 = 1))) fun half ehalf => ?_
 rw [ehalf]
 refine Mine.gen (h6 ++ [(AObj.list (half.map AV.int), 0)]) fun H6 eH6 => ?_
 have q6 : H5 <+: H6 := eH6 ▸ pre_app' p6 _
 have iH : IL H6 h6.length half := ⟨0, eH6 ▸ at_app0 _ _⟩
 rw [eH6]
 simp! [rangeOf, e8, range8v]
 refine comp_filter (β := Int) (inj := .int) (p := fun name => !half.contains name) (out := .int) (xs := r8) (hg := fun x hx => (by cases hx)) (hl := by decide) ?_ ?_
 ·intro name hname e' h' he' p'
  have f1 := he' "half" (by simp)
  simp! [id_eq] at f1
  have hm := aMem_list name (iH.mono p')
  simp! [f1, hm]
  cases hc1 : half.contains name <;> simp! [Bool.not_true, Bool.not_false, Bool.false_eq_true] <;> exact ⟨rfl, he'.put (by decide), p'⟩
 intro h7 p7
 refine Mine.gen (r8.filter (fun name => !half.contains name)) fun other eother => ?_
 rw [eother]
 simp! [aRange, aListR, Int.reduceLE, Int.reduceToNat]
 refine Mine.gen (h7 ++ [(AObj.list (other.map AV.int), 0), (AObj.rng 8, 0), (AObj.list ((List.range 8).map fun (i : Nat) => AV.int i), 0), (AObj.list [], 0), (AObj.list [AV.ref h6.length, AV.ref h7.length, AV.ref (h7.length + 2), AV.ref (h7.length + 3)], 0)]) fun H7 eH7 => ?_
 have q7 : H6 <+: H7 := eH7 ▸ pre_app' p7 _
 have l67 := p7.length_le
 have lH6 := iH.lt
 have rP : RL H7 0 (h7.length + 4) [half, other, r8, []] := by
  refine ⟨[h6.length, h7.length, h7.length + 2, h7.length + 3], 0, eH7 ▸ at_app _ _ 4, ⟨?_, fun zz zz => Nat.zero_le _⟩, .cons (iH.mono q7) (.cons ⟨0, eH7 ▸ at_app0 _ _⟩ (.cons ⟨0, ?_⟩ (.cons ⟨0, eH7 ▸ at_app _ _ 3⟩ .nil)))⟩
  ·simp only [List.mem_cons, List.not_mem_nil, or_false, not_or]; omega
  ·rw [← eH7, at_app]; rfl
 rw [eH7]
 have q57 : H5 <+: H7 := q6.trans q7
 refine told_run rP ((iA.mono q5).mono q57) (by simp) (by omega) ?_
 intro h8 R8 p8 lR8 tL8
 simp! [id_eq]
 have hlen : ∀ ys ∈ r8.map (srcA ar), ys.length ≤ 1000 := fun ys hys => by
  obtain ⟨x, _, rfl⟩ := List.mem_map.mp hys
  unfold srcA
  rw [List.length_map]
  exact Nat.le_trans (List.length_filter_le _ _) (by omega)
 refine due_run (rP.mono p8) ((rS.mono q57).mono p8) (by rw [List.length_map]; rfl) hlen (by simp) ?_
 intro h9 R9 p9 lR9 tL9
 have hsrc : ∀ x ∈ r8, srcOf (r8.map (srcA ar)) x = srcA ar x := fun x hx => by
  simp only [r8, List.mem_map, List.mem_range] at hx
  obtain ⟨n, hn, rfl⟩ := hx
  unfold srcOf r8
  simp only [Int.toNat_natCast, List.getElem?_map, List.getElem?_range hn, Option.map_some, Option.getD_some]
 have hdd : dueF (srcOf (r8.map (srcA ar))) [half, other, r8, []] r8 = toldF ar [half, other, r8, []] r8 := by
  rw [dueF_congr _ _ hsrc, told_due ar _ _ (List.Sublist.refl _)]
 rw [hdd] at tL9
 have heq : aEq (.ref R8) (.ref R9) h9 = some true := by
  simp only [aEq, (tL8.mono p9).data, tL9.data, bO_v, PyData.eqv, rcs_refl]
 simp! [heq]
 exact k _
end Mine
open PySem PySem.W PyProof.Rows
namespace Mine
noncomputable def modHook (K : Params → Frag) (as : List Addr) (e : ∀ P, as = (K P).map (·.1)) : Hook :=
 ⟨(kHook K as e).α × Bool, fun s => ((kHook K as e).obs s, (s.heap.get? sysModules).isSome), fun w => ((kHook K as e).val w, true), fun w h => (kHook K as e).says w h ∧ (h.get? sysModules).isSome = true,
  fun w s q => ⟨(kHook K as e).of w s (congrArg Prod.fst q), congrArg Prod.snd q⟩, fun w h h' q hk => ⟨(kHook K as e).keeps w h h' q.1 hk, by
   obtain ⟨o, ho⟩ := Option.isSome_iff_exists.mp q.2
   rw [hk _ _ ho]; rfl⟩⟩
end Mine
theorem Mine.h0.tw11014676502603600922 : True := ⟨⟩
section
local macro_rules
 | `(tactic| o_head $_) => pure (Mine.d "'exact absurd h id /2null /2Lean.Parser.Term.app /2Lean.Parser.Tactic.exact" [])
set_option Elab.async true
set_option maxHeartbeats 8000000 in
theorem Mine.h0 (h : False) : PySem.Challenge.rw_ik0180_01.Holds := by
 w_on; o_law; k_head
end
namespace Mine
noncomputable abbrev KK (P : Params) : Frag := h0.heap_1_39 P
noncomputable def fFilter.got (P : Params) : {fd : FuncData // (KK P).lookup 185 = some ⟨.type "function", none, .func fd, #[]⟩} := ⟨_, rfl⟩
noncomputable abbrev fFilter.fd (P : Params) : FuncData := (fFilter.got P).1
noncomputable def fFilter.took : {b : List Stmt // ∀ P : Params, (fFilter.fd P).body = .stmts b} := ⟨_, fun zz => rfl⟩
noncomputable abbrev fFilter.body : List Stmt := fFilter.took.1
noncomputable def fNiInit.got (P : Params) : {fd : FuncData // (KK P).lookup 36 = some ⟨.type "function", none, .func fd, #[]⟩} := ⟨_, rfl⟩
noncomputable abbrev fNiInit.fd (P : Params) : FuncData := (fNiInit.got P).1
noncomputable def fNiInit.took : {b : List Stmt // ∀ P : Params, (fNiInit.fd P).body = .stmts b} := ⟨_, fun zz => rfl⟩
noncomputable abbrev fNiInit.body : List Stmt := fNiInit.took.1
noncomputable def fFfInit.got (P : Params) : {fd : FuncData // (KK P).lookup 156 = some ⟨.type "function", none, .func fd, #[]⟩} := ⟨_, rfl⟩
noncomputable abbrev fFfInit.fd (P : Params) : FuncData := (fFfInit.got P).1
noncomputable def fFfInit.took : {b : List Stmt // ∀ P : Params, (fFfInit.fd P).body = .stmts b} := ⟨_, fun zz => rfl⟩
noncomputable abbrev fFfInit.body : List Stmt := fFfInit.took.1
noncomputable def fFfIter.got (P : Params) : {fd : FuncData // (KK P).lookup 163 = some ⟨.type "function", none, .func fd, #[]⟩} := ⟨_, rfl⟩
noncomputable abbrev fFfIter.fd (P : Params) : FuncData := (fFfIter.got P).1
noncomputable def fFfIter.took : {b : List Stmt // ∀ P : Params, (fFfIter.fd P).body = .stmts b} := ⟨_, fun zz => rfl⟩
noncomputable abbrev fFfIter.body : List Stmt := fFfIter.took.1
noncomputable def fFfNext.got (P : Params) : {fd : FuncData // (KK P).lookup 170 = some ⟨.type "function", none, .func fd, #[]⟩} := ⟨_, rfl⟩
noncomputable abbrev fFfNext.fd (P : Params) : FuncData := (fFfNext.got P).1
noncomputable def fFfNext.took : {b : List Stmt // ∀ P : Params, (fFfNext.fd P).body = .stmts b} := ⟨_, fun zz => rfl⟩
noncomputable abbrev fFfNext.body : List Stmt := fFfNext.took.1
noncomputable def fUld.got (P : Params) : {fd : FuncData // (KK P).lookup 192 = some ⟨.type "function", none, .func fd, #[]⟩} := ⟨_, rfl⟩
noncomputable abbrev fUld.fd (P : Params) : FuncData := (fUld.got P).1
noncomputable def fUld.took : {b : List Stmt // ∀ P : Params, (fUld.fd P).body = .stmts b} := ⟨_, fun zz => rfl⟩
noncomputable abbrev fUld.body : List Stmt := fUld.took.1
noncomputable def fFalls.got (P : Params) : {fd : FuncData // (KK P).lookup 214 = some ⟨.type "function", none, .func fd, #[]⟩} := ⟨_, rfl⟩
noncomputable abbrev fFalls.fd (P : Params) : FuncData := (fFalls.got P).1
noncomputable def fFalls.took : {b : List Stmt // ∀ P : Params, (fFalls.fd P).body = .stmts b} := ⟨_, fun zz => rfl⟩
noncomputable abbrev fFalls.body : List Stmt := fFalls.took.1
noncomputable def fLaw.got (P : Params) : {fd : FuncData // (KK P).lookup 224 = some ⟨.type "function", none, .func fd, #[]⟩} := ⟨_, rfl⟩
noncomputable abbrev fLaw.fd (P : Params) : FuncData := (fLaw.got P).1
noncomputable def fLaw.took : {b : List Stmt // ∀ P : Params, (fLaw.fd P).body = .stmts b} := ⟨_, fun zz => rfl⟩
noncomputable abbrev fLaw.body : List Stmt := fLaw.took.1
noncomputable def fTsInit.got (P : Params) : {fd : FuncData // (KK P).lookup 73 = some ⟨.type "function", none, .func fd, #[]⟩} := ⟨_, rfl⟩
noncomputable abbrev fTsInit.fd (P : Params) : FuncData := (fTsInit.got P).1
noncomputable def fTsInit.took : {b : List Stmt // ∀ P : Params, (fTsInit.fd P).body = .stmts b} := ⟨_, fun zz => rfl⟩
noncomputable abbrev fTsInit.body : List Stmt := fTsInit.took.1
noncomputable def fGni.got (P : Params) : {fd : FuncData // (KK P).lookup 80 = some ⟨.type "function", none, .func fd, #[]⟩} := ⟨_, rfl⟩
noncomputable abbrev fGni.fd (P : Params) : FuncData := (fGni.got P).1
noncomputable def fGni.took : {b : List Stmt // ∀ P : Params, (fGni.fd P).body = .stmts b} := ⟨_, fun zz => rfl⟩
noncomputable abbrev fGni.body : List Stmt := fGni.took.1
noncomputable def fAdd.got (P : Params) : {fd : FuncData // (KK P).lookup 87 = some ⟨.type "function", none, .func fd, #[]⟩} := ⟨_, rfl⟩
noncomputable abbrev fAdd.fd (P : Params) : FuncData := (fAdd.got P).1
noncomputable def fAdd.took : {b : List Stmt // ∀ P : Params, (fAdd.fd P).body = .stmts b} := ⟨_, fun zz => rfl⟩
noncomputable abbrev fAdd.body : List Stmt := fAdd.took.1
noncomputable def fPrepare.got (P : Params) : {fd : FuncData // (KK P).lookup 92 = some ⟨.type "function", none, .func fd, #[]⟩} := ⟨_, rfl⟩
noncomputable abbrev fPrepare.fd (P : Params) : FuncData := (fPrepare.got P).1
noncomputable def fPrepare.took : {b : List Stmt // ∀ P : Params, (fPrepare.fd P).body = .stmts b} := ⟨_, fun zz => rfl⟩
noncomputable abbrev fPrepare.body : List Stmt := fPrepare.took.1
noncomputable def fGetReady.got (P : Params) : {fd : FuncData // (KK P).lookup 99 = some ⟨.type "function", none, .func fd, #[]⟩} := ⟨_, rfl⟩
noncomputable abbrev fGetReady.fd (P : Params) : FuncData := (fGetReady.got P).1
noncomputable def fGetReady.took : {b : List Stmt // ∀ P : Params, (fGetReady.fd P).body = .stmts b} := ⟨_, fun zz => rfl⟩
noncomputable abbrev fGetReady.body : List Stmt := fGetReady.took.1
noncomputable def fDone.got (P : Params) : {fd : FuncData // (KK P).lookup 120 = some ⟨.type "function", none, .func fd, #[]⟩} := ⟨_, rfl⟩
noncomputable abbrev fDone.fd (P : Params) : FuncData := (fDone.got P).1
noncomputable def fDone.took : {b : List Stmt // ∀ P : Params, (fDone.fd P).body = .stmts b} := ⟨_, fun zz => rfl⟩
noncomputable abbrev fDone.body : List Stmt := fDone.took.1
noncomputable def fFindCycle.got (P : Params) : {fd : FuncData // (KK P).lookup 127 = some ⟨.type "function", none, .func fd, #[]⟩} := ⟨_, rfl⟩
noncomputable abbrev fFindCycle.fd (P : Params) : FuncData := (fFindCycle.got P).1
noncomputable def fFindCycle.took : {b : List Stmt // ∀ P : Params, (fFindCycle.fd P).body = .stmts b} := ⟨_, fun zz => rfl⟩
noncomputable abbrev fFindCycle.body : List Stmt := fFindCycle.took.1
noncomputable def fSwept.got (P : Params) : {fd : FuncData // (KK P).lookup 197 = some ⟨.type "function", none, .func fd, #[]⟩} := ⟨_, rfl⟩
noncomputable abbrev fSwept.fd (P : Params) : FuncData := (fSwept.got P).1
noncomputable def fSwept.took : {b : List Stmt // ∀ P : Params, (fSwept.fd P).body = .stmts b} := ⟨_, fun zz => rfl⟩
noncomputable abbrev fSwept.body : List Stmt := fSwept.took.1
noncomputable def fLooked.got (P : Params) : {fd : FuncData // (KK P).lookup 202 = some ⟨.type "function", none, .func fd, #[]⟩} := ⟨_, rfl⟩
noncomputable abbrev fLooked.fd (P : Params) : FuncData := (fLooked.got P).1
noncomputable def fLooked.took : {b : List Stmt // ∀ P : Params, (fLooked.fd P).body = .stmts b} := ⟨_, fun zz => rfl⟩
noncomputable abbrev fLooked.body : List Stmt := fLooked.took.1
noncomputable def fTold.got (P : Params) : {fd : FuncData // (KK P).lookup 209 = some ⟨.type "function", none, .func fd, #[]⟩} := ⟨_, rfl⟩
noncomputable abbrev fTold.fd (P : Params) : FuncData := (fTold.got P).1
noncomputable def fTold.took : {b : List Stmt // ∀ P : Params, (fTold.fd P).body = .stmts b} := ⟨_, fun zz => rfl⟩
noncomputable abbrev fTold.body : List Stmt := fTold.took.1
noncomputable def fDue.got (P : Params) : {fd : FuncData // (KK P).lookup 219 = some ⟨.type "function", none, .func fd, #[]⟩} := ⟨_, rfl⟩
noncomputable abbrev fDue.fd (P : Params) : FuncData := (fDue.got P).1
noncomputable def fDue.took : {b : List Stmt // ∀ P : Params, (fDue.fd P).body = .stmts b} := ⟨_, fun zz => rfl⟩
noncomputable abbrev fDue.body : List Stmt := fDue.took.1
noncomputable def addrTab : List (String × Addr) := [("_NodeInfo", 40), ("CycleError", 55), ("TopologicalSorter", 137), ("filterfalse", 174)]
noncomputable def addrOf (x : String) : Option Addr := addrTab.lookup x
structure Gd (G : Glob) : Prop where
 gx : GX G
 k : (KK G.w.params).In G.h₀
 addr : G.addr = addrOf
 g_list : GlobV G "list" (.type "list")
 g_range : GlobV G "range" (.type "range")
 g_tuple : GlobV G "tuple" (.type "tuple")
 g_set : GlobV G "set" (.type "set")
 g_int : GlobV G "int" (.type "int")
 g_bool : GlobV G "bool" (.type "bool")
 g_enumerate : GlobV G "enumerate" (.type "enumerate")
 g_ValueError : GlobV G "ValueError" (.type "ValueError")
 g_StopIteration : GlobV G "StopIteration" (.type "StopIteration")
 g_len : GlobV G "len" (.builtin "len")
 g_sum : GlobV G "sum" (.builtin "sum")
 g_sorted : GlobV G "sorted" (.builtin "sorted")
 g_iter : GlobV G "iter" (.builtin "iter")
 g_next : GlobV G "next" (.builtin "next")
 g_NODE_OUT : GlobV G "_NODE_OUT" (.int (-1) 197)
 g_NODE_DONE : GlobV G "_NODE_DONE" (.int (-2) 200)
 g_NodeInfo : GlobV G "_NodeInfo" (.ref 40)
 g_CycleError : GlobV G "CycleError" (.ref 55)
 g_TopologicalSorter : GlobV G "TopologicalSorter" (.ref 137)
 g_filterfalse : GlobV G "filterfalse" (.ref 174)
 g_filter : GlobV G "_filter" (.ref 185)
 g_uld : GlobV G "unorderable_list_difference" (.ref 192)
 g_swept : GlobV G "_law_swept" (.ref 197)
 g_looked : GlobV G "_law_looked_through" (.ref 202)
 g_told : GlobV G "_law_told" (.ref 209)
 g_falls : GlobV G "_law_falls" (.ref 214)
 g_due : GlobV G "_law_due" (.ref 219)
 own : OwnCls (Str.ofString "CycleError") 55 [.type "ValueError", .type "Exception", .type "BaseException", .type "object"] "ValueError.__new__" G.mg G.h₀
section
variable {G : Glob}
theorem Gd.gk (gr : Gd G) : GOk G := gr.gx.toGOk
theorem Gd.hse (gr : Gd G) : G.addr "StopIteration" = none := by rw [gr.addr]; decide
theorem Gd.hff (gr : Gd G) : G.addr "filterfalse" = some 174 := by rw [gr.addr]; decide
theorem Gd.hni (gr : Gd G) : G.addr "_NodeInfo" = some 40 := by rw [gr.addr]; decide
theorem Gd.hts (gr : Gd G) : G.addr "TopologicalSorter" = some 137 := by rw [gr.addr]; decide
theorem Gd.hce (gr : Gd G) : G.addr "CycleError" = some 55 := by rw [gr.addr]; decide
theorem Gd.ex_stop (gr : Gd G) : exmOne (KK G.w.params) (excCls G "StopIteration") (.type "StopIteration") = some true := by
 unfold excCls; rw [gr.hse]; kernel_rfl
theorem Gd.ex_value (gr : Gd G) : exmOne (KK G.w.params) (excCls G "ValueError") (.type "ValueError") = some true := by
 have : G.addr "ValueError" = none := by rw [gr.addr]; decide
 unfold excCls; rw [this]; kernel_rfl
theorem Gd.ex_cycle (gr : Gd G) : exmOne (KK G.w.params) (excCls G "CycleError") (.ref 55) = some true := by
 unfold excCls; rw [gr.hce]; kernel_rfl
theorem slot_at (P : Params) {C p : Addr} {name : String} {i : Nat} (hg : plainGet (KK P) C (Str.ofString name) = true) (hc : isClsIn (KK P) C = true) (hs : findIn (KK P) (.ref C) "__setattr__" = some (some (.builtin "object.__setattr__"))) (hp : plainOver (KK P) C = true) (hz : i < 1000)
  (h1 : findIn (KK P) (.ref C) (Str.ofString name) = some (some (.ref p))) (h2 : specialIn (KK P) (.ref p) "__get__" = some (some (.builtin "member_descriptor.__get__"))) (h3 : takesIn (KK P) (.ref p) = some true) (h4 : slotIn (KK P) p C = some i)
  (h5 : takerIn (KK P) C (Str.ofString name) = some (some (.ref p))) (h6 : typeIn (KK P) (.ref p) = some (.type "member_descriptor")) : SlotAttr (KK P) C name i := ⟨hg, hc, hs, hp, hz, p, h1, h2, h3, h4, h5, h6⟩
theorem dict_at (P : Params) {C : Addr} {name : String} (hg : plainGet (KK P) C (Str.ofString name) = true) (hh : hasDictIn (KK P) C = true) (ha : findIn (KK P) (.ref C) (Str.ofString name) = some none) (hn : noGet (KK P) none = true)
  (hs : findIn (KK P) (.ref C) "__setattr__" = some (some (.builtin "object.__setattr__"))) (hp : plainOver (KK P) C = true) (ht : takerIn (KK P) C (Str.ofString name) = some none) : DictAttr (KK P) C name := ⟨hg, hh, ⟨none, ha, hn⟩, hs, hp, ht⟩
theorem lookup_mem {α β : Type} [BEq α] [LawfulBEq α] {a : α} {b : β} : ∀ {l : List (α × β)}, l.lookup a = some b → (a, b) ∈ l
 | [], h => by cases h
 | (x, y) :: l, h => by
  rw [List.lookup_cons] at h
  split at h
  ·rename_i e; cases h; rw [beq_iff_eq.mp e]; exact List.mem_cons_self
  ·exact List.mem_cons_of_mem _ (lookup_mem h)
theorem ix_dict {c n : String} (h : ixOf c n = some none) : c = "TopologicalSorter" ∧ (n = "_node2info" ∨ n = "_ready_nodes" ∨ n = "_npassedout" ∨ n = "_nfinished") := by
 have := lookup_mem h
 simp [ixTab] at this
 rcases this with ⟨rfl, rfl⟩ | ⟨rfl, rfl⟩ | ⟨rfl, rfl⟩ | ⟨rfl, rfl⟩ <;> simp
theorem ix_slot {c n : String} {i : Nat} (h : ixOf c n = some (some i)) : (c = "_NodeInfo" ∧ ((n = "node" ∧ i = 0) ∨ (n = "npredecessors" ∧ i = 1) ∨ (n = "successors" ∧ i = 2))) ∨ (c = "filterfalse" ∧ ((n = "_func" ∧ i = 0) ∨ (n = "_it" ∧ i = 1))) := by
 have := lookup_mem h
 simp [ixTab] at this
 rcases this with ⟨⟨rfl, rfl⟩, rfl⟩ | ⟨⟨rfl, rfl⟩, rfl⟩ | ⟨⟨rfl, rfl⟩, rfl⟩ | ⟨⟨rfl, rfl⟩, rfl⟩ | ⟨⟨rfl, rfl⟩, rfl⟩ <;> simp
theorem Gd.attrs (gr : Gd G) : Attrs G (KK G.w.params) ixOf where
 k := gr.k
 dict := fun c n C hC hi => by
  obtain ⟨rfl, hn⟩ := ix_dict hi
  rw [gr.hts] at hC; cases hC
  rcases hn with rfl | rfl | rfl | rfl <;> exact dict_at _ (by kernel_rfl) (by kernel_rfl) (by kernel_rfl) (by kernel_rfl) (by kernel_rfl) (by kernel_rfl) (by kernel_rfl)
 slot := fun c n C i hC hi => by
  rcases ix_slot hi with ⟨rfl, hn⟩ | ⟨rfl, hn⟩
  ·rw [gr.hni] at hC; cases hC
   rcases hn with ⟨rfl, rfl⟩ | ⟨rfl, rfl⟩ | ⟨rfl, rfl⟩
   ·exact slot_at _ (p := 41) (by kernel_rfl) (by kernel_rfl) (by kernel_rfl) (by kernel_rfl) (by decide) (by kernel_rfl) (by kernel_rfl) (by kernel_rfl) (by kernel_rfl) (by kernel_rfl) (by kernel_rfl)
   ·exact slot_at _ (p := 42) (by kernel_rfl) (by kernel_rfl) (by kernel_rfl) (by kernel_rfl) (by decide) (by kernel_rfl) (by kernel_rfl) (by kernel_rfl) (by kernel_rfl) (by kernel_rfl) (by kernel_rfl)
   ·exact slot_at _ (p := 43) (by kernel_rfl) (by kernel_rfl) (by kernel_rfl) (by kernel_rfl) (by decide) (by kernel_rfl) (by kernel_rfl) (by kernel_rfl) (by kernel_rfl) (by kernel_rfl) (by kernel_rfl)
  ·rw [gr.hff] at hC; cases hC
   rcases hn with ⟨rfl, rfl⟩ | ⟨rfl, rfl⟩
   ·exact slot_at _ (p := 175) (by kernel_rfl) (by kernel_rfl) (by kernel_rfl) (by kernel_rfl) (by decide) (by kernel_rfl) (by kernel_rfl) (by kernel_rfl) (by kernel_rfl) (by kernel_rfl) (by kernel_rfl)
   ·exact slot_at _ (p := 176) (by kernel_rfl) (by kernel_rfl) (by kernel_rfl) (by kernel_rfl) (by decide) (by kernel_rfl) (by kernel_rfl) (by kernel_rfl) (by kernel_rfl) (by kernel_rfl) (by kernel_rfl)
theorem make_ff (P : Params) : MakeAt (KK P) 174 156 := ⟨by kernel_rfl, by kernel_rfl, by kernel_rfl⟩
theorem make_ni (P : Params) : MakeAt (KK P) 40 36 := ⟨by kernel_rfl, by kernel_rfl, by kernel_rfl⟩
theorem make_ts (P : Params) : MakeAt (KK P) 137 73 := ⟨by kernel_rfl, by kernel_rfl, by kernel_rfl⟩
theorem Gd.own_ff (gr : Gd G) : OwnIter G (KK G.w.params) "filterfalse" 174 170 163 := ⟨gr.hff, gr.k, by kernel_rfl, by kernel_rfl, by kernel_rfl, by kernel_rfl, by kernel_rfl, by kernel_rfl⟩
theorem meth_ts (P : Params) : MethAt (KK P) 137 80 "_get_nodeinfo" ∧ MethAt (KK P) 137 87 "add" ∧ MethAt (KK P) 137 92 "prepare" ∧ MethAt (KK P) 137 99 "get_ready" ∧ MethAt (KK P) 137 120 "done" ∧ MethAt (KK P) 137 127 "_find_cycle" :=
 ⟨⟨by kernel_rfl, by kernel_rfl, by kernel_rfl, by kernel_rfl⟩, ⟨by kernel_rfl, by kernel_rfl, by kernel_rfl, by kernel_rfl⟩, ⟨by kernel_rfl, by kernel_rfl, by kernel_rfl, by kernel_rfl⟩, ⟨by kernel_rfl, by kernel_rfl, by kernel_rfl, by kernel_rfl⟩, ⟨by kernel_rfl, by kernel_rfl, by kernel_rfl, by kernel_rfl⟩, ⟨by kernel_rfl, by kernel_rfl, by kernel_rfl, by kernel_rfl⟩⟩
end
theorem of_len1 {P : List Value → Prop} (h : ∀ a, P [a]) (vs : List Value) (e : vs.length = 1) : P vs := by
 obtain ⟨a, rfl⟩ := List.length_eq_one_iff.mp e
 exact h a
theorem of_len2 {P : List Value → Prop} (h : ∀ a b, P [a, b]) (vs : List Value) (e : vs.length = 2) : P vs := by
 cases vs with
 | nil => cases e
 | cons a vs => exact of_len1 (P := fun l => P (a :: l)) (fun b => h a b) vs (Nat.succ.inj e)
theorem of_len3 {P : List Value → Prop} (h : ∀ a b c, P [a, b, c]) (vs : List Value) (e : vs.length = 3) : P vs := by
 cases vs with
 | nil => cases e
 | cons a vs => exact of_len2 (P := fun l => P (a :: l)) (fun b c => h a b c) vs (Nat.succ.inj e)
section
variable {G : Glob} {hd : Bool} {d : Nat}
theorem keeps_G (gr : Gd G) {w : Value} (h : keepIn (KK G.w.params) w = true) : KeepsAt G.M (fun h => G.h₀.StaysIn h) w := fun h' hs => keeps_K h h' (gr.k.keeps hs)
theorem sims_bad {sc : SC} {b : Stmt} : Sim1 G sc hd d AM.bad b := by
 intro A outer env own μ st s fl st' hA hf I hm; cases hm
theorem sim_loc {sc : SC} {x : String} {pos : Pos} (hl : autoParam (((sc.scope.names.lookup (Str.ofString x)).any fun k => k == .local || k == .cell || k == .free) = true) aK) (hc : autoParam ((Str.ofString x == ("__classdict__" : PySem.Str)) = false) aK) (hdb : autoParam ((Str.ofString x == ("__debug__" : PySem.Str)) = false) aK) : SimE G sc hd d (bVar x) (.Name (Str.ofString x) pos) := sim_var hc hdb
theorem def_of {G : Glob} (gr : Gd G) {a : Addr} {o : Obj} {fd : FuncData} {b : List Stmt} (h : (KK G.w.params).lookup a = some o) (hd : o.data = .func fd) (hc : codeIn (KK G.w.params) fd.code fd.qualname = true) (hb : fd.body = .stmts b) (hg : fd.globals = mainGlobals) (hu : fd.builtins = builtinsNs) (hl : fd.closure = []) (hk : fnOkB fd.scope = true) : DefAt G a fd b where
 obj := ⟨o, gr.k _ _ h, hd⟩
 code := codeRec_of gr.k hc
 body := hb
 glob := hg
 bui := hu
 clo := hl
 ok := fnOk_of hk
theorem Gd.hve (gr : Gd G) : G.addr "ValueError" = none := by rw [gr.addr]; decide
theorem glob_int {x : String} {i : Int} {t : Tok} (h : GlobV G x (.int i t)) : GlobIs G x (.int i) := ⟨_, h, fun zz zz => .int _ _⟩
theorem glob_ty {x n : String} (h : GlobV G x (.type n)) : GlobIs G x (.ty n) := ⟨_, h, fun zz zz => .ty _⟩
end
section
variable {G : Glob} {sc : SC} {d : Nat}
noncomputable def storeB (sc : SC) (x : String) : Bool := sc.scope.names.lookup (Str.ofString x) == some NameKind.local || (sc.scope.names.lookup (Str.ofString x) == some NameKind.cell && sc.wr.any fun y => y == Str.ofString x)
theorem store_of {x : String} (h : storeB sc x = true) : StoreOk sc x := by
 unfold storeB at h
 rw [Bool.or_eq_true, Bool.and_eq_true] at h
 rcases h with h | ⟨h, h'⟩
 ·exact .inl (beq_iff_eq.mp h)
 ·refine .inr ⟨beq_iff_eq.mp h, ?_⟩
  obtain ⟨y, hy, e⟩ := List.any_eq_true.mp h'
  rw [← beq_iff_eq.mp e]; exact hy
theorem free_of {frees : List String} {cs : Scope} (h : (frees.all fun x => cs.names.any fun y => y.1 == Str.ofString x && y.2 == NameKind.free) = true) : ∀ x ∈ frees, (Str.ofString x, NameKind.free) ∈ cs.names := fun x hx => by
 have h1 := List.all_eq_true.mp h x hx
 obtain ⟨y, hy, e⟩ := List.any_eq_true.mp h1
 simp only [Bool.and_eq_true, beq_iff_eq] at e
 obtain ⟨a, b⟩ := y
 simp only at e
 rw [← e.1, ← e.2]; exact hy
theorem sim_comp1 {elt : Expr} {t i : Expr} {ifs : List Expr} {cs : Scope} {pos : Pos} {frees : List String} {it : AM AIt} {f : AV → AM Unit} {tst : AM Bool} {me : AM AV}
  (ck : compOkB sc cs = true) (hfr : (frees.all fun x => cs.names.any fun y => y.1 == Str.ofString x && y.2 == NameKind.free) = true) (SI : SimI G sc d t it i) (ST : SimTgt G (compSC sc cs) d f t) (hT : TgtPure f) (STs : SimTs G (compSC sc cs) d tst ifs) (SE : SimE G (compSC sc cs) true d me elt)
  (hfs : autoParam (∀ (env : Env) (x : Value), foldedSetIterable i env x = pure x) aR) : SimE G sc true d (bComp frees it f tst (bEmit me)) (.ListComp elt [⟨t, i, ifs, 0⟩] cs pos) :=
 sim_comp (compOk_of ck) (free_of hfr) SI ST hT STs (em_elt SE) (fun zz zz zz => turn_one _ _ _) hfs
theorem sims_setC1 {x : String} {elt : Expr} {t i : Expr} {ifs : List Expr} {cs : Scope} {pos p spos : Pos} {frees : List String} {it : AM AIt} {f : AV → AM Unit} {tst : AM Bool} {me : AM AV} (hx : StoreOk sc x)
  (ck : compOkB sc cs = true) (hfr : (frees.all fun x => cs.names.any fun y => y.1 == Str.ofString x && y.2 == NameKind.free) = true) (SI : SimI G sc d t it i) (ST : SimTgt G (compSC sc cs) d f t) (hT : TgtPure f) (STs : SimTs G (compSC sc cs) d tst ifs) (SE : SimE G (compSC sc cs) true d me elt)
  (hfs : autoParam (∀ (env : Env) (x : Value), foldedSetIterable i env x = pure x) aR) : Sim1 G sc true d (bSet x (bComp frees it f tst (bEmit me))) (.Assign [.Name (Str.ofString x) p] (.ListComp elt [⟨t, i, ifs, 0⟩] cs pos) spos) :=
 sims_setC hx (compOk_of ck) (free_of hfr) SI ST hT STs (em_elt SE) (fun zz zz zz => turn_one _ _ _) hfs
theorem sims_setC2 {x : String} {elt : Expr} {t i t' i' : Expr} {ifs ifs' : List Expr} {cs : Scope} {pos p spos : Pos} {frees : List String} {it it' : AM AIt} {f f' : AV → AM Unit} {tst tst' : AM Bool} {me : AM AV} (hx : StoreOk sc x)
  (ck : compOkB sc cs = true) (hfr : (frees.all fun x => cs.names.any fun y => y.1 == Str.ofString x && y.2 == NameKind.free) = true) (SI : SimI G sc d t it i) (ST : SimTgt G (compSC sc cs) d f t) (hT : TgtPure f) (STs : SimTs G (compSC sc cs) d tst ifs)
  (SI' : SimI G (compSC sc cs) d t' it' i') (ST' : SimTgt G (compSC sc cs) d f' t') (hT' : TgtPure f') (STs' : SimTs G (compSC sc cs) d tst' ifs') (SE : SimE G (compSC sc cs) true d me elt)
  (hfs : autoParam (∀ (env : Env) (x : Value), foldedSetIterable i env x = pure x) aR) (hfs' : autoParam (∀ (env : Env) (x : Value), foldedSetIterable i' env x = pure x) aR) : Sim1 G sc true d (bSet x (bComp frees it f tst (bComp1 it' f' tst' (bEmit me)))) (.Assign [.Name (Str.ofString x) p] (.ListComp elt [⟨t, i, ifs, 0⟩, ⟨t', i', ifs', 0⟩] cs pos) spos) :=
 sims_setC hx (compOk_of ck) (free_of hfr) SI ST hT STs (em_comp SI' ST' hT' STs' (em_elt SE) hfs') (fun zz zz zz => turn_two0 _ _ _) hfs
theorem tgt_2 {a b : String} {p₁ p₂ p : Pos} {kk : Nat} (h₁ : StoreOk sc a) (h₂ : StoreOk sc b) : SimTgt G sc d (tgtNames [a, b]) (.Tuple [.Name (Str.ofString a) p₁, .Name (Str.ofString b) p₂] kk p) :=
 tgt_names (ps := [p₁, p₂]) (fun x hx => by simp at hx; rcases hx with rfl | rfl <;> assumption) rfl rfl
end
theorem hf_plain {fd : FuncData} {ns : List String} (h1 : ns.Nodup) (h2 : ∀ n ∈ ns, fd.scope.names.lookup (Str.ofString n) = some .local ∨ fd.scope.names.lookup (Str.ofString n) = some .cell) :
  ∀ args bs, (if args.length = ns.length then some (ns.zip args) else none) = some bs → (bs.map (·.1)).Nodup ∧ ∀ x ∈ (bs : List (String × AV)), fd.scope.names.lookup (Str.ofString x.1) = some .local ∨ fd.scope.names.lookup (Str.ofString x.1) = some .cell := by
 intro args bs h
 split at h
 ·rename_i hl
  cases h
  have e : (ns.zip args).map (·.1) = ns := by rw [List.map_fst_zip]; omega
  refine ⟨by rw [e]; exact h1, fun x hx => h2 _ ?_⟩
  rw [← e]
  exact List.mem_map_of_mem hx
 ·cases h
theorem hf_rest {fd : FuncData} {ns : List String} {va : String} (h1 : (ns ++ [va]).Nodup) (h2 : ∀ n ∈ ns ++ [va], fd.scope.names.lookup (Str.ofString n) = some .local ∨ fd.scope.names.lookup (Str.ofString n) = some .cell) :
  ∀ args bs, fRest ns va args = some bs → (bs.map (·.1)).Nodup ∧ ∀ x ∈ (bs : List (String × AV)), fd.scope.names.lookup (Str.ofString x.1) = some .local ∨ fd.scope.names.lookup (Str.ofString x.1) = some .cell := by
 intro args bs h
 unfold fRest at h
 split at h
 ·rename_i hl
  cases h
  have e : (ns.zip args ++ [(va, AV.tup (args.drop ns.length))]).map (·.1) = ns ++ [va] := by rw [List.map_append, List.map_fst_zip (by omega)]; rfl
  refine ⟨by rw [e]; exact h1, fun x hx => h2 _ ?_⟩
  rw [← e]
  exact List.mem_map_of_mem hx
 ·cases h
theorem niInit.sim {G : Glob} (gr : Gd G) {d : Nat} : SimB G (fnSC (fNiInit.fd G.w.params).scope) true d niInit.prog fNiInit.body := by
 refine simb_cons ?_ ?_
 refine sims_setAttr gr.attrs ?_ ?_
 exact sim_loc
 exact sim_loc
 refine simb_cons ?_ ?_
 refine sims_setAttr gr.attrs ?_ ?_
 exact sim_int (k := none)
 exact sim_loc
 refine simb_one ?_
 refine sims_setAttr gr.attrs ?_ ?_
 refine sim_list ?_
 exact siml_nil
 exact sim_loc
theorem ffInit.sim {G : Glob} (gr : Gd G) {d : Nat} : SimB G (fnSC (fFfInit.fd G.w.params).scope) true d ffInit.prog fFfInit.body := by
 refine simb_cons ?_ ?_
 refine sims_setAttr gr.attrs ?_ ?_
 refine sim_callN gr.gk (by kernel_rfl) gr.g_iter callee_builtin call_iter ?_
 refine args_cons ?_ ?_
 exact sim_loc
 exact args_nil
 exact sim_loc
 refine simb_one ?_
 refine sims_setAttr gr.attrs ?_ ?_
 exact sim_loc
 exact sim_loc
theorem ffIter.sim {G : Glob} (gr : Gd G) {d : Nat} : SimB G (fnSC (fFfIter.fd G.w.params).scope) true d ffIter.prog fFfIter.body := by
 refine simb_one ?_
 refine sims_ret ?_
 exact sim_loc
theorem ffNext.sim {G : Glob} (gr : Gd G) {d : Nat} : SimB G (fnSC (fFfNext.fd G.w.params).scope) true d ffNext.prog fFfNext.body := by
 refine simb_cons ?_ ?_
 refine sims_set ?_ ?_ ?_; rotate_left; exact store_of (by kernel_rfl); intro _; rfl; rotate_right
 refine sim_attr gr.attrs ?_
 exact sim_loc
 refine simb_one ?_
 refine sims_while ?_ ?_ ?_
 refine simt_val ?_
 exact sim_bool
 refine simb_cons ?_ ?_
 refine sims_setX (hx := store_of (by kernel_rfl)) ?_
 refine sim_callCX gr.gk (by kernel_rfl) gr.g_next keeps_builtin (call_next gr.hse) ?_
 refine SimArgs.toC ?_
 refine args_cons ?_ ?_
 refine sim_attr gr.attrs ?_
 exact sim_loc
 exact args_nil
 refine simb_one ?_
 refine sims_if ?_ ?_ ?_
 refine simt_bool ?_
 refine sima_or ?_ ?_
 refine simt_cmp (o := .is) gr.gx ?_ ?_
 exact sim_loc
 exact sim_none
 refine sima_or ?_ ?_
 refine simt_cmp (o := .is) gr.gx ?_ ?_
 exact sim_loc
 exact sim_glob gr.gk (by kernel_rfl) (glob_ty gr.g_bool) (by kernel_rfl)
 exact sima_or_nil
 refine simb_one ?_
 refine sims_if ?_ ?_ ?_
 refine simt_not ?_
 refine simt_val ?_
 exact sim_loc
 refine simb_one ?_
 refine sims_ret ?_
 exact sim_loc
 exact simb_nil
 refine simb_one ?_
 refine sims_if ?_ ?_ ?_
 refine simt_not ?_
 refine simt_val ?_
 refine sim_callBE gr.hse ?_ ?_
 exact sim_loc
 refine SimArgs.toC ?_
 refine args_cons ?_ ?_
 exact sim_loc
 exact args_nil
 refine simb_one ?_
 refine sims_ret ?_
 exact sim_loc
 exact simb_nil
 exact simb_nil
section
variable {G : Glob} {d : Nat}
theorem binds_args {fd : FuncData} {ns : List String} (hb : ∀ vs : List Value, vs.length = ns.length → bindArgs fd ⟨vs, []⟩ = pure ((ns.map Str.ofString).zip vs)) : BindsTo G fd (fArgs ns) := binds_plain hb
theorem hf_args {fd : FuncData} {ns : List String} (h1 : ns.Nodup) (h2 : ∀ n ∈ ns, fd.scope.names.lookup (Str.ofString n) = some .local ∨ fd.scope.names.lookup (Str.ofString n) = some .cell) :
  ∀ args bs, fArgs ns args = some bs → (bs.map (·.1)).Nodup ∧ ∀ x ∈ (bs : List (String × AV)), fd.scope.names.lookup (Str.ofString x.1) = some .local ∨ fd.scope.names.lookup (Str.ofString x.1) = some .cell := hf_plain h1 h2
theorem all1 {P : String → Prop} {a : String} (h : P a) : ∀ n ∈ [a], P n := fun n hn => by simp at hn; subst hn; exact h
theorem all2 {P : String → Prop} {a b : String} (h : P a) (h' : P b) : ∀ n ∈ [a, b], P n := fun n hn => by
 simp at hn; rcases hn with rfl | rfl <;> assumption
theorem all3 {P : String → Prop} {a b c : String} (h : P a) (h' : P b) (h'' : P c) : ∀ n ∈ [a, b, c], P n := fun n hn => by
 simp at hn; rcases hn with rfl | rfl | rfl <;> assumption
theorem def_niInit (gr : Gd G) : DefAt G 36 (fNiInit.fd G.w.params) fNiInit.body := def_of gr (o := ⟨.type "function", none, .func (fNiInit.fd G.w.params), #[]⟩) (fNiInit.got _).2 rfl (by kernel_rfl) (by kernel_rfl) (by kernel_rfl) (by kernel_rfl) (by kernel_rfl) (by kernel_rfl)
theorem niInit_code (gr : Gd G) : SimCode G true (d + 1) (.ref 36) aNiInit :=
 code_def gr.gk (def_niInit gr) (binds_args <| of_len2 fun a b => by kernel_rfl) (hf_args (by decide) (all2 (.inl (by kernel_rfl)) (.inl (by kernel_rfl)))) (niInit.sim gr)
theorem nodeInfo_call (gr : Gd G) : SimCall G true (d + 2) (.ref 40) aNodeInfo := call_make gr.k gr.hni (make_ni _) (niInit_code gr)
theorem def_ffInit (gr : Gd G) : DefAt G 156 (fFfInit.fd G.w.params) fFfInit.body := def_of gr (o := ⟨.type "function", none, .func (fFfInit.fd G.w.params), #[]⟩) (fFfInit.got _).2 rfl (by kernel_rfl) (by kernel_rfl) (by kernel_rfl) (by kernel_rfl) (by kernel_rfl) (by kernel_rfl)
theorem def_ffIter (gr : Gd G) : DefAt G 163 (fFfIter.fd G.w.params) fFfIter.body := def_of gr (o := ⟨.type "function", none, .func (fFfIter.fd G.w.params), #[]⟩) (fFfIter.got _).2 rfl (by kernel_rfl) (by kernel_rfl) (by kernel_rfl) (by kernel_rfl) (by kernel_rfl) (by kernel_rfl)
theorem def_ffNext (gr : Gd G) : DefAt G 170 (fFfNext.fd G.w.params) fFfNext.body := def_of gr (o := ⟨.type "function", none, .func (fFfNext.fd G.w.params), #[]⟩) (fFfNext.got _).2 rfl (by kernel_rfl) (by kernel_rfl) (by kernel_rfl) (by kernel_rfl) (by kernel_rfl) (by kernel_rfl)
theorem ffInit_code (gr : Gd G) : SimCode G true (d + 1) (.ref 156) aFfInit :=
 code_def gr.gk (def_ffInit gr) (binds_args <| of_len3 fun a b c => by kernel_rfl) (hf_args (by decide) (all3 (.inl (by kernel_rfl)) (.inl (by kernel_rfl)) (.inl (by kernel_rfl)))) (ffInit.sim gr)
theorem ffIter_code (gr : Gd G) : SimCode G true (d + 1) (.ref 163) aFfIter :=
 code_def gr.gk (def_ffIter gr) (binds_args <| of_len1 fun a => by kernel_rfl) (hf_args (by decide) (all1 (.inl (by kernel_rfl)))) (ffIter.sim gr)
theorem ffNext_code (gr : Gd G) : SimCodeX G true (d + 1) (.ref 170) aFfNext :=
 code_defX gr.gk (def_ffNext gr) (binds_args <| of_len1 fun a => by kernel_rfl) (hf_args (by decide) (all1 (.inl (by kernel_rfl)))) (ffNext.sim gr)
theorem ff_call (gr : Gd G) : SimCall G true (d + 2) (.ref 174) aFf := call_make gr.k gr.hff (make_ff _) (ffInit_code gr)
theorem listFf_call (gr : Gd G) : SimCall G true (d + 2) (.type "list") aListFf := call_listOwn gr.gk gr.hse gr.own_ff (ffNext_code gr).toCall (ffIter_code gr).toCall
end
theorem filter.sim {G : Glob} (gr : Gd G) {d : Nat} : SimB G (fnSC (fFilter.fd G.w.params).scope) true (d + 2) filter.prog fFilter.body := by
 refine simb_one ?_
 refine sims_ret ?_
 refine sim_callN gr.gk (by kernel_rfl) gr.g_list callee_type (listFf_call gr) ?_
 refine args_cons ?_ ?_
 refine sim_callC gr.gk (by kernel_rfl) gr.g_filterfalse (keeps_G gr (by kernel_rfl)) (ff_call gr) ?_
 refine SimArgs.toC ?_
 refine args_cons ?_ ?_
 refine sim_wrap ?_
 exact sim_loc
 refine args_cons ?_ ?_
 exact sim_loc
 exact args_nil
 exact args_nil
theorem falls.sim {G : Glob} (gr : Gd G) {d : Nat} : SimB G (fnSC (fFalls.fd G.w.params).scope) true d falls.prog fFalls.body := by
 refine simb_cons ?_ ?_
 refine sims_set ?_ ?_ ?_; rotate_left; exact store_of (by kernel_rfl); intro _; rfl; rotate_right
 refine sim_list ?_
 exact siml_nil
 refine simb_one ?_
 refine sims_while ?_ ?_ ?_
 refine simt_val ?_
 exact sim_bool
 refine simb_cons ?_ ?_
 refine sims_setC1 (frees := ["outside", "sources", "there"]) (store_of (by kernel_rfl)) (by kernel_rfl) (by kernel_rfl) ?_ ?_ ?_ ?_ ?_
 refine simi_val gr.gx ?_ ?_
 exact sim_loc
 first | exact TgtShape.name _ _ | exact TgtShape.tup _ _ _
 exact tgt_name (store_of (by kernel_rfl))
 first | exact tgtPure_name | exact tgtPure_names
 refine simts_one ?_
 refine simt_cmp (o := .eq) gr.gx ?_ ?_
 refine sim_comp1 (frees := ["outside", "there"]) (by kernel_rfl) (by kernel_rfl) ?_ ?_ ?_ ?_ ?_
 refine simi_val gr.gx ?_ ?_
 refine sim_sub ?_ ?_
 exact sim_loc
 exact sim_loc
 first | exact TgtShape.name _ _ | exact TgtShape.tup _ _ _
 exact tgt_name (store_of (by kernel_rfl))
 first | exact tgtPure_name | exact tgtPure_names
 refine simts_one ?_
 refine simt_bool ?_
 refine sima_or ?_ ?_
 refine simt_cmp (o := .mem) gr.gx ?_ ?_
 exact sim_loc
 exact sim_loc
 refine sima_or ?_ ?_
 refine simt_cmp (o := .eq) gr.gx ?_ ?_
 exact sim_loc
 exact sim_loc
 exact sima_or_nil
 exact sim_loc
 refine sim_list ?_
 exact siml_nil
 exact sim_loc
 refine simb_cons ?_ ?_
 refine sims_if ?_ ?_ ?_
 refine simt_cmp (o := .eq) gr.gx ?_ ?_
 exact sim_loc
 refine sim_list ?_
 exact siml_nil
 refine simb_one ?_
 refine sims_ret ?_
 refine sim_tup ?_
 refine siml_cons ?_ ?_
 exact sim_loc
 refine siml_cons ?_ ?_
 exact sim_loc
 exact siml_nil
 exact simb_nil
 refine simb_cons ?_ ?_
 refine sims_expr ?_
 refine sim_meth F.plainAttrs_list F.slot_list_append F.type_list_append call_append ?_ ?_
 exact sim_loc
 refine args_cons ?_ ?_
 exact sim_loc
 exact args_nil
 refine simb_one ?_
 refine sims_setC1 (frees := ["fallen"]) (store_of (by kernel_rfl)) (by kernel_rfl) (by kernel_rfl) ?_ ?_ ?_ ?_ ?_
 refine simi_val gr.gx ?_ ?_
 exact sim_loc
 first | exact TgtShape.name _ _ | exact TgtShape.tup _ _ _
 exact tgt_name (store_of (by kernel_rfl))
 first | exact tgtPure_name | exact tgtPure_names
 refine simts_one ?_
 refine simt_cmp (o := .nmem) gr.gx ?_ ?_
 exact sim_loc
 exact sim_loc
 exact sim_loc
 exact simb_nil
theorem uld.sim {G : Glob} (gr : Gd G) {d : Nat} : SimB G (fnSC (fUld.fd G.w.params).scope) true d uld.prog fUld.body := by
 refine simb_cons ?_ ?_
 refine sims_set ?_ ?_ ?_; rotate_left; exact store_of (by kernel_rfl); intro _; rfl; rotate_right
 refine sim_list ?_
 exact siml_nil
 refine simb_cons ?_ ?_
 refine sims_while ?_ ?_ ?_
 refine simt_val ?_
 exact sim_loc
 refine simb_cons ?_ ?_
 refine sims_set ?_ ?_ ?_; rotate_left; exact store_of (by kernel_rfl); intro _; rfl; rotate_right
 refine sim_meth F.plainAttrs_list F.slot_list_pop F.type_list_pop call_pop ?_ ?_
 exact sim_loc
 exact args_nil
 refine simb_one ?_
 refine sims_try gr.gk gr.k (by kernel_rfl) gr.g_ValueError gr.ex_value ?_ ?_
 refine simb_one ?_
 refine sims_exprX ?_
 refine sim_methX F.plainAttrs_list F.slot_list_remove F.type_list_remove (call_remove gr.hve) ?_ ?_
 exact sim_loc
 refine args_cons ?_ ?_
 exact sim_loc
 exact args_nil
 refine simb_one ?_
 refine sims_expr ?_
 refine sim_meth F.plainAttrs_list F.slot_list_append F.type_list_append call_append ?_ ?_
 exact sim_loc
 refine args_cons ?_ ?_
 exact sim_loc
 exact args_nil
 exact simb_nil
 refine simb_one ?_
 refine sims_ret ?_
 refine sim_tup ?_
 refine siml_cons ?_ ?_
 exact sim_loc
 refine siml_cons ?_ ?_
 exact sim_loc
 exact siml_nil
theorem gni.sim {G : Glob} (gr : Gd G) {d : Nat} : SimB G (fnSC (fGni.fd G.w.params).scope) true (d + 2) gni.prog fGni.body := by
 refine simb_cons ?_ ?_
 refine sims_if ?_ ?_ ?_
 refine simt_cmp (o := .is) gr.gx ?_ ?_
 refine sim_named (hx := store_of (by kernel_rfl)) ?_
 refine sim_meth F.plainAttrs_dict F.slot_dict_get F.type_dict_get (call_get gr.gx) ?_ ?_
 refine sim_attr gr.attrs ?_
 exact sim_loc
 refine args_cons ?_ ?_
 exact sim_loc
 exact args_nil
 exact sim_none
 refine simb_one ?_
 refine sims_setItemName (hx := store_of (by kernel_rfl)) ?_ ?_ ?_
 refine sim_callC gr.gk (by kernel_rfl) gr.g_NodeInfo (keeps_G gr (by kernel_rfl)) (nodeInfo_call gr) ?_
 refine SimArgs.toC ?_
 refine args_cons ?_ ?_
 exact sim_loc
 exact args_nil
 refine sim_attr gr.attrs ?_
 exact sim_loc
 exact sim_loc
 exact simb_nil
 refine simb_one ?_
 refine sims_ret ?_
 exact sim_loc
theorem findCycle.sim {G : Glob} (gr : Gd G) {d : Nat} : SimB G (fnSC (fFindCycle.fd G.w.params).scope) true d findCycle.prog fFindCycle.body := by
 refine simb_cons ?_ ?_
 refine sims_set ?_ ?_ ?_; rotate_left; exact store_of (by kernel_rfl); intro _; rfl; rotate_right
 refine sim_attr gr.attrs ?_
 exact sim_loc
 refine simb_cons ?_ ?_
 refine sims_set ?_ ?_ ?_; rotate_left; exact store_of (by kernel_rfl); intro _; rfl; rotate_right
 refine sim_list ?_
 exact siml_nil
 refine simb_cons ?_ ?_
 refine sims_set ?_ ?_ ?_; rotate_left; exact store_of (by kernel_rfl); intro _; rfl; rotate_right
 refine sim_list ?_
 exact siml_nil
 refine simb_cons ?_ ?_
 refine sims_set ?_ ?_ ?_; rotate_left; exact store_of (by kernel_rfl); intro _; rfl; rotate_right
 refine sim_callN gr.gk (by kernel_rfl) gr.g_set callee_type call_set0 ?_
 exact args_nil
 refine simb_cons ?_ ?_
 refine sims_set ?_ ?_ ?_; rotate_left; exact store_of (by kernel_rfl); intro _; rfl; rotate_right
 exact sim_dict0
 refine simb_cons ?_ ?_
 refine sims_for ?_ ?_ ?_ ?_
 refine simi_val gr.gx ?_ ?_
 exact sim_loc
 first | exact TgtShape.name _ _ | exact TgtShape.tup _ _ _
 exact tgt_name (store_of (by kernel_rfl))
 first | exact tgtPure_name | exact tgtPure_names
 refine simb_cons ?_ ?_
 refine sims_if ?_ ?_ ?_
 refine simt_cmp (o := .mem) gr.gx ?_ ?_
 exact sim_loc
 exact sim_loc
 refine simb_one ?_
 exact sims_continue
 exact simb_nil
 refine simb_one ?_
 refine sims_while ?_ ?_ ?_
 refine simt_val ?_
 exact sim_bool
 refine simb_cons ?_ ?_
 refine sims_if ?_ ?_ ?_
 refine simt_cmp (o := .mem) gr.gx ?_ ?_
 exact sim_loc
 exact sim_loc
 refine simb_one ?_
 refine sims_if ?_ ?_ ?_
 refine simt_cmp (o := .mem) gr.gx ?_ ?_
 exact sim_loc
 exact sim_loc
 refine simb_one ?_
 refine sims_ret ?_
 refine sim_bin (o := .add) ?_ ?_
 refine sim_slice ?_ ?_ ?_ ?_
 exact sim_loc
 refine simp_some ?_
 refine sim_sub ?_ ?_
 exact sim_loc
 exact sim_loc
 exact simp_none
 exact simp_none
 refine sim_list ?_
 refine siml_cons ?_ ?_
 exact sim_loc
 exact siml_nil
 exact simb_nil
 refine simb_cons ?_ ?_
 refine sims_expr ?_
 refine sim_meth F.plainAttrs_set F.slot_set_add F.type_set_add call_add ?_ ?_
 exact sim_loc
 refine args_cons ?_ ?_
 exact sim_loc
 exact args_nil
 refine simb_cons ?_ ?_
 refine sims_expr ?_
 refine sim_meth F.plainAttrs_list F.slot_list_append F.type_list_append call_append ?_ ?_
 exact sim_loc
 refine args_cons ?_ ?_
 refine sim_wrap ?_
 refine sim_callN gr.gk (by kernel_rfl) gr.g_iter callee_builtin call_iter ?_
 refine args_cons ?_ ?_
 refine sim_attr gr.attrs ?_
 refine sim_sub ?_ ?_
 exact sim_loc
 exact sim_loc
 exact args_nil
 exact args_nil
 refine simb_cons ?_ ?_
 refine sims_setItem ?_ ?_ ?_
 refine sim_callN gr.gk (by kernel_rfl) gr.g_len callee_builtin call_len ?_
 refine args_cons ?_ ?_
 exact sim_loc
 exact args_nil
 exact sim_loc
 exact sim_loc
 refine simb_one ?_
 refine sims_expr ?_
 refine sim_meth F.plainAttrs_list F.slot_list_append F.type_list_append call_append ?_ ?_
 exact sim_loc
 refine args_cons ?_ ?_
 exact sim_loc
 exact args_nil
 refine simb_one ?_
 refine sims_while ?_ ?_ ?_
 refine simt_val ?_
 exact sim_loc
 refine simb_one ?_
 refine sims_try gr.gk gr.k (by kernel_rfl) gr.g_StopIteration gr.ex_stop ?_ ?_
 refine simb_cons ?_ ?_
 refine sims_setX (hx := store_of (by kernel_rfl)) ?_
 refine sim_callB gr.hse ?_ ?_
 refine sim_sub ?_ ?_
 exact sim_loc
 refine sim_neg ?_
 exact sim_int (k := none)
 refine SimArgs.toC ?_
 exact args_nil
 refine simb_one ?_
 exact sims_break
 refine simb_cons ?_ ?_
 refine sims_del ?_ ?_
 exact sim_loc
 refine sim_meth F.plainAttrs_list F.slot_list_pop F.type_list_pop call_pop ?_ ?_
 exact sim_loc
 exact args_nil
 refine simb_one ?_
 refine sims_expr ?_
 refine sim_meth F.plainAttrs_list F.slot_list_pop F.type_list_pop call_pop ?_ ?_
 exact sim_loc
 exact args_nil
 refine simb_one ?_
 exact sims_break
 exact simb_nil
 refine simb_one ?_
 refine sims_ret ?_
 exact sim_none
theorem getReady.sim {G : Glob} (gr : Gd G) {d : Nat} : SimB G (fnSC (fGetReady.fd G.w.params).scope) true d getReady.prog fGetReady.body := by
 refine simb_cons ?_ ?_
 refine sims_if ?_ ?_ ?_
 refine simt_cmp (o := .is) gr.gx ?_ ?_
 refine sim_attr gr.attrs ?_
 exact sim_loc
 exact sim_none
 refine simb_one ?_
 exact sims_bad
 exact simb_nil
 refine simb_cons ?_ ?_
 refine sims_set ?_ ?_ ?_; rotate_left; exact store_of (by kernel_rfl); intro _; rfl; rotate_right
 refine sim_callN gr.gk (by kernel_rfl) gr.g_tuple callee_type call_tuple ?_
 refine args_cons ?_ ?_
 refine sim_attr gr.attrs ?_
 exact sim_loc
 exact args_nil
 refine simb_cons ?_ ?_
 refine sims_set ?_ ?_ ?_; rotate_left; exact store_of (by kernel_rfl); intro _; rfl; rotate_right
 refine sim_attr gr.attrs ?_
 exact sim_loc
 refine simb_cons ?_ ?_
 refine sims_for ?_ ?_ ?_ ?_
 refine simi_val gr.gx ?_ ?_
 exact sim_loc
 first | exact TgtShape.name _ _ | exact TgtShape.tup _ _ _
 exact tgt_name (store_of (by kernel_rfl))
 first | exact tgtPure_name | exact tgtPure_names
 refine simb_one ?_
 refine sims_setAttr gr.attrs ?_ ?_
 exact sim_glob gr.gk (by kernel_rfl) (glob_int gr.g_NODE_OUT) (by kernel_rfl)
 refine sim_sub ?_ ?_
 exact sim_loc
 exact sim_loc
 refine simb_cons ?_ ?_
 refine sims_expr ?_
 refine sim_meth F.plainAttrs_list F.slot_list_clear F.type_list_clear call_clear ?_ ?_
 refine sim_attr gr.attrs ?_
 exact sim_loc
 exact args_nil
 refine simb_cons ?_ ?_
 refine sims_augAttr (o := .add) gr.attrs trivial ?_ ?_
 exact sim_loc
 refine sim_callN gr.gk (by kernel_rfl) gr.g_len callee_builtin call_len ?_
 refine args_cons ?_ ?_
 exact sim_loc
 exact args_nil
 refine simb_one ?_
 refine sims_ret ?_
 exact sim_loc
theorem done.sim {G : Glob} (gr : Gd G) {d : Nat} : SimB G (fnSC (fDone.fd G.w.params).scope) true d done.prog fDone.body := by
 refine simb_cons ?_ ?_
 refine sims_if ?_ ?_ ?_
 refine simt_cmp (o := .is) gr.gx ?_ ?_
 refine sim_attr gr.attrs ?_
 exact sim_loc
 exact sim_none
 refine simb_one ?_
 exact sims_bad
 exact simb_nil
 refine simb_cons ?_ ?_
 refine sims_set ?_ ?_ ?_; rotate_left; exact store_of (by kernel_rfl); intro _; rfl; rotate_right
 refine sim_attr gr.attrs ?_
 exact sim_loc
 refine simb_one ?_
 refine sims_for ?_ ?_ ?_ ?_
 refine simi_val gr.gx ?_ ?_
 exact sim_loc
 first | exact TgtShape.name _ _ | exact TgtShape.tup _ _ _
 exact tgt_name (store_of (by kernel_rfl))
 first | exact tgtPure_name | exact tgtPure_names
 refine simb_cons ?_ ?_
 refine sims_if ?_ ?_ ?_
 refine simt_cmp (o := .is) gr.gx ?_ ?_
 refine sim_named (hx := store_of (by kernel_rfl)) ?_
 refine sim_meth F.plainAttrs_dict F.slot_dict_get F.type_dict_get (call_get gr.gx) ?_ ?_
 exact sim_loc
 refine args_cons ?_ ?_
 exact sim_loc
 exact args_nil
 exact sim_none
 refine simb_one ?_
 exact sims_bad
 exact simb_nil
 refine simb_cons ?_ ?_
 refine sims_set ?_ ?_ ?_; rotate_left; exact store_of (by kernel_rfl); intro _; rfl; rotate_right
 refine sim_attr gr.attrs ?_
 exact sim_loc
 refine simb_cons ?_ ?_
 refine sims_if ?_ ?_ ?_
 refine simt_cmp (o := .ne) gr.gx ?_ ?_
 exact sim_loc
 exact sim_glob gr.gk (by kernel_rfl) (glob_int gr.g_NODE_OUT) (by kernel_rfl)
 refine simb_one ?_
 refine sims_if ?_ ?_ ?_
 refine simt_cmp (o := .ge) gr.gx ?_ ?_
 exact sim_loc
 exact sim_int (k := none)
 refine simb_one ?_
 exact sims_bad
 refine simb_one ?_
 refine sims_if ?_ ?_ ?_
 refine simt_cmp (o := .eq) gr.gx ?_ ?_
 exact sim_loc
 exact sim_glob gr.gk (by kernel_rfl) (glob_int gr.g_NODE_DONE) (by kernel_rfl)
 refine simb_one ?_
 exact sims_bad
 refine simb_one ?_
 exact sims_bad
 exact simb_nil
 refine simb_cons ?_ ?_
 refine sims_setAttr gr.attrs ?_ ?_
 exact sim_glob gr.gk (by kernel_rfl) (glob_int gr.g_NODE_DONE) (by kernel_rfl)
 exact sim_loc
 refine simb_cons ?_ ?_
 refine sims_for ?_ ?_ ?_ ?_
 refine simi_val gr.gx ?_ ?_
 refine sim_attr gr.attrs ?_
 exact sim_loc
 first | exact TgtShape.name _ _ | exact TgtShape.tup _ _ _
 exact tgt_name (store_of (by kernel_rfl))
 first | exact tgtPure_name | exact tgtPure_names
 refine simb_cons ?_ ?_
 refine sims_set ?_ ?_ ?_; rotate_left; exact store_of (by kernel_rfl); intro _; rfl; rotate_right
 refine sim_sub ?_ ?_
 exact sim_loc
 exact sim_loc
 refine simb_cons ?_ ?_
 refine sims_augAttr (o := .sub) gr.attrs trivial ?_ ?_
 exact sim_loc
 exact sim_int (k := none)
 refine simb_one ?_
 refine sims_if ?_ ?_ ?_
 refine simt_cmp (o := .eq) gr.gx ?_ ?_
 refine sim_attr gr.attrs ?_
 exact sim_loc
 exact sim_int (k := none)
 refine simb_one ?_
 refine sims_expr ?_
 refine sim_meth F.plainAttrs_list F.slot_list_append F.type_list_append call_append ?_ ?_
 refine sim_attr gr.attrs ?_
 exact sim_loc
 refine args_cons ?_ ?_
 exact sim_loc
 exact args_nil
 exact simb_nil
 refine simb_one ?_
 refine sims_augAttr (o := .add) gr.attrs trivial ?_ ?_
 exact sim_loc
 exact sim_int (k := none)
section
variable {G : Glob} {d : Nat}
noncomputable def lookB (s : Scope) (x : String) : Bool := s.names.lookup (Str.ofString x) == some NameKind.local || s.names.lookup (Str.ofString x) == some NameKind.cell
theorem look_of {s : Scope} {x : String} (h : lookB s x = true) : s.names.lookup (Str.ofString x) = some .local ∨ s.names.lookup (Str.ofString x) = some .cell := by
 unfold lookB at h
 rw [Bool.or_eq_true] at h
 exact h.imp beq_iff_eq.mp beq_iff_eq.mp
theorem def_filter (gr : Gd G) : DefAt G 185 (fFilter.fd G.w.params) fFilter.body := def_of gr (o := ⟨.type "function", none, .func (fFilter.fd G.w.params), #[]⟩) (fFilter.got _).2 rfl (by kernel_rfl) (by kernel_rfl) (by kernel_rfl) (by kernel_rfl) (by kernel_rfl) (by kernel_rfl)
theorem filter_code (gr : Gd G) : SimCode G true (d + 3) (.ref 185) aFilter :=
 code_def (d := d + 2) gr.gk (def_filter gr) (binds_args <| of_len2 fun a b => by kernel_rfl) (hf_args (by decide) (all2 (look_of (by kernel_rfl)) (look_of (by kernel_rfl)))) (filter.sim gr)
theorem def_falls (gr : Gd G) : DefAt G 214 (fFalls.fd G.w.params) fFalls.body := def_of gr (o := ⟨.type "function", none, .func (fFalls.fd G.w.params), #[]⟩) (fFalls.got _).2 rfl (by kernel_rfl) (by kernel_rfl) (by kernel_rfl) (by kernel_rfl) (by kernel_rfl) (by kernel_rfl)
theorem falls_code (gr : Gd G) : SimCode G true (d + 1) (.ref 214) aFalls :=
 code_def (d := d + 0) gr.gk (def_falls gr) (binds_args <| of_len3 fun a b c => by kernel_rfl) (hf_args (by decide) (all3 (look_of (by kernel_rfl)) (look_of (by kernel_rfl)) (look_of (by kernel_rfl)))) (falls.sim gr)
theorem def_uld (gr : Gd G) : DefAt G 192 (fUld.fd G.w.params) fUld.body := def_of gr (o := ⟨.type "function", none, .func (fUld.fd G.w.params), #[]⟩) (fUld.got _).2 rfl (by kernel_rfl) (by kernel_rfl) (by kernel_rfl) (by kernel_rfl) (by kernel_rfl) (by kernel_rfl)
theorem uld_code (gr : Gd G) : SimCode G true (d + 1) (.ref 192) aUld :=
 code_def (d := d + 0) gr.gk (def_uld gr) (binds_args <| of_len2 fun a b => by kernel_rfl) (hf_args (by decide) (all2 (look_of (by kernel_rfl)) (look_of (by kernel_rfl)))) (uld.sim gr)
theorem def_gni (gr : Gd G) : DefAt G 80 (fGni.fd G.w.params) fGni.body := def_of gr (o := ⟨.type "function", none, .func (fGni.fd G.w.params), #[]⟩) (fGni.got _).2 rfl (by kernel_rfl) (by kernel_rfl) (by kernel_rfl) (by kernel_rfl) (by kernel_rfl) (by kernel_rfl)
theorem gni_code (gr : Gd G) : SimCode G true (d + 3) (.ref 80) aGni :=
 code_def (d := d + 2) gr.gk (def_gni gr) (binds_args <| of_len2 fun a b => by kernel_rfl) (hf_args (by decide) (all2 (look_of (by kernel_rfl)) (look_of (by kernel_rfl)))) (gni.sim gr)
theorem def_findCycle (gr : Gd G) : DefAt G 127 (fFindCycle.fd G.w.params) fFindCycle.body := def_of gr (o := ⟨.type "function", none, .func (fFindCycle.fd G.w.params), #[]⟩) (fFindCycle.got _).2 rfl (by kernel_rfl) (by kernel_rfl) (by kernel_rfl) (by kernel_rfl) (by kernel_rfl) (by kernel_rfl)
theorem findCycle_code (gr : Gd G) : SimCode G true (d + 1) (.ref 127) aFindCycle :=
 code_def (d := d + 0) gr.gk (def_findCycle gr) (binds_args <| of_len1 fun a => by kernel_rfl) (hf_args (by decide) (all1 (look_of (by kernel_rfl)))) (findCycle.sim gr)
theorem def_getReady (gr : Gd G) : DefAt G 99 (fGetReady.fd G.w.params) fGetReady.body := def_of gr (o := ⟨.type "function", none, .func (fGetReady.fd G.w.params), #[]⟩) (fGetReady.got _).2 rfl (by kernel_rfl) (by kernel_rfl) (by kernel_rfl) (by kernel_rfl) (by kernel_rfl) (by kernel_rfl)
theorem getReady_code (gr : Gd G) : SimCode G true (d + 1) (.ref 99) aGetReady :=
 code_def (d := d + 0) gr.gk (def_getReady gr) (binds_args <| of_len1 fun a => by kernel_rfl) (hf_args (by decide) (all1 (look_of (by kernel_rfl)))) (getReady.sim gr)
theorem def_done (gr : Gd G) : DefAt G 120 (fDone.fd G.w.params) fDone.body := def_of gr (o := ⟨.type "function", none, .func (fDone.fd G.w.params), #[]⟩) (fDone.got _).2 rfl (by kernel_rfl) (by kernel_rfl) (by kernel_rfl) (by kernel_rfl) (by kernel_rfl) (by kernel_rfl)
theorem done_code (gr : Gd G) : SimCode G true (d + 1) (.ref 120) aDone :=
 code_def (d := d + 0) gr.gk (def_done gr) (binds_rest fun vs h => match vs, h with
  | [], h => by simp at h
  | a :: rest, _ => by cases rest <;> kernel_rfl) (hf_rest (by decide) (all2 (look_of (by kernel_rfl)) (look_of (by kernel_rfl)))) (done.sim gr)
end
theorem bound_add (P : Params) : BoundAt (KK P) 137 87 "add" := ⟨(meth_ts P).2.1, by kernel_rfl, by kernel_rfl, by kernel_rfl, by kernel_rfl, by kernel_rfl⟩
theorem bound_done (P : Params) : BoundAt (KK P) 137 120 "done" := ⟨(meth_ts P).2.2.2.2.1, by kernel_rfl, by kernel_rfl, by kernel_rfl, by kernel_rfl, by kernel_rfl⟩
theorem binds_dargs {G : Glob} {fd : FuncData} {ns : List String} {T : Addr} {o : Obj} {items : Array Value} {n : Nat} (gr : Gd G) (ho : (KK G.w.params).lookup T = some o) (hd : fd.defaults = .ref T) (hs : o.data = .seq items n)
  (hb : ∀ vs : List Value, vs.length = ns.length → ∃ k, bindArgs fd ⟨vs, []⟩ = (seqItems? fd.defaults >>= k) ∧ k (some items) = pure ((ns.map Str.ofString).zip vs)) : BindsTo G fd (fArgs ns) := binds_def hd (gr.k _ _ ho) hs hb
theorem add.sim {G : Glob} (gr : Gd G) {d : Nat} : SimB G (fnSC (fAdd.fd G.w.params).scope) true (d + 3) add.prog fAdd.body := by
 refine simb_cons ?_ ?_
 refine sims_if ?_ ?_ ?_
 refine simt_cmp (o := .nis) gr.gx ?_ ?_
 refine sim_attr gr.attrs ?_
 exact sim_loc
 exact sim_none
 refine simb_one ?_
 exact sims_bad
 exact simb_nil
 refine simb_cons ?_ ?_
 refine sims_set ?_ ?_ ?_; rotate_left; exact store_of (by kernel_rfl); intro _; rfl; rotate_right
 refine sim_methO gr.k gr.hts (meth_ts _).1 (gni_code gr).toCall ?_ ?_
 exact sim_loc
 refine SimArgs.toC ?_
 refine args_cons ?_ ?_
 exact sim_loc
 exact args_nil
 refine simb_cons ?_ ?_
 refine sims_augAttr (o := .add) gr.attrs trivial ?_ ?_
 exact sim_loc
 refine sim_callN gr.gk (by kernel_rfl) gr.g_len callee_builtin call_len ?_
 refine args_cons ?_ ?_
 exact sim_loc
 exact args_nil
 refine simb_one ?_
 refine sims_for ?_ ?_ ?_ ?_
 refine simi_val gr.gx ?_ ?_
 exact sim_loc
 first | exact TgtShape.name _ _ | exact TgtShape.tup _ _ _
 exact tgt_name (store_of (by kernel_rfl))
 first | exact tgtPure_name | exact tgtPure_names
 refine simb_cons ?_ ?_
 refine sims_set ?_ ?_ ?_; rotate_left; exact store_of (by kernel_rfl); intro _; rfl; rotate_right
 refine sim_methO gr.k gr.hts (meth_ts _).1 (gni_code gr).toCall ?_ ?_
 exact sim_loc
 refine SimArgs.toC ?_
 refine args_cons ?_ ?_
 exact sim_loc
 exact args_nil
 refine simb_one ?_
 refine sims_expr ?_
 refine sim_meth F.plainAttrs_list F.slot_list_append F.type_list_append call_append ?_ ?_
 refine sim_attr gr.attrs ?_
 exact sim_loc
 refine args_cons ?_ ?_
 exact sim_loc
 exact args_nil
theorem prepare.sim {G : Glob} (gr : Gd G) {d : Nat} : SimB G (fnSC (fPrepare.fd G.w.params).scope) true (d + 1) prepare.prog fPrepare.body := by
 refine simb_cons ?_ ?_
 refine sims_if ?_ ?_ ?_
 refine simt_cmp (o := .nis) gr.gx ?_ ?_
 refine sim_attr gr.attrs ?_
 exact sim_loc
 exact sim_none
 refine simb_one ?_
 exact sims_bad
 exact simb_nil
 refine simb_cons ?_ ?_
 refine sims_setAttr gr.attrs ?_ ?_
 refine sim_comp1 (frees := []) (by kernel_rfl) (by kernel_rfl) ?_ ?_ ?_ ?_ ?_
 refine simi_values ?_ ?_
 refine sim_meth F.plainAttrs_dict F.slot_dict_values F.type_dict_values (call_values gr.gx) ?_ ?_
 refine sim_attr gr.attrs ?_
 exact sim_loc
 exact args_nil
 first | exact TgtShape.name _ _ | exact TgtShape.tup _ _ _
 exact tgt_name (store_of (by kernel_rfl))
 first | exact tgtPure_name | exact tgtPure_names
 refine simts_one ?_
 refine simt_cmp (o := .eq) gr.gx ?_ ?_
 refine sim_attr gr.attrs ?_
 exact sim_loc
 exact sim_int (k := none)
 refine sim_attr gr.attrs ?_
 exact sim_loc
 exact sim_loc
 refine simb_cons ?_ ?_
 refine sims_set ?_ ?_ ?_; rotate_left; exact store_of (by kernel_rfl); intro _; rfl; rotate_right
 refine sim_methO gr.k gr.hts (meth_ts _).2.2.2.2.2 (findCycle_code gr).toCall ?_ ?_
 exact sim_loc
 refine SimArgs.toC ?_
 exact args_nil
 refine simb_one ?_
 refine sims_if ?_ ?_ ?_
 refine simt_val ?_
 exact sim_loc
 refine simb_one ?_
 refine sims_raise gr.gk gr.hce gr.own PySem.F.excBase_ValueError (by kernel_rfl) ?_
 refine args_cons ?_ ?_
 refine sim_joined1 ?_
 exact sim_str
 refine args_cons ?_ ?_
 exact sim_loc
 exact args_nil
 exact simb_nil
section
variable {G : Glob} {d : Nat}
theorem def_add (gr : Gd G) : DefAt G 87 (fAdd.fd G.w.params) fAdd.body := def_of gr (o := ⟨.type "function", none, .func (fAdd.fd G.w.params), #[]⟩) (fAdd.got _).2 rfl (by kernel_rfl) (by kernel_rfl) (by kernel_rfl) (by kernel_rfl) (by kernel_rfl) (by kernel_rfl)
theorem add_code (gr : Gd G) : SimCode G true (d + 4) (.ref 87) aTsAdd :=
 code_def (d := d + 3) gr.gk (def_add gr) (binds_rest fun vs h => match vs, h with
  | [], h => by simp at h
  | [a], h => by simp at h
  | a :: b :: rest, _ => by cases rest <;> kernel_rfl) (hf_rest (by decide) (all3 (look_of (by kernel_rfl)) (look_of (by kernel_rfl)) (look_of (by kernel_rfl)))) (add.sim gr)
theorem def_prepare (gr : Gd G) : DefAt G 92 (fPrepare.fd G.w.params) fPrepare.body := def_of gr (o := ⟨.type "function", none, .func (fPrepare.fd G.w.params), #[]⟩) (fPrepare.got _).2 rfl (by kernel_rfl) (by kernel_rfl) (by kernel_rfl) (by kernel_rfl) (by kernel_rfl) (by kernel_rfl)
theorem prepare_code (gr : Gd G) : SimCodeX G true (d + 2) (.ref 92) aPrepare :=
 code_defX (d := d + 1) gr.gk (def_prepare gr) (binds_args <| of_len1 fun a => by kernel_rfl) (hf_args (by decide) (all1 (look_of (by kernel_rfl)))) (prepare.sim gr)
end
theorem tsInit.sim {G : Glob} (gr : Gd G) {d : Nat} : SimB G (fnSC (fTsInit.fd G.w.params).scope) true (d + 4) tsInit.prog fTsInit.body := by
 refine simb_cons ?_ ?_
 refine sims_setAttr gr.attrs ?_ ?_
 exact sim_dict0
 exact sim_loc
 refine simb_cons ?_ ?_
 refine sims_setAttr gr.attrs ?_ ?_
 exact sim_none
 exact sim_loc
 refine simb_cons ?_ ?_
 refine sims_setAttr gr.attrs ?_ ?_
 exact sim_int (k := none)
 exact sim_loc
 refine simb_cons ?_ ?_
 refine sims_setAttr gr.attrs ?_ ?_
 exact sim_int (k := none)
 exact sim_loc
 refine simb_one ?_
 refine sims_if ?_ ?_ ?_
 refine simt_cmp (o := .nis) gr.gx ?_ ?_
 exact sim_loc
 exact sim_none
 refine simb_one ?_
 refine sims_for ?_ ?_ ?_ ?_
 refine simi_items ?_
 refine sim_meth F.plainAttrs_dict F.slot_dict_items F.type_dict_items (call_items gr.gx) ?_ ?_
 exact sim_loc
 exact args_nil
 exact tgt_2 (store_of (by kernel_rfl)) (store_of (by kernel_rfl))
 first | exact tgtPure_name | exact tgtPure_names
 refine simb_one ?_
 refine sims_expr ?_
 refine sim_methS gr.k gr.hts (bound_add _) (add_code gr) ?_ ?_
 exact sim_loc
 refine argsc_cons_star ?_ ?_
 exact sim_loc
 exact sim_loc
 exact simb_nil
section
variable {G : Glob} {d : Nat}
theorem def_tsInit (gr : Gd G) : DefAt G 73 (fTsInit.fd G.w.params) fTsInit.body := def_of gr (o := ⟨.type "function", none, .func (fTsInit.fd G.w.params), #[]⟩) (fTsInit.got _).2 rfl (by kernel_rfl) (by kernel_rfl) (by kernel_rfl) (by kernel_rfl) (by kernel_rfl) (by kernel_rfl)
theorem tsInit_code (gr : Gd G) : SimCode G true (d + 5) (.ref 73) aTsInit :=
 code_def (d := d + 4) gr.gk (def_tsInit gr) (binds_dargs (T := 66) (o := ⟨.type "tuple", none, .seq #[.none], #[]⟩) gr (by kernel_rfl) (by kernel_rfl) rfl <| of_len2 fun a b => ⟨_, rfl, rfl⟩) (hf_args (by decide) (all2 (look_of (by kernel_rfl)) (look_of (by kernel_rfl)))) (tsInit.sim gr)
theorem ts_call (gr : Gd G) : SimCall G true (d + 6) (.ref 137) aTs := call_make gr.k gr.hts (make_ts _) (tsInit_code gr)
end
theorem swept.sim {G : Glob} (gr : Gd G) {d : Nat} : SimB G (fnSC (fSwept.fd G.w.params).scope) true (d + 6) swept.prog fSwept.body := by
 refine simb_cons ?_ ?_
 refine sims_set ?_ ?_ ?_; rotate_left; exact store_of (by kernel_rfl); intro _; rfl; rotate_right
 refine sim_bin (o := .add) ?_ ?_
 exact sim_loc
 refine sim_list ?_
 refine siml_cons ?_ ?_
 exact sim_int (k := none)
 exact siml_nil
 refine simb_cons ?_ ?_
 refine sims_set ?_ ?_ ?_; rotate_left; exact store_of (by kernel_rfl); intro _; rfl; rotate_right
 exact sim_dict0
 refine simb_cons ?_ ?_
 refine sims_for ?_ ?_ ?_ ?_
 refine simi_val gr.gx ?_ ?_
 exact sim_loc
 first | exact TgtShape.name _ _ | exact TgtShape.tup _ _ _
 exact tgt_name (store_of (by kernel_rfl))
 first | exact tgtPure_name | exact tgtPure_names
 refine simb_one ?_
 refine sims_setItem ?_ ?_ ?_
 refine sim_comp1 (frees := ["name", "near"]) (by kernel_rfl) (by kernel_rfl) ?_ ?_ ?_ ?_ ?_
 refine simi_val gr.gx ?_ ?_
 exact sim_loc
 first | exact TgtShape.name _ _ | exact TgtShape.tup _ _ _
 exact tgt_2 (store_of (by kernel_rfl)) (store_of (by kernel_rfl))
 first | exact tgtPure_name | exact tgtPure_names
 refine simts_one ?_
 refine simt_bool ?_
 refine sima_and ?_ ?_
 refine simt_cmp (o := .eq) gr.gx ?_ ?_
 exact sim_loc
 exact sim_loc
 refine sima_and ?_ ?_
 refine simt_cmp (o := .mem) gr.gx ?_ ?_
 exact sim_loc
 exact sim_loc
 exact sima_and_nil
 exact sim_loc
 exact sim_loc
 exact sim_loc
 refine simb_cons ?_ ?_
 refine sims_set ?_ ?_ ?_; rotate_left; exact store_of (by kernel_rfl); intro _; rfl; rotate_right
 refine sim_callC gr.gk (by kernel_rfl) gr.g_TopologicalSorter (keeps_G gr (by kernel_rfl)) (ts_call gr) ?_
 refine SimArgs.toC ?_
 refine args_cons ?_ ?_
 exact sim_loc
 exact args_nil
 refine simb_cons ?_ ?_
 refine sims_set ?_ ?_ ?_; rotate_left; exact store_of (by kernel_rfl); intro _; rfl; rotate_right
 exact sim_bool
 refine simb_cons ?_ ?_
 refine sims_try gr.gk gr.k (by kernel_rfl) gr.g_CycleError gr.ex_cycle ?_ ?_
 refine simb_one ?_
 refine sims_exprX ?_
 refine sim_methOX gr.k gr.hts (meth_ts _).2.2.1 (prepare_code gr).toCall ?_ ?_
 exact sim_loc
 refine SimArgs.toC ?_
 exact args_nil
 refine simb_one ?_
 refine sims_set ?_ ?_ ?_; rotate_left; exact store_of (by kernel_rfl); intro _; rfl; rotate_right
 exact sim_bool
 refine simb_cons ?_ ?_
 refine sims_set ?_ ?_ ?_; rotate_left; exact store_of (by kernel_rfl); intro _; rfl; rotate_right
 refine sim_list ?_
 exact siml_nil
 refine simb_cons ?_ ?_
 refine sims_set ?_ ?_ ?_; rotate_left; exact store_of (by kernel_rfl); intro _; rfl; rotate_right
 refine sim_callC gr.gk (by kernel_rfl) gr.g_filter (keeps_G gr (by kernel_rfl)) (filter_code gr).toCall ?_
 refine SimArgs.toC ?_
 refine args_cons ?_ ?_
 refine sim_methO gr.k gr.hts (meth_ts _).2.2.2.1 (getReady_code gr).toCall ?_ ?_
 exact sim_loc
 refine SimArgs.toC ?_
 exact args_nil
 refine args_cons ?_ ?_
 refine sim_list ?_
 refine siml_cons ?_ ?_
 exact sim_int (k := none)
 exact siml_nil
 exact args_nil
 refine simb_cons ?_ ?_
 refine sims_while ?_ ?_ ?_
 refine simt_cmp (o := .ne) gr.gx ?_ ?_
 exact sim_loc
 refine sim_list ?_
 exact siml_nil
 refine simb_cons ?_ ?_
 refine sims_expr ?_
 refine sim_meth F.plainAttrs_list F.slot_list_append F.type_list_append call_append ?_ ?_
 exact sim_loc
 refine args_cons ?_ ?_
 refine sim_callN gr.gk (by kernel_rfl) gr.g_sorted callee_builtin call_sorted ?_
 refine args_cons ?_ ?_
 exact sim_loc
 exact args_nil
 exact args_nil
 refine simb_cons ?_ ?_
 refine sims_set ?_ ?_ ?_; rotate_left; exact store_of (by kernel_rfl); intro _; rfl; rotate_right
 refine sim_callC gr.gk (by kernel_rfl) gr.g_filter (keeps_G gr (by kernel_rfl)) (filter_code gr).toCall ?_
 refine SimArgs.toC ?_
 refine args_cons ?_ ?_
 exact sim_loc
 refine args_cons ?_ ?_
 exact sim_loc
 exact args_nil
 refine simb_cons ?_ ?_
 refine sims_expr ?_
 refine sim_methS gr.k gr.hts (bound_done _) (done_code gr) ?_ ?_
 exact sim_loc
 refine argsc_star ?_
 exact sim_loc
 refine simb_one ?_
 refine sims_set ?_ ?_ ?_; rotate_left; exact store_of (by kernel_rfl); intro _; rfl; rotate_right
 refine sim_callC gr.gk (by kernel_rfl) gr.g_filter (keeps_G gr (by kernel_rfl)) (filter_code gr).toCall ?_
 refine SimArgs.toC ?_
 refine args_cons ?_ ?_
 refine sim_methO gr.k gr.hts (meth_ts _).2.2.2.1 (getReady_code gr).toCall ?_ ?_
 exact sim_loc
 refine SimArgs.toC ?_
 exact args_nil
 refine args_cons ?_ ?_
 refine sim_list ?_
 refine siml_cons ?_ ?_
 exact sim_int (k := none)
 exact siml_nil
 exact args_nil
 exact simb_nil
 refine simb_one ?_
 refine sims_ret ?_
 refine sim_list ?_
 refine siml_cons ?_ ?_
 exact sim_loc
 refine siml_cons ?_ ?_
 exact sim_loc
 refine siml_cons ?_ ?_
 exact sim_loc
 exact siml_nil
theorem looked.sim {G : Glob} (gr : Gd G) {d : Nat} : SimB G (fnSC (fLooked.fd G.w.params).scope) true (d + 3) looked.prog fLooked.body := by
 refine simb_cons ?_ ?_
 refine sims_set ?_ ?_ ?_; rotate_left; exact store_of (by kernel_rfl); intro _; rfl; rotate_right
 refine sim_bin (o := .add) ?_ ?_
 exact sim_loc
 refine sim_list ?_
 refine siml_cons ?_ ?_
 exact sim_int (k := none)
 exact siml_nil
 refine simb_cons ?_ ?_
 refine sims_setC1 (frees := ["part"]) (store_of (by kernel_rfl)) (by kernel_rfl) (by kernel_rfl) ?_ ?_ ?_ ?_ ?_
 refine simi_val gr.gx ?_ ?_
 exact sim_loc
 first | exact TgtShape.name _ _ | exact TgtShape.tup _ _ _
 exact tgt_name (store_of (by kernel_rfl))
 first | exact tgtPure_name | exact tgtPure_names
 refine simts_one ?_
 refine simt_cmp (o := .mem) gr.gx ?_ ?_
 exact sim_loc
 exact sim_loc
 exact sim_loc
 refine simb_cons ?_ ?_
 refine sims_setC1 (frees := ["near", "row"]) (store_of (by kernel_rfl)) (by kernel_rfl) (by kernel_rfl) ?_ ?_ ?_ ?_ ?_
 refine simi_val gr.gx ?_ ?_
 exact sim_loc
 first | exact TgtShape.name _ _ | exact TgtShape.tup _ _ _
 exact tgt_2 (store_of (by kernel_rfl)) (store_of (by kernel_rfl))
 first | exact tgtPure_name | exact tgtPure_names
 refine simts_one ?_
 refine simt_bool ?_
 refine sima_and ?_ ?_
 refine simt_cmp (o := .mem) gr.gx ?_ ?_
 exact sim_loc
 exact sim_loc
 refine sima_and ?_ ?_
 refine simt_cmp (o := .mem) gr.gx ?_ ?_
 exact sim_loc
 exact sim_loc
 exact sima_and_nil
 exact sim_loc
 refine simb_cons ?_ ?_
 refine sims_setC1 (frees := ["row"]) (store_of (by kernel_rfl)) (by kernel_rfl) (by kernel_rfl) ?_ ?_ ?_ ?_ ?_
 refine simi_val gr.gx ?_ ?_
 exact sim_loc
 first | exact TgtShape.name _ _ | exact TgtShape.tup _ _ _
 exact tgt_2 (store_of (by kernel_rfl)) (store_of (by kernel_rfl))
 first | exact tgtPure_name | exact tgtPure_names
 refine simts_one ?_
 refine simt_bool ?_
 refine sima_and ?_ ?_
 refine simt_cmp (o := .mem) gr.gx ?_ ?_
 exact sim_loc
 exact sim_loc
 refine sima_and ?_ ?_
 refine simt_cmp (o := .mem) gr.gx ?_ ?_
 exact sim_loc
 exact sim_loc
 exact sima_and_nil
 exact sim_loc
 refine simb_cons ?_ ?_
 refine sims_unpack ?_ ?_
 refine sim_callC gr.gk (by kernel_rfl) gr.g_uld (keeps_G gr (by kernel_rfl)) (uld_code gr).toCall ?_
 refine SimArgs.toC ?_
 refine args_cons ?_ ?_
 exact sim_loc
 refine args_cons ?_ ?_
 exact sim_loc
 exact args_nil
 exact tgt_2 (store_of (by kernel_rfl)) (store_of (by kernel_rfl))
 refine simb_cons ?_ ?_
 refine sims_set ?_ ?_ ?_; rotate_left; exact store_of (by kernel_rfl); intro _; rfl; rotate_right
 refine sim_list ?_
 exact siml_nil
 refine simb_cons ?_ ?_
 refine sims_set ?_ ?_ ?_; rotate_left; exact store_of (by kernel_rfl); intro _; rfl; rotate_right
 refine sim_callC gr.gk (by kernel_rfl) gr.g_filter (keeps_G gr (by kernel_rfl)) (filter_code gr).toCall ?_
 refine SimArgs.toC ?_
 refine args_cons ?_ ?_
 exact sim_loc
 refine args_cons ?_ ?_
 refine sim_callC gr.gk (by kernel_rfl) gr.g_filter (keeps_G gr (by kernel_rfl)) (filter_code gr).toCall ?_
 refine SimArgs.toC ?_
 refine args_cons ?_ ?_
 exact sim_loc
 refine args_cons ?_ ?_
 exact sim_loc
 exact args_nil
 exact args_nil
 refine simb_cons ?_ ?_
 refine sims_while ?_ ?_ ?_
 refine simt_cmp (o := .ne) gr.gx ?_ ?_
 exact sim_loc
 refine sim_list ?_
 exact siml_nil
 refine simb_cons ?_ ?_
 refine sims_set ?_ ?_ ?_; rotate_left; exact store_of (by kernel_rfl); intro _; rfl; rotate_right
 refine sim_bin (o := .add) ?_ ?_
 exact sim_loc
 exact sim_loc
 refine simb_cons ?_ ?_
 refine sims_setC1 (frees := ["found"]) (store_of (by kernel_rfl)) (by kernel_rfl) (by kernel_rfl) ?_ ?_ ?_ ?_ ?_
 refine simi_val gr.gx ?_ ?_
 exact sim_loc
 first | exact TgtShape.name _ _ | exact TgtShape.tup _ _ _
 exact tgt_2 (store_of (by kernel_rfl)) (store_of (by kernel_rfl))
 first | exact tgtPure_name | exact tgtPure_names
 refine simts_one ?_
 refine simt_cmp (o := .mem) gr.gx ?_ ?_
 exact sim_loc
 exact sim_loc
 exact sim_loc
 refine simb_one ?_
 refine sims_set ?_ ?_ ?_; rotate_left; exact store_of (by kernel_rfl); intro _; rfl; rotate_right
 refine sim_callC gr.gk (by kernel_rfl) gr.g_filter (keeps_G gr (by kernel_rfl)) (filter_code gr).toCall ?_
 refine SimArgs.toC ?_
 refine args_cons ?_ ?_
 refine sim_callC gr.gk (by kernel_rfl) gr.g_filter (keeps_G gr (by kernel_rfl)) (filter_code gr).toCall ?_
 refine SimArgs.toC ?_
 refine args_cons ?_ ?_
 exact sim_loc
 refine args_cons ?_ ?_
 refine sim_callC gr.gk (by kernel_rfl) gr.g_filter (keeps_G gr (by kernel_rfl)) (filter_code gr).toCall ?_
 refine SimArgs.toC ?_
 refine args_cons ?_ ?_
 exact sim_loc
 refine args_cons ?_ ?_
 exact sim_loc
 exact args_nil
 exact args_nil
 refine args_cons ?_ ?_
 exact sim_loc
 exact args_nil
 exact simb_nil
 refine simb_one ?_
 refine sims_ret ?_
 refine sim_list ?_
 refine siml_cons ?_ ?_
 refine sim_callN gr.gk (by kernel_rfl) gr.g_sorted callee_builtin call_sorted ?_
 refine args_cons ?_ ?_
 exact sim_loc
 exact args_nil
 refine siml_cons ?_ ?_
 exact sim_loc
 refine siml_cons ?_ ?_
 refine sim_callC gr.gk (by kernel_rfl) gr.g_filter (keeps_G gr (by kernel_rfl)) (filter_code gr).toCall ?_
 refine SimArgs.toC ?_
 refine args_cons ?_ ?_
 exact sim_loc
 refine args_cons ?_ ?_
 refine sim_callC gr.gk (by kernel_rfl) gr.g_filter (keeps_G gr (by kernel_rfl)) (filter_code gr).toCall ?_
 refine SimArgs.toC ?_
 refine args_cons ?_ ?_
 exact sim_loc
 refine args_cons ?_ ?_
 exact sim_loc
 exact args_nil
 exact args_nil
 exact siml_nil
theorem due.sim {G : Glob} (gr : Gd G) {d : Nat} : SimB G (fnSC (fDue.fd G.w.params).scope) true (d + 1) due.prog fDue.body := by
 refine simb_cons ?_ ?_
 refine sims_set ?_ ?_ ?_; rotate_left; exact store_of (by kernel_rfl); intro _; rfl; rotate_right
 refine sim_callN gr.gk (by kernel_rfl) gr.g_list callee_type call_listR ?_
 refine args_cons ?_ ?_
 refine sim_callN gr.gk (by kernel_rfl) gr.g_range callee_type call_range ?_
 refine args_cons ?_ ?_
 exact sim_int (k := none)
 exact args_nil
 exact args_nil
 refine simb_cons ?_ ?_
 refine sims_set ?_ ?_ ?_; rotate_left; exact store_of (by kernel_rfl); intro _; rfl; rotate_right
 refine sim_list ?_
 exact siml_nil
 refine simb_cons ?_ ?_
 refine sims_for ?_ ?_ ?_ ?_
 refine simi_val gr.gx ?_ ?_
 exact sim_loc
 first | exact TgtShape.name _ _ | exact TgtShape.tup _ _ _
 exact tgt_name (store_of (by kernel_rfl))
 first | exact tgtPure_name | exact tgtPure_names
 refine simb_cons ?_ ?_
 refine sims_set ?_ ?_ ?_; rotate_left; exact store_of (by kernel_rfl); intro _; rfl; rotate_right
 refine sim_cmp (o := .ne) gr.gx ?_ ?_
 refine sim_sub ?_ ?_
 refine sim_callC gr.gk (by kernel_rfl) gr.g_falls (keeps_G gr (by kernel_rfl)) (falls_code gr).toCall ?_
 refine SimArgs.toC ?_
 refine args_cons ?_ ?_
 exact sim_loc
 refine args_cons ?_ ?_
 exact sim_loc
 refine args_cons ?_ ?_
 exact sim_none
 exact args_nil
 exact sim_int (k := none)
 refine sim_list ?_
 exact siml_nil
 refine simb_cons ?_ ?_
 refine sims_unpack ?_ ?_
 refine sim_callC gr.gk (by kernel_rfl) gr.g_falls (keeps_G gr (by kernel_rfl)) (falls_code gr).toCall ?_
 refine SimArgs.toC ?_
 refine args_cons ?_ ?_
 exact sim_loc
 refine args_cons ?_ ?_
 exact sim_loc
 refine args_cons ?_ ?_
 exact sim_int (k := none)
 exact args_nil
 exact tgt_2 (store_of (by kernel_rfl)) (store_of (by kernel_rfl))
 refine simb_cons ?_ ?_
 refine sims_expr ?_
 refine sim_meth F.plainAttrs_list F.slot_list_append F.type_list_append call_append ?_ ?_
 exact sim_loc
 refine args_cons ?_ ?_
 refine sim_list ?_
 refine siml_cons ?_ ?_
 exact sim_loc
 refine siml_cons ?_ ?_
 exact sim_loc
 refine siml_cons ?_ ?_
 exact sim_loc
 exact siml_nil
 exact args_nil
 refine simb_cons ?_ ?_
 refine sims_setC1 (frees := ["part"]) (store_of (by kernel_rfl)) (by kernel_rfl) (by kernel_rfl) ?_ ?_ ?_ ?_ ?_
 refine simi_val gr.gx ?_ ?_
 exact sim_loc
 first | exact TgtShape.name _ _ | exact TgtShape.tup _ _ _
 exact tgt_name (store_of (by kernel_rfl))
 first | exact tgtPure_name | exact tgtPure_names
 refine simts_one ?_
 refine simt_cmp (o := .mem) gr.gx ?_ ?_
 exact sim_loc
 exact sim_loc
 exact sim_loc
 refine simb_cons ?_ ?_
 refine sims_setC2 (frees := ["row", "sources", "there"]) (store_of (by kernel_rfl)) (by kernel_rfl) (by kernel_rfl) ?_ ?_ ?_ ?_ ?_ ?_ ?_ ?_ ?_
 refine simi_val gr.gx ?_ ?_
 exact sim_loc
 first | exact TgtShape.name _ _ | exact TgtShape.tup _ _ _
 exact tgt_name (store_of (by kernel_rfl))
 first | exact tgtPure_name | exact tgtPure_names
 exact simts_nil
 refine simi_val gr.gx ?_ ?_
 refine sim_sub ?_ ?_
 exact sim_loc
 exact sim_loc
 first | exact TgtShape.name _ _ | exact TgtShape.tup _ _ _
 exact tgt_name (store_of (by kernel_rfl))
 first | exact tgtPure_name | exact tgtPure_names
 refine simts_one ?_
 refine simt_bool ?_
 refine sima_or ?_ ?_
 refine simt_cmp (o := .eq) gr.gx ?_ ?_
 exact sim_loc
 exact sim_int (k := none)
 refine sima_or ?_ ?_
 refine simt_bool ?_
 refine sima_and ?_ ?_
 refine simt_cmp (o := .mem) gr.gx ?_ ?_
 exact sim_loc
 exact sim_loc
 refine sima_and ?_ ?_
 refine simt_cmp (o := .nmem) gr.gx ?_ ?_
 exact sim_loc
 exact sim_loc
 exact sima_and_nil
 exact sima_or_nil
 exact sim_loc
 refine simb_cons ?_ ?_
 refine sims_set ?_ ?_ ?_; rotate_left; exact store_of (by kernel_rfl); intro _; rfl; rotate_right
 exact sim_loc
 refine simb_cons ?_ ?_
 refine sims_for ?_ ?_ ?_ ?_
 refine simi_range gr.gk (by kernel_rfl) gr.g_range ?_ ?_
 first | exact TgtShape.name _ _ | exact TgtShape.tup _ _ _
 refine args_cons ?_ ?_
 refine sim_callN gr.gk (by kernel_rfl) gr.g_len callee_builtin call_len ?_
 refine args_cons ?_ ?_
 exact sim_loc
 exact args_nil
 exact args_nil
 exact tgt_name (store_of (by kernel_rfl))
 first | exact tgtPure_name | exact tgtPure_names
 refine simb_one ?_
 refine sims_setC1 (frees := ["safe", "sources"]) (store_of (by kernel_rfl)) (by kernel_rfl) (by kernel_rfl) ?_ ?_ ?_ ?_ ?_
 refine simi_val gr.gx ?_ ?_
 exact sim_loc
 first | exact TgtShape.name _ _ | exact TgtShape.tup _ _ _
 exact tgt_name (store_of (by kernel_rfl))
 first | exact tgtPure_name | exact tgtPure_names
 refine simts_one ?_
 refine simt_bool ?_
 refine sima_or ?_ ?_
 refine simt_cmp (o := .mem) gr.gx ?_ ?_
 exact sim_loc
 exact sim_loc
 refine sima_or ?_ ?_
 refine simt_cmp (o := .ne) gr.gx ?_ ?_
 refine sim_comp1 (frees := ["safe"]) (by kernel_rfl) (by kernel_rfl) ?_ ?_ ?_ ?_ ?_
 refine simi_val gr.gx ?_ ?_
 refine sim_sub ?_ ?_
 exact sim_loc
 exact sim_loc
 first | exact TgtShape.name _ _ | exact TgtShape.tup _ _ _
 exact tgt_name (store_of (by kernel_rfl))
 first | exact tgtPure_name | exact tgtPure_names
 refine simts_one ?_
 refine simt_cmp (o := .mem) gr.gx ?_ ?_
 exact sim_loc
 exact sim_loc
 exact sim_loc
 refine sim_list ?_
 exact siml_nil
 exact sima_or_nil
 exact sim_loc
 refine simb_cons ?_ ?_
 refine sims_setC1 (frees := ["row", "safe"]) (store_of (by kernel_rfl)) (by kernel_rfl) (by kernel_rfl) ?_ ?_ ?_ ?_ ?_
 refine simi_val gr.gx ?_ ?_
 exact sim_loc
 first | exact TgtShape.name _ _ | exact TgtShape.tup _ _ _
 exact tgt_name (store_of (by kernel_rfl))
 first | exact tgtPure_name | exact tgtPure_names
 refine simts_one ?_
 refine simt_bool ?_
 refine sima_or ?_ ?_
 refine simt_cmp (o := .nmem) gr.gx ?_ ?_
 exact sim_loc
 exact sim_loc
 refine sima_or ?_ ?_
 refine simt_cmp (o := .mem) gr.gx ?_ ?_
 exact sim_loc
 exact sim_loc
 exact sima_or_nil
 exact sim_loc
 refine simb_one ?_
 refine sims_expr ?_
 refine sim_meth F.plainAttrs_list F.slot_list_append F.type_list_append call_append ?_ ?_
 exact sim_loc
 refine args_cons ?_ ?_
 refine sim_list ?_
 refine siml_cons ?_ ?_
 exact sim_loc
 refine siml_cons ?_ ?_
 refine sim_list ?_
 exact siml_nil
 refine siml_cons ?_ ?_
 exact sim_loc
 exact siml_nil
 exact args_nil
 refine simb_one ?_
 refine sims_ret ?_
 exact sim_loc
section
variable {G : Glob} {d : Nat}
theorem def_swept (gr : Gd G) : DefAt G 197 (fSwept.fd G.w.params) fSwept.body := def_of gr (o := ⟨.type "function", none, .func (fSwept.fd G.w.params), #[]⟩) (fSwept.got _).2 rfl (by kernel_rfl) (by kernel_rfl) (by kernel_rfl) (by kernel_rfl) (by kernel_rfl) (by kernel_rfl)
theorem swept_code (gr : Gd G) : SimCode G true (d + 7) (.ref 197) aSwept :=
 code_def (d := d + 6) gr.gk (def_swept gr) (binds_args <| of_len2 fun a b => by kernel_rfl) (hf_args (by decide) (all2 (look_of (by kernel_rfl)) (look_of (by kernel_rfl)))) (swept.sim gr)
theorem def_looked (gr : Gd G) : DefAt G 202 (fLooked.fd G.w.params) fLooked.body := def_of gr (o := ⟨.type "function", none, .func (fLooked.fd G.w.params), #[]⟩) (fLooked.got _).2 rfl (by kernel_rfl) (by kernel_rfl) (by kernel_rfl) (by kernel_rfl) (by kernel_rfl) (by kernel_rfl)
theorem looked_code (gr : Gd G) : SimCode G true (d + 4) (.ref 202) aLooked :=
 code_def (d := d + 3) gr.gk (def_looked gr) (binds_args <| of_len3 fun a b c => by kernel_rfl) (hf_args (by decide) (all3 (look_of (by kernel_rfl)) (look_of (by kernel_rfl)) (look_of (by kernel_rfl)))) (looked.sim gr)
theorem def_due (gr : Gd G) : DefAt G 219 (fDue.fd G.w.params) fDue.body := def_of gr (o := ⟨.type "function", none, .func (fDue.fd G.w.params), #[]⟩) (fDue.got _).2 rfl (by kernel_rfl) (by kernel_rfl) (by kernel_rfl) (by kernel_rfl) (by kernel_rfl) (by kernel_rfl)
theorem due_code (gr : Gd G) : SimCode G true (d + 2) (.ref 219) aDue :=
 code_def (d := d + 1) gr.gk (def_due gr) (binds_args <| of_len2 fun a b => by kernel_rfl) (hf_args (by decide) (all2 (look_of (by kernel_rfl)) (look_of (by kernel_rfl)))) (due.sim gr)
end
theorem told.sim {G : Glob} (gr : Gd G) {d : Nat} : SimB G (fnSC (fTold.fd G.w.params).scope) true (d + 7) told.prog fTold.body := by
 refine simb_cons ?_ ?_
 refine sims_set ?_ ?_ ?_; rotate_left; exact store_of (by kernel_rfl); intro _; rfl; rotate_right
 refine sim_callN gr.gk (by kernel_rfl) gr.g_list callee_type call_listR ?_
 refine args_cons ?_ ?_
 refine sim_callN gr.gk (by kernel_rfl) gr.g_range callee_type call_range ?_
 refine args_cons ?_ ?_
 exact sim_int (k := none)
 exact args_nil
 exact args_nil
 refine simb_cons ?_ ?_
 refine sims_set ?_ ?_ ?_; rotate_left; exact store_of (by kernel_rfl); intro _; rfl; rotate_right
 refine sim_list ?_
 exact siml_nil
 refine simb_cons ?_ ?_
 refine sims_for ?_ ?_ ?_ ?_
 refine simi_val gr.gx ?_ ?_
 exact sim_loc
 first | exact TgtShape.name _ _ | exact TgtShape.tup _ _ _
 exact tgt_name (store_of (by kernel_rfl))
 first | exact tgtPure_name | exact tgtPure_names
 refine simb_cons ?_ ?_
 refine sims_expr ?_
 refine sim_meth F.plainAttrs_list F.slot_list_append F.type_list_append call_append ?_ ?_
 exact sim_loc
 refine args_cons ?_ ?_
 refine sim_callC gr.gk (by kernel_rfl) gr.g_swept (keeps_G gr (by kernel_rfl)) (swept_code gr).toCall ?_
 refine SimArgs.toC ?_
 refine args_cons ?_ ?_
 exact sim_loc
 refine args_cons ?_ ?_
 exact sim_loc
 exact args_nil
 exact args_nil
 refine simb_cons ?_ ?_
 refine sims_expr ?_
 refine sim_meth F.plainAttrs_list F.slot_list_append F.type_list_append call_append ?_ ?_
 exact sim_loc
 refine args_cons ?_ ?_
 refine sim_callC gr.gk (by kernel_rfl) gr.g_looked (keeps_G gr (by kernel_rfl)) (looked_code gr).toCall ?_
 refine SimArgs.toC ?_
 refine args_cons ?_ ?_
 refine sim_sub ?_ ?_
 refine sim_sub ?_ ?_
 exact sim_loc
 refine sim_neg ?_
 exact sim_int (k := none)
 exact sim_int (k := none)
 refine args_cons ?_ ?_
 exact sim_loc
 refine args_cons ?_ ?_
 exact sim_loc
 exact args_nil
 exact args_nil
 refine simb_one ?_
 refine sims_set ?_ ?_ ?_; rotate_left; exact store_of (by kernel_rfl); intro _; rfl; rotate_right
 refine sim_sub ?_ ?_
 refine sim_sub ?_ ?_
 exact sim_loc
 refine sim_neg ?_
 exact sim_int (k := none)
 exact sim_int (k := none)
 refine simb_one ?_
 refine sims_ret ?_
 exact sim_loc
section
variable {G : Glob} {d : Nat}
theorem def_told (gr : Gd G) : DefAt G 209 (fTold.fd G.w.params) fTold.body := def_of gr (o := ⟨.type "function", none, .func (fTold.fd G.w.params), #[]⟩) (fTold.got _).2 rfl (by kernel_rfl) (by kernel_rfl) (by kernel_rfl) (by kernel_rfl) (by kernel_rfl) (by kernel_rfl)
theorem told_code (gr : Gd G) : SimCode G true (d + 8) (.ref 209) aTold :=
 code_def (d := d + 7) gr.gk (def_told gr) (binds_args <| of_len2 fun a b => by kernel_rfl) (hf_args (by decide) (all2 (look_of (by kernel_rfl)) (look_of (by kernel_rfl)))) (told.sim gr)
end
theorem law.sim {G : Glob} (gr : Gd G) {d : Nat} : SimB G (fnSC (fLaw.fd G.w.params).scope) true (d + 8) law.prog fLaw.body := by
 refine simb_cons ?_ ?_
 refine sims_setC1 (frees := []) (store_of (by kernel_rfl)) (by kernel_rfl) (by kernel_rfl) ?_ ?_ ?_ ?_ ?_
 refine simi_val gr.gx ?_ ?_
 refine sim_slice ?_ ?_ ?_ ?_
 exact sim_loc
 exact simp_none
 refine simp_some ?_
 exact sim_int (k := none)
 exact simp_none
 first | exact TgtShape.name _ _ | exact TgtShape.tup _ _ _
 exact tgt_name (store_of (by kernel_rfl))
 first | exact tgtPure_name | exact tgtPure_names
 exact simts_nil
 refine sim_bin (o := .mod) ?_ ?_
 refine sim_callN gr.gk (by kernel_rfl) gr.g_int callee_type call_int ?_
 refine args_cons ?_ ?_
 exact sim_loc
 exact args_nil
 refine sim_bin (o := .pow) ?_ ?_
 exact sim_int (k := none)
 exact sim_int (k := none)
 refine simb_cons ?_ ?_
 refine sims_set ?_ ?_ ?_; rotate_left; exact store_of (by kernel_rfl); intro _; rfl; rotate_right
 refine sim_list ?_
 refine siml_cons ?_ ?_
 exact sim_int (k := none)
 refine siml_cons ?_ ?_
 exact sim_int (k := none)
 refine siml_cons ?_ ?_
 exact sim_int (k := none)
 refine siml_cons ?_ ?_
 exact sim_int (k := none)
 refine siml_cons ?_ ?_
 exact sim_int (k := none)
 refine siml_cons ?_ ?_
 exact sim_int (k := none)
 refine siml_cons ?_ ?_
 exact sim_int (k := none)
 refine siml_cons ?_ ?_
 exact sim_int (k := none)
 refine siml_cons ?_ ?_
 exact sim_int (k := none)
 refine siml_cons ?_ ?_
 exact sim_int (k := none)
 refine siml_cons ?_ ?_
 exact sim_int (k := none)
 exact siml_nil
 refine simb_cons ?_ ?_
 refine sims_setC1 (frees := ["cells"]) (store_of (by kernel_rfl)) (by kernel_rfl) (by kernel_rfl) ?_ ?_ ?_ ?_ ?_
 refine simi_enum gr.gk (by kernel_rfl) gr.g_enumerate ?_
 refine args_cons ?_ ?_
 exact sim_loc
 exact args_nil
 exact tgt_2 (store_of (by kernel_rfl)) (store_of (by kernel_rfl))
 first | exact tgtPure_name | exact tgtPure_names
 exact simts_nil
 refine sim_bin (o := .add) ?_ ?_
 exact sim_loc
 refine sim_callN gr.gk (by kernel_rfl) gr.g_sum callee_builtin call_sum ?_
 refine args_cons ?_ ?_
 refine sim_slice ?_ ?_ ?_ ?_
 exact sim_loc
 refine simp_some ?_
 exact sim_loc
 exact simp_none
 refine simp_some ?_
 exact sim_int (k := none)
 exact args_nil
 refine simb_cons ?_ ?_
 refine sims_setC1 (frees := []) (store_of (by kernel_rfl)) (by kernel_rfl) (by kernel_rfl) ?_ ?_ ?_ ?_ ?_
 refine simi_val gr.gx ?_ ?_
 exact sim_loc
 first | exact TgtShape.name _ _ | exact TgtShape.tup _ _ _
 exact tgt_name (store_of (by kernel_rfl))
 first | exact tgtPure_name | exact tgtPure_names
 exact simts_nil
 refine sim_tup ?_
 refine siml_cons ?_ ?_
 refine sim_bin (o := .mod) ?_ ?_
 exact sim_loc
 exact sim_int (k := none)
 refine siml_cons ?_ ?_
 refine sim_bin (o := .mod) ?_ ?_
 refine sim_bin (o := .fdiv) ?_ ?_
 exact sim_loc
 exact sim_int (k := none)
 exact sim_int (k := none)
 exact siml_nil
 refine simb_cons ?_ ?_
 refine sims_setC1 (frees := ["arrows"]) (store_of (by kernel_rfl)) (by kernel_rfl) (by kernel_rfl) ?_ ?_ ?_ ?_ ?_
 refine simi_range gr.gk (by kernel_rfl) gr.g_range ?_ ?_
 first | exact TgtShape.name _ _ | exact TgtShape.tup _ _ _
 refine args_cons ?_ ?_
 exact sim_int (k := none)
 exact args_nil
 exact tgt_name (store_of (by kernel_rfl))
 first | exact tgtPure_name | exact tgtPure_names
 exact simts_nil
 refine sim_comp1 (frees := ["name"]) (by kernel_rfl) (by kernel_rfl) ?_ ?_ ?_ ?_ ?_
 refine simi_val gr.gx ?_ ?_
 exact sim_loc
 first | exact TgtShape.name _ _ | exact TgtShape.tup _ _ _
 exact tgt_2 (store_of (by kernel_rfl)) (store_of (by kernel_rfl))
 first | exact tgtPure_name | exact tgtPure_names
 refine simts_one ?_
 refine simt_cmp (o := .eq) gr.gx ?_ ?_
 exact sim_loc
 exact sim_loc
 exact sim_loc
 refine simb_cons ?_ ?_
 refine sims_set ?_ ?_ ?_; rotate_left; exact store_of (by kernel_rfl); intro _; rfl; rotate_right
 refine sim_bin (o := .add) ?_ ?_
 exact sim_int (k := none)
 refine sim_callN gr.gk (by kernel_rfl) gr.g_sum callee_builtin call_sum ?_
 refine args_cons ?_ ?_
 exact sim_loc
 exact args_nil
 refine simb_cons ?_ ?_
 refine sims_setC1 (frees := ["mark"]) (store_of (by kernel_rfl)) (by kernel_rfl) (by kernel_rfl) ?_ ?_ ?_ ?_ ?_
 refine simi_range gr.gk (by kernel_rfl) gr.g_range ?_ ?_
 first | exact TgtShape.name _ _ | exact TgtShape.tup _ _ _
 refine args_cons ?_ ?_
 exact sim_int (k := none)
 exact args_nil
 exact tgt_name (store_of (by kernel_rfl))
 first | exact tgtPure_name | exact tgtPure_names
 refine simts_one ?_
 refine simt_cmp (o := .eq) gr.gx ?_ ?_
 refine sim_bin (o := .mod) ?_ ?_
 refine sim_bin (o := .fdiv) ?_ ?_
 exact sim_loc
 refine sim_bin (o := .pow) ?_ ?_
 exact sim_int (k := none)
 exact sim_loc
 exact sim_int (k := none)
 exact sim_int (k := none)
 exact sim_loc
 refine simb_cons ?_ ?_
 refine sims_set ?_ ?_ ?_; rotate_left; exact store_of (by kernel_rfl); intro _; rfl; rotate_right
 refine sim_list ?_
 refine siml_cons ?_ ?_
 exact sim_loc
 refine siml_cons ?_ ?_
 refine sim_comp1 (frees := ["half"]) (by kernel_rfl) (by kernel_rfl) ?_ ?_ ?_ ?_ ?_
 refine simi_range gr.gk (by kernel_rfl) gr.g_range ?_ ?_
 first | exact TgtShape.name _ _ | exact TgtShape.tup _ _ _
 refine args_cons ?_ ?_
 exact sim_int (k := none)
 exact args_nil
 exact tgt_name (store_of (by kernel_rfl))
 first | exact tgtPure_name | exact tgtPure_names
 refine simts_one ?_
 refine simt_cmp (o := .nmem) gr.gx ?_ ?_
 exact sim_loc
 exact sim_loc
 exact sim_loc
 refine siml_cons ?_ ?_
 refine sim_callN gr.gk (by kernel_rfl) gr.g_list callee_type call_listR ?_
 refine args_cons ?_ ?_
 refine sim_callN gr.gk (by kernel_rfl) gr.g_range callee_type call_range ?_
 refine args_cons ?_ ?_
 exact sim_int (k := none)
 exact args_nil
 exact args_nil
 refine siml_cons ?_ ?_
 refine sim_list ?_
 exact siml_nil
 exact siml_nil
 refine simb_one ?_
 refine sims_ret ?_
 refine sim_cmp (o := .eq) gr.gx ?_ ?_
 refine sim_callC gr.gk (by kernel_rfl) gr.g_told (keeps_G gr (by kernel_rfl)) (told_code gr).toCall ?_
 refine SimArgs.toC ?_
 refine args_cons ?_ ?_
 exact sim_loc
 refine args_cons ?_ ?_
 exact sim_loc
 exact args_nil
 refine sim_callC gr.gk (by kernel_rfl) gr.g_due (keeps_G gr (by kernel_rfl)) (due_code gr).toCall ?_
 refine SimArgs.toC ?_
 refine args_cons ?_ ?_
 exact sim_loc
 refine args_cons ?_ ?_
 exact sim_loc
 exact args_nil
section
variable {G : Glob} {d : Nat}
theorem def_law (gr : Gd G) : DefAt G 224 (fLaw.fd G.w.params) fLaw.body := def_of gr (o := ⟨.type "function", none, .func (fLaw.fd G.w.params), #[]⟩) (fLaw.got _).2 rfl (by kernel_rfl) (by kernel_rfl) (by kernel_rfl) (by kernel_rfl) (by kernel_rfl) (by kernel_rfl)
noncomputable def aLaw : List AV → AHM AV := aDef (fArgs ["script"]) law.prog
theorem law_code (gr : Gd G) : SimCode G true (d + 9) (.ref 224) aLaw :=
 code_def (d := d + 8) gr.gk (def_law gr) (binds_args <| of_len1 fun a => by kernel_rfl) (hf_args (by decide) (all1 (look_of (by kernel_rfl)))) (law.sim gr)
theorem law_claim (gr : Gd G) {s : Shared} (hs : s.heap = G.h₀) {a : Addr} {vs : List Value} {xs : List Int} (hL : s.heap.IsList a vs.toArray) (hI : IntsAre vs xs) (hx : xs.length ≤ 63) {R : Result → Shared → Prop}
  (hR : ∀ s', (∀ b o, s.heap.get? b = some o → s'.heap.get? b = some o) → s'.os = s.os → s'.gens = s.gens → R (.ok (.ret (.bool true))) s') : codeAny G.M callerA (.call (.ref 224) ⟨[.ref a], []⟩) R s := by
 obtain ⟨z, hp', e, rfl⟩ := onRes_ok <| show wpH (aLaw [.script xs]) (fun v zz => v = .bool true) [] from wp_def (bs := [("script", .script xs)]) rfl (law_run hx fun zz => rfl)
 have hin : HInv G [] [] [] s := ⟨fun b o h => by rw [hs]; exact h, rfl, List.nodup_nil, fun n c a h => (by cases h), fun a h => (by cases h), fun e h => (by cases h)⟩
 obtain ⟨o, ho, hc, n, hd⟩ := hL
 refine law_code (d := 0) gr [.script xs] callerA [] [] [] s (.bool true) hp' [.ref a] ⟨rfl, by decide +kernel, by decide +kernel, fun zz => rfl⟩ hin (.cons (.script (hs ▸ ho) hc hd hI) .nil) e R fun b s' μ' x H v => ?_
 cases v
 obtain ⟨h', tk, e'⟩ := x.same
 exact hR s' (fun b o h => H.base b o (hs ▸ h)) (by rw [e']) (by rw [e'])
end
theorem gv_k {G : Glob} {K : Frag} {n : String} {v : Value} (X : K.In G.h₀) (g : G.h₀.Ns mainGlobals G.mg) (e : nsIn K mainGlobals (Str.ofString n) = some (some v)) : GlobV G n v := .inl (mg_of X g e)
theorem gv_b {G : Glob} {K : Frag} {n : String} {v : Value} (X : K.In G.h₀) (g : G.h₀.Ns mainGlobals G.mg) (b : ∀ x : PySem.Str, x ≠ "__name__" → G.mb x = bootBuiltins x) (e : nsIn K mainGlobals (Str.ofString n) = some none) (h : bootBuiltins (Str.ofString n) = some v) (hn : (Str.ofString n == ("__name__" : PySem.Str)) = false) : GlobV G n v :=
 .inr ⟨mg_none_of X g e, (b _ (fun q => by rw [q] at hn; simp at hn)).trans h⟩
theorem gx_of {p p' : Program} {loose : List PySem.Str} {w : World} {mg mb : PySem.Str → Option Value} {h : Heap} (hm : (h.get? sysModules).isSome = true) (T : TopRead p' loose mg mb h) : GX ⟨p, w, h, mg, mb, addrOf⟩ := ⟨⟨T.g, T.b, T.nolimit⟩, hm⟩
theorem gd_of {p p' : Program} {loose : List PySem.Str} {w : World} {mg mb : PySem.Str → Option Value} {h : Heap} (X : (KK w.params).In h) (hm : (h.get? sysModules).isSome = true) (T : TopRead p' loose mg mb h) : Gd ⟨p, w, h, mg, mb, addrOf⟩ where
 gx := gx_of hm T
 k := X
 addr := rfl
 g_list := gv_b X T.g T.builtins (by kernel_rfl) (by kernel_rfl) (by kernel_rfl)
 g_range := gv_b X T.g T.builtins (by kernel_rfl) (by kernel_rfl) (by kernel_rfl)
 g_tuple := gv_b X T.g T.builtins (by kernel_rfl) (by kernel_rfl) (by kernel_rfl)
 g_set := gv_b X T.g T.builtins (by kernel_rfl) (by kernel_rfl) (by kernel_rfl)
 g_int := gv_b X T.g T.builtins (by kernel_rfl) (by kernel_rfl) (by kernel_rfl)
 g_bool := gv_b X T.g T.builtins (by kernel_rfl) (by kernel_rfl) (by kernel_rfl)
 g_enumerate := gv_b X T.g T.builtins (by kernel_rfl) (by kernel_rfl) (by kernel_rfl)
 g_ValueError := gv_b X T.g T.builtins (by kernel_rfl) (by kernel_rfl) (by kernel_rfl)
 g_StopIteration := gv_b X T.g T.builtins (by kernel_rfl) (by kernel_rfl) (by kernel_rfl)
 g_len := gv_b X T.g T.builtins (by kernel_rfl) (by kernel_rfl) (by kernel_rfl)
 g_sum := gv_b X T.g T.builtins (by kernel_rfl) (by kernel_rfl) (by kernel_rfl)
 g_sorted := gv_b X T.g T.builtins (by kernel_rfl) (by kernel_rfl) (by kernel_rfl)
 g_iter := gv_b X T.g T.builtins (by kernel_rfl) (by kernel_rfl) (by kernel_rfl)
 g_next := gv_b X T.g T.builtins (by kernel_rfl) (by kernel_rfl) (by kernel_rfl)
 g_NODE_OUT := gv_k X T.g (by kernel_rfl)
 g_NODE_DONE := gv_k X T.g (by kernel_rfl)
 g_NodeInfo := gv_k X T.g (by kernel_rfl)
 g_CycleError := gv_k X T.g (by kernel_rfl)
 g_TopologicalSorter := gv_k X T.g (by kernel_rfl)
 g_filterfalse := gv_k X T.g (by kernel_rfl)
 g_filter := gv_k X T.g (by kernel_rfl)
 g_uld := gv_k X T.g (by kernel_rfl)
 g_swept := gv_k X T.g (by kernel_rfl)
 g_looked := gv_k X T.g (by kernel_rfl)
 g_told := gv_k X T.g (by kernel_rfl)
 g_falls := gv_k X T.g (by kernel_rfl)
 g_due := gv_k X T.g (by kernel_rfl)
 own := own_of_in X T (by kernel_rfl) (by kernel_rfl)
end Mine
namespace Mine.fin
theorem tw11014676502603600922 : True := ⟨⟩
theorem tw2824846461999071874 : True := ⟨⟩
theorem tw101400259379878417 : True := ⟨⟩
theorem tw15675102808854859970 : True := ⟨⟩
theorem tw7259804445196553303 : True := ⟨⟩
theorem tw11351276838400808062 : True := ⟨⟩
theorem tw14502568938100002273 : True := ⟨⟩
theorem tw1717465138777567415 : True := ⟨⟩
theorem tw5615129895364139138 : True := ⟨⟩
theorem tw5805905742469029177 : True := ⟨⟩
theorem tw4878226113927451544 : True := ⟨⟩
theorem tw14578271805448956485 : True := ⟨⟩
theorem tw216489041496292469 : True := ⟨⟩
theorem tw12355744275394475900 : True := ⟨⟩
theorem tw10383673109516279431 : True := ⟨⟩
theorem tw12494888245299231016 : True := ⟨⟩
theorem tw846297522682114974 : True := ⟨⟩
theorem tw14139026862911339306 : True := ⟨⟩
theorem tw3810570522144960214 : True := ⟨⟩
theorem tw7783950685163080668 : True := ⟨⟩
theorem tw13360279666012451719 : True := ⟨⟩
theorem tw8025084765662995669 : True := ⟨⟩
theorem tw3243682811363688027 : True := ⟨⟩
theorem tw15688172546075569117 : True := ⟨⟩
theorem tw6671992857765853949 : True := ⟨⟩
theorem tw5776136370200156792 : True := ⟨⟩
theorem tw7995362448368537469 : True := ⟨⟩
theorem tw12876064707754696378 : True := ⟨⟩
theorem tw1976505206021243879 : True := ⟨⟩
theorem tw13516622038369049944 : True := ⟨⟩
theorem tw6207176494656529804 : True := ⟨⟩
theorem tw16934629359412608497 : True := ⟨⟩
theorem tw12649782002744950493 : True := ⟨⟩
theorem tw4928979718650693569 : True := ⟨⟩
theorem tw5486226609284752418 : True := ⟨⟩
theorem tw14560573928864763818 : True := ⟨⟩
theorem tw3683778510129048087 : True := ⟨⟩
theorem tw1252854909445205041 : True := ⟨⟩
theorem tw3199103547748192838 : True := ⟨⟩
theorem tw10147658903529517814 : True := ⟨⟩
theorem tw13199158710529813207 : True := ⟨⟩
theorem tw5678346346211369953 : True := ⟨⟩
theorem tw12550770813317053977 : True := ⟨⟩
theorem tw6127190174262240918 : True := ⟨⟩
theorem tw8416529770105884409 : True := ⟨⟩
theorem tw12869217540446652890 : True := ⟨⟩
theorem tw544173102793226557 : True := ⟨⟩
theorem tw895571856199123645 : True := ⟨⟩
theorem tw6956187926921108005 : True := ⟨⟩
theorem tw3173534031939492945 : True := ⟨⟩
theorem tw999798209818781672 : True := ⟨⟩
theorem tw2305881189932309285 : True := ⟨⟩
theorem tw14574801432027512755 : True := ⟨⟩
theorem tw6650461044873433052 : True := ⟨⟩
theorem tw15989303212955285315 : True := ⟨⟩
theorem tw799341379326975648 : True := ⟨⟩
theorem tw12740692763255036000 : True := ⟨⟩
theorem tw3314143786362844604 : True := ⟨⟩
theorem tw13724452099449386491 : True := ⟨⟩
theorem tw15583698165555649274 : True := ⟨⟩
theorem tw3263211703599914710 : True := ⟨⟩
theorem tw480829909506669009 : True := ⟨⟩
theorem tw13162651487661262736 : True := ⟨⟩
theorem tw9113340658982188547 : True := ⟨⟩
theorem tw3343445320678177929 : True := ⟨⟩
theorem tw13294311002278339166 : True := ⟨⟩
theorem tw17861066769153400444 : True := ⟨⟩
theorem tw3105451386036433885 : True := ⟨⟩
theorem tw9913140749668108558 : True := ⟨⟩
theorem tw8352470293576582857 : True := ⟨⟩
theorem tw14347400895652799225 : True := ⟨⟩
theorem tw5734618986648460908 : True := ⟨⟩
theorem tw2462912638960843985 : True := ⟨⟩
theorem tw8383268338085895543 : True := ⟨⟩
theorem tw16496857829328116044 : True := ⟨⟩
theorem tw1613116972386908190 : True := ⟨⟩
theorem tw6567050819087999508 : True := ⟨⟩
theorem tw6068950659093879613 : True := ⟨⟩
theorem tw1625080806587739848 : True := ⟨⟩
theorem tw10807920368746810246 : True := ⟨⟩
theorem tw8643116662766533202 : True := ⟨⟩
theorem tw17656766251404061198 : True := ⟨⟩
theorem tw16906536467411238026 : True := ⟨⟩
theorem tw12876116671307685997 : True := ⟨⟩
theorem tw9001875181463519149 : True := ⟨⟩
theorem tw12711679700452659978 : True := ⟨⟩
theorem tw16115155874713506467 : True := ⟨⟩
theorem tw428092273266315144 : True := ⟨⟩
theorem tw16275787546110486726 : True := ⟨⟩
theorem tw11336253725339858928 : True := ⟨⟩
theorem tw2866121171748074186 : True := ⟨⟩
theorem tw251868834278440796 : True := ⟨⟩
theorem tw7613945582906998725 : True := ⟨⟩
theorem tw12996517811204074000 : True := ⟨⟩
theorem tw14517287926952318261 : True := ⟨⟩
theorem tw17197158672614542318 : True := ⟨⟩
theorem tw8272817396058243321 : True := ⟨⟩
theorem tw10875463905939285979 : True := ⟨⟩
theorem tw8919302590299486024 : True := ⟨⟩
theorem tw16958243865122950064 : True := ⟨⟩
theorem tw17801579834951734752 : True := ⟨⟩
theorem tw4170516301191304579 : True := ⟨⟩
theorem tw1921391257341544841 : True := ⟨⟩
theorem tw18105942590061964161 : True := ⟨⟩
theorem tw5098551885099359569 : True := ⟨⟩
theorem tw11192643925408225281 : True := ⟨⟩
theorem tw17416127249078093707 : True := ⟨⟩
theorem tw10580198807604790814 : True := ⟨⟩
theorem tw8408514402456403777 : True := ⟨⟩
theorem tw10874316729293906858 : True := ⟨⟩
theorem tw10925335251469727208 : True := ⟨⟩
theorem tw17933470926392208243 : True := ⟨⟩
theorem tw13383306551100868464 : True := ⟨⟩
theorem tw10329872625359487480 : True := ⟨⟩
theorem tw4209717502836232480 : True := ⟨⟩
theorem tw3459265974087741279 : True := ⟨⟩
theorem tw7380833856163905736 : True := ⟨⟩
theorem tw12448240930570709186 : True := ⟨⟩
theorem tw8577089030196625639 : True := ⟨⟩
theorem tw1887099378405440850 : True := ⟨⟩
theorem tw15344004072050561172 : True := ⟨⟩
theorem tw9387745189664136937 : True := ⟨⟩
theorem tw7613857476909055813 : True := ⟨⟩
theorem tw16510490156224867327 : True := ⟨⟩
theorem tw12409915417874342407 : True := ⟨⟩
theorem tw17204297501091165112 : True := ⟨⟩
theorem tw4218790737952374519 : True := ⟨⟩
theorem tw9746901515087519452 : True := ⟨⟩
theorem tw14245171486683049214 : True := ⟨⟩
theorem tw15533503492667675913 : True := ⟨⟩
theorem tw6381419901266130222 : True := ⟨⟩
theorem tw10852849658779182186 : True := ⟨⟩
theorem tw14431720936831517352 : True := ⟨⟩
theorem tw9218923581257491847 : True := ⟨⟩
theorem tw13337293482115323266 : True := ⟨⟩
end Mine.fin
set_option Elab.async true
local macro_rules
 | `(tactic| o_head $t) => match t.raw[1] with
 | .node _ _ a => if a.size == 2 then pure (Mine.d "'o_head Mine.modHook @0 /2Lean.Parser.Term.app /2PySem.W.tacticO_head_" [a[1]!]) else Lean.Macro.throwUnsupported
 | _ => Lean.Macro.throwUnsupported
set_option maxHeartbeats 8000000
open Mine in
theorem Mine.fin : PySem.Challenge.rw_ik0180_01.Holds := by
 w_on; o_law; k_head; (case hw => w_witness2)
 k_fill
 intro w s₀ s₁ mg mb G Y fa o pm cd doc dV kV ho hd hcd hD hmg hg args vals as hpre hlay hrd hwl hlo
 have KX : (KK w.params).In s₁.heap := Y.1
 have hm := Y.2
 refine Ground.open G ?_
 intro T B D TE TW
 have hfa : fa = 224 := by
  have h1 := mg_of KX T.g (n := Str.ofString "law") (v := .ref 224) (by kernel_rfl)
  have h2 := hmg.symm.trans h1
  cases h2 <;> rfl
 subst hfa
 have GD : Gd ⟨PySem.Challenge.rw_ik0180_01.row.prog, w, s₁.heap, mg, mb, addrOf⟩ := gd_of KX hm (topRead_of T)
 clear TE TW B hmg ho hd hcd Y
 wrow_args hpre hlay hrd hwl hlo
 first | refine callC_kw (enter_call ?_) | refine enter_call ?_ | refine callC_kw (enter_callW ?_) | refine enter_callW ?_
 clear hD
 refine law_claim GD rfl (by assumption) (by assumption) (by omega) fun s' k os gens => GoodW.toG ⟨.inl ⟨.bool true, .bool true, [], rfl, fun cls => ?_, .bool true, ?_, fun zz => ⟨List.nodup_nil, fun a h => (by cases h)⟩⟩, k, os, gens.trans hg⟩
 ·rfl
 ·wrow_post
theorem PySem.Challenge.cw_ik0180_01_holds : PySem.Challenge.rw_ik0180_01.Holds := by
 exact Mine.fin
