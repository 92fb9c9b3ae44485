import PyProof.Rows.All
import Wide.All
import OpenK.AllK
import Wide.FinOn
import Lean
import PySem.Challenge.RW_ik0180_02
set_option bootstrap.genMatcherCode false
set_option compiler.extract_closed false
set_option genSizeOf false
set_option Elab.async false
set_option autoImplicit false
set_option linter.unusedVariables false
set_option linter.unusedSimpArgs false
set_option maxRecDepth 100000
set_option maxHeartbeats 4000000
open PySem PySem.W PyProof.Rows PySem.Spec
open List (append_assoc append_nil count_append count_cons count_cons_self count_eq_zero count_pos_iff filter_cons foldl_cons getElem?_append_left getElem?_append_right getElem?_eq_getElem getElem?_map length_append length_cons length_eq_zero_iff length_filter_le length_map length_nil length_set length_singleton lookup_cons map_append map_cons map_map mem_append mem_append_left mem_cons mem_cons_of_mem mem_cons_self mem_filter mem_filterMap mem_flatMap mem_map mem_of_getElem? mem_range mem_singleton nil_append nodup_cons nodup_nil not_mem_nil pairwise_cons prefix_refl size_toArray)
def Mine.dS (h : List Lean.Syntax) : List String -> List Lean.Syntax -> Lean.Syntax
 | [], s => s.headD .missing
 | t :: ts, s => dS h ts (match t.toList with
  | '@' :: c :: _ => h.getD (c.toNat - 48) .missing :: s
  | '\'' :: l => .atom .none (String.ofList l) :: s
  | '/' :: c :: l => .node .none (String.ofList l).toName (s.take (c.toNat - 48)).reverse.toArray :: s.drop (c.toNat - 48)
  | _ => Lean.mkIdent t.toName :: s)
def Mine.d (s : String) (h : List Lean.Syntax) : Lean.Syntax := dS h (s.splitOn " ") []
def Mine.dN (l : List Lean.Syntax) : Lean.Syntax := .node .none `null l.toArray
def Mine.aR : Lean.Syntax := d "'intros /0null /2Lean.Parser.Tactic.intros '; 'rfl /1Lean.Parser.Tactic.tacticRfl /3null /1Lean.Parser.Tactic.tacticSeq1Indented /1Lean.Parser.Tactic.tacticSeq" []
def Mine.aK : Lean.Syntax := d "'kernel_rfl /1tacticKernel_rfl /1null /1Lean.Parser.Tactic.tacticSeq1Indented /1Lean.Parser.Tactic.tacticSeq" []
def Mine.aW : Lean.Syntax := d "'with_unfolding_all 'rfl /1Lean.Parser.Tactic.tacticRfl /1null /1Lean.Parser.Tactic.tacticSeq1Indented /1Lean.Parser.Tactic.tacticSeq /2Lean.Parser.Tactic.withUnfoldingAll /1null /1Lean.Parser.Tactic.tacticSeq1Indented /1Lean.Parser.Tactic.tacticSeq" []
local macro_rules
 | `(tactic| ext) => pure (Mine.d "'kernel_rfl /1tacticKernel_rfl" [])
local macro_rules
 | `(tactic| omega) => pure (Mine.d "'first '| 'lia /0null /1Lean.Parser.Tactic.optConfig /2Lean.Parser.Tactic.lia /1null /1Lean.Parser.Tactic.tacticSeq1Indented /1Lean.Parser.Tactic.tacticSeq /2group '| 'omega '( splitDisjunctions ':= true ') /5Lean.Parser.Tactic.valConfigItem /1Lean.Parser.Tactic.configItem /1null /1Lean.Parser.Tactic.optConfig /2Lean.Parser.Tactic.omega /1null /1Lean.Parser.Tactic.tacticSeq1Indented /1Lean.Parser.Tactic.tacticSeq /2group /2null /2Lean.Parser.Tactic.first" [])
open PySem PySem.W PyProof.Rows
theorem Mine.hold {P : Prop} (k : ∀ g : Prop, (P -> g) -> g) : P := k P id
theorem Mine.sp' {α β : Type} {a c : α} {b d : β} {P : Prop} (h : some (a, b) = some (c, d)) (k : c = a -> d = b -> P) : P := by
 injection h with h
 injection h with h1 h2
 exact k h1.symm h2.symm
theorem Mine.nn {α : Type} {a : α} {P : Prop} (h : a ∈ ([] : List α)) : P := absurd h not_mem_nil
theorem Mine.xE1 {TD : Sort _} {p : TD -> Prop} {P : Prop} (h : ∃ a0, p a0) (k : ∀ a0, p a0 -> P) : P := h.elim fun a0 h => k a0 h
theorem Mine.xE2 {TD WZ : Sort _} {p : TD -> WZ -> Prop} {P : Prop} (h : ∃ a0 a1, p a0 a1) (k : ∀ a0 a1, p a0 a1 -> P) : P := h.elim fun a0 h => h.elim fun a1 h => k a0 a1 h
theorem Mine.xE3 {TD WZ n6 : Sort _} {p : TD -> WZ -> n6 -> Prop} {P : Prop} (h : ∃ a0 a1 a2, p a0 a1 a2) (k : ∀ a0 a1 a2, p a0 a1 a2 -> P) : P := h.elim fun a0 h => h.elim fun a1 h => h.elim fun a2 h => k a0 a1 a2 h
theorem Mine.xE4 {TD WZ n6 G8 : Sort _} {p : TD -> WZ -> n6 -> G8 -> Prop} {P : Prop} (h : ∃ a0 a1 a2 a3, p a0 a1 a2 a3) (k : ∀ a0 a1 a2 a3, p a0 a1 a2 a3 -> P) : P := h.elim fun a0 h => h.elim fun a1 h => h.elim fun a2 h => h.elim fun a3 h => k a0 a1 a2 a3 h
theorem Mine.xE5 {TD WZ n6 G8 N9 : Sort _} {p : TD -> WZ -> n6 -> G8 -> N9 -> Prop} {P : Prop} (h : ∃ a0 a1 a2 a3 a4, p a0 a1 a2 a3 a4) (k : ∀ a0 a1 a2 a3 a4, p a0 a1 a2 a3 a4 -> P) : P := h.elim fun a0 h => h.elim fun a1 h => h.elim fun a2 h => h.elim fun a3 h => h.elim fun a4 h => k a0 a1 a2 a3 a4 h
theorem Mine.xC2 {a b P : Prop} (h : a /\ b) (k : a -> b -> P) : P := k h.1 h.2
theorem Mine.xC3 {a b c P : Prop} (h : a /\ b /\ c) (k : a -> b -> c -> P) : P := xC2 h.2 (k h.1)
theorem Mine.xC4 {a b c d P : Prop} (h : a /\ b /\ c /\ d) (k : a -> b -> c -> d -> P) : P := xC3 h.2 (k h.1)
theorem Mine.xC5 {a b c d e P : Prop} (h : a /\ b /\ c /\ d /\ e) (k : a -> b -> c -> d -> e -> P) : P := xC4 h.2 (k h.1)
theorem Mine.xC6 {a b c d e f P : Prop} (h : a /\ b /\ c /\ d /\ e /\ f) (k : a -> b -> c -> d -> e -> f -> P) : P := xC5 h.2 (k h.1)
theorem Mine.xC7 {a b c d e f g P : Prop} (h : a /\ b /\ c /\ d /\ e /\ f /\ g) (k : a -> b -> c -> d -> e -> f -> g -> P) : P := xC6 h.2 (k h.1)
theorem Mine.xC8 {a b c d e f g i P : Prop} (h : a /\ b /\ c /\ d /\ e /\ f /\ g /\ i) (k : a -> b -> c -> d -> e -> f -> g -> i -> P) : P := xC7 h.2 (k h.1)
theorem Mine.xC9 {a b c d e f g i j P : Prop} (h : a /\ b /\ c /\ d /\ e /\ f /\ g /\ i /\ j) (k : a -> b -> c -> d -> e -> f -> g -> i -> j -> P) : P := xC8 h.2 (k h.1)
theorem Mine.xC10 {a b c d e f g i j l P : Prop} (h : a /\ b /\ c /\ d /\ e /\ f /\ g /\ i /\ j /\ l) (k : a -> b -> c -> d -> e -> f -> g -> i -> j -> l -> P) : P := xC9 h.2 (k h.1)
theorem Mine.xC11 {a b c d e f g i j l m P : Prop} (h : a /\ b /\ c /\ d /\ e /\ f /\ g /\ i /\ j /\ l /\ m) (k : a -> b -> c -> d -> e -> f -> g -> i -> j -> l -> m -> P) : P := xC10 h.2 (k h.1)
theorem Mine.xC12 {a b c d e f g i j l m n P : Prop} (h : a /\ b /\ c /\ d /\ e /\ f /\ g /\ i /\ j /\ l /\ m /\ n) (k : a -> b -> c -> d -> e -> f -> g -> i -> j -> l -> m -> n -> P) : P := xC11 h.2 (k h.1)
theorem Mine.xC13 {a b c d e f g i j l m n o P : Prop} (h : a /\ b /\ c /\ d /\ e /\ f /\ g /\ i /\ j /\ l /\ m /\ n /\ o) (k : a -> b -> c -> d -> e -> f -> g -> i -> j -> l -> m -> n -> o -> P) : P := xC12 h.2 (k h.1)
theorem Mine.xC14 {a b c d e f g i j l m n o p P : Prop} (h : a /\ b /\ c /\ d /\ e /\ f /\ g /\ i /\ j /\ l /\ m /\ n /\ o /\ p) (k : a -> b -> c -> d -> e -> f -> g -> i -> j -> l -> m -> n -> o -> p -> P) : P := xC13 h.2 (k h.1)
theorem Mine.xC15 {a b c d e f g i j l m n o p q P : Prop} (h : a /\ b /\ c /\ d /\ e /\ f /\ g /\ i /\ j /\ l /\ m /\ n /\ o /\ p /\ q) (k : a -> b -> c -> d -> e -> f -> g -> i -> j -> l -> m -> n -> o -> p -> q -> P) : P := xC14 h.2 (k h.1)
theorem Mine.xC16 {a b c d e f g i j l m n o p q r P : Prop} (h : a /\ b /\ c /\ d /\ e /\ f /\ g /\ i /\ j /\ l /\ m /\ n /\ o /\ p /\ q /\ r) (k : a -> b -> c -> d -> e -> f -> g -> i -> j -> l -> m -> n -> o -> p -> q -> r -> P) : P := xC15 h.2 (k h.1)
local macro_rules
 | `(tactic| cases $h:ident) => pure (Mine.d "'first '| 'subst @0 /1null /2Lean.Parser.Tactic.subst /1null /1Lean.Parser.Tactic.tacticSeq1Indented /1Lean.Parser.Tactic.tacticSeq /2group '| '( 'injection @0 /0null /3Lean.Parser.Tactic.injection '; 'done /1Lean.Parser.Tactic.done /3null /1Lean.Parser.Tactic.tacticSeq1Indented /1Lean.Parser.Tactic.tacticSeq ') /3Lean.Parser.Tactic.paren /1null /1Lean.Parser.Tactic.tacticSeq1Indented /1Lean.Parser.Tactic.tacticSeq /2group '| '( 'refine Mine.sp' @0 '? '_ /2Lean.Parser.Term.syntheticHole /2null /2Lean.Parser.Term.app /2Lean.Parser.Tactic.refine '; 'clear @0 /1null /2Lean.Parser.Tactic.clear '; 'intro zQ1 zQ2 /2null /2Lean.Parser.Tactic.intro '; 'cases /0null zQ1 /2Lean.Parser.Tactic.elimTarget /1null /0null /0null /4Lean.Parser.Tactic.cases '; 'cases /0null zQ2 /2Lean.Parser.Tactic.elimTarget /1null /0null /0null /4Lean.Parser.Tactic.cases /9null /1Lean.Parser.Tactic.tacticSeq1Indented /1Lean.Parser.Tactic.tacticSeq ') /3Lean.Parser.Tactic.paren /1null /1Lean.Parser.Tactic.tacticSeq1Indented /1Lean.Parser.Tactic.tacticSeq /2group '| '( 'injection @0 'with zQ1 zQ2 zQ3 /3null /2null /3Lean.Parser.Tactic.injection '; 'cases /0null zQ1 /2Lean.Parser.Tactic.elimTarget /1null /0null /0null /4Lean.Parser.Tactic.cases '; 'cases /0null zQ2 /2Lean.Parser.Tactic.elimTarget /1null /0null /0null /4Lean.Parser.Tactic.cases '; 'cases /0null zQ3 /2Lean.Parser.Tactic.elimTarget /1null /0null /0null /4Lean.Parser.Tactic.cases /7null /1Lean.Parser.Tactic.tacticSeq1Indented /1Lean.Parser.Tactic.tacticSeq ') /3Lean.Parser.Tactic.paren /1null /1Lean.Parser.Tactic.tacticSeq1Indented /1Lean.Parser.Tactic.tacticSeq /2group '| '( 'injection @0 'with zQ1 zQ2 /2null /2null /3Lean.Parser.Tactic.injection '; 'cases /0null zQ1 /2Lean.Parser.Tactic.elimTarget /1null /0null /0null /4Lean.Parser.Tactic.cases '; 'cases /0null zQ2 /2Lean.Parser.Tactic.elimTarget /1null /0null /0null /4Lean.Parser.Tactic.cases /5null /1Lean.Parser.Tactic.tacticSeq1Indented /1Lean.Parser.Tactic.tacticSeq ') /3Lean.Parser.Tactic.paren /1null /1Lean.Parser.Tactic.tacticSeq1Indented /1Lean.Parser.Tactic.tacticSeq /2group '| '( 'injection @0 'with zQ1 /1null /2null /3Lean.Parser.Tactic.injection '; 'cases /0null zQ1 /2Lean.Parser.Tactic.elimTarget /1null /0null /0null /4Lean.Parser.Tactic.cases /3null /1Lean.Parser.Tactic.tacticSeq1Indented /1Lean.Parser.Tactic.tacticSeq ') /3Lean.Parser.Tactic.paren /1null /1Lean.Parser.Tactic.tacticSeq1Indented /1Lean.Parser.Tactic.tacticSeq /2group '| 'exact Mine.nn @0 /1null /2Lean.Parser.Term.app /2Lean.Parser.Tactic.exact /1null /1Lean.Parser.Tactic.tacticSeq1Indented /1Lean.Parser.Tactic.tacticSeq /2group '| '( 'obtain '⟨ '_ /1Lean.Parser.Tactic.rcasesPat.ignore /1null /1Lean.Parser.Tactic.rcasesPatMed /0null /2Lean.Parser.Tactic.rcasesPatLo ', rfl /1Lean.Parser.Tactic.rcasesPat.one /1null /1Lean.Parser.Tactic.rcasesPatMed /0null /2Lean.Parser.Tactic.rcasesPatLo /3null '⟩ /3Lean.Parser.Tactic.rcasesPat.tuple /1null /1Lean.Parser.Tactic.rcasesPatMed /1null /0null ':= Mine.VR.of_int @0 /1null /2Lean.Parser.Term.app /1null /2null /4Lean.Parser.Tactic.obtain '; 'clear @0 /1null /2Lean.Parser.Tactic.clear /3null /1Lean.Parser.Tactic.tacticSeq1Indented /1Lean.Parser.Tactic.tacticSeq ') /3Lean.Parser.Tactic.paren /1null /1Lean.Parser.Tactic.tacticSeq1Indented /1Lean.Parser.Tactic.tacticSeq /2group '| '( 'obtain rfl /1Lean.Parser.Tactic.rcasesPat.one /1null /1Lean.Parser.Tactic.rcasesPatMed /1null /0null ':= Mine.VR.toM @0 /1null /2Lean.Parser.Term.app /1null /2null /4Lean.Parser.Tactic.obtain '; 'clear @0 /1null /2Lean.Parser.Tactic.clear /3null /1Lean.Parser.Tactic.tacticSeq1Indented /1Lean.Parser.Tactic.tacticSeq ') /3Lean.Parser.Tactic.paren /1null /1Lean.Parser.Tactic.tacticSeq1Indented /1Lean.Parser.Tactic.tacticSeq /2group '| 'cases /0null '@ @0 /2Lean.Parser.Term.explicit /2Lean.Parser.Tactic.elimTarget /1null /0null /0null /4Lean.Parser.Tactic.cases /1null /1Lean.Parser.Tactic.tacticSeq1Indented /1Lean.Parser.Tactic.tacticSeq /2group /:null /2Lean.Parser.Tactic.first" [h])
def Mine.oP : String -> List Lean.Syntax -> Option (List Lean.Syntax × List Lean.Syntax)
 | _, [] => some ([], [])
 | _, [_] => none
 | i, p :: c :: ps => match oP (i ++ "z") ps with
  | none => none
  | some (bs, qs) =>
   let e : Lean.Syntax := Lean.mkIdent (.mkSimple i)
   let r := p[0][0][0]
   match p[1].getNumArgs + p[0][0].getNumArgs, r.getKind with
   | 1, .str _ "one" => if r[0].getId.eraseMacroScopes == `rfl then some (e :: bs, d "'cases /0null @0 /2Lean.Parser.Tactic.elimTarget /1null /0null /0null /4Lean.Parser.Tactic.cases" [e] :: qs) else some (r[0] :: bs, qs)
   | 1, .str _ "ignore" => some (d "'_ /1Lean.Parser.Term.hole" [] :: bs, qs)
   | 1, .str _ "tuple" => some (e :: bs, d "'obtain @0 /1null /0null ':= @1 /1null /2null /4Lean.Parser.Tactic.obtain" [p[0], e] :: qs)
   | _, _ => none
def Mine.oA (C E : Lean.Syntax) (t clr : Lean.Syntax) (bs qs : List Lean.Syntax) (k m : Nat) : List Lean.Syntax :=
 let h : Lean.Syntax := Lean.mkIdent `zXh
 let r a b l := d "'refine @0 @1 'fun @2 /0null '=> '? '_ /2Lean.Parser.Term.syntheticHole /4Lean.Parser.Term.basicFun /2Lean.Parser.Term.fun /2null /2Lean.Parser.Term.app /2Lean.Parser.Tactic.refine" [a, b, dN l]
 let u := if k == 0 then [r C t bs, clr] else if m == 1 then [r E t bs, clr] else [r E t (bs.take k ++ [h]), clr, r C h (bs.drop k), d "'clear @0 /1null /2Lean.Parser.Tactic.clear" [h]]
 (u ++ qs).intersperse (.atom .none ";")
def Mine.oF (t clr : Lean.Syntax) (bs qs : List Lean.Syntax) (acc : Lean.Syntax) (n : Nat) : Nat -> Lean.Syntax
 | 0 => acc
 | k + 1 =>
  let x (s : String) (i : Nat) : Lean.Syntax := Lean.mkIdent (.mkStr `Mine (s ++ i.repr))
  d "'first '| '( @0 /1Lean.Parser.Tactic.tacticSeq1Indented /1Lean.Parser.Tactic.tacticSeq ') /3Lean.Parser.Tactic.paren /1null /1Lean.Parser.Tactic.tacticSeq1Indented /1Lean.Parser.Tactic.tacticSeq /2group '| @1 /1null /1Lean.Parser.Tactic.tacticSeq1Indented /1Lean.Parser.Tactic.tacticSeq /2group /2null /2Lean.Parser.Tactic.first" [dN (oA (x "xC" (n - k)) (x "xE" k) t clr bs qs k (n - k)), oF t clr bs qs acc n k]
local macro_rules
 | `(tactic| obtain $p:rcasesPatMed := $t) =>
  let a := p.raw[0][0][1].getArgs.toList
  match p.raw[0].getNumArgs, p.raw[0][0].getKind, Mine.oP "zX" (a ++ [.missing]) with
  | 1, .str _ "tuple", some (bs, qs) =>
   if a.length < 4 && !a.any (fun p => p[0][0][0].getKind matches .str _ "tuple") then Lean.Macro.throwUnsupported else
   let clr := if t.raw.isIdent && !bs.any (fun b => b.getId == t.raw.getId) then Mine.d "'try 'clear @0 /1null /2Lean.Parser.Tactic.clear /1null /1Lean.Parser.Tactic.tacticSeq1Indented /1Lean.Parser.Tactic.tacticSeq /2Lean.Parser.Tactic.tacticTry_" [t] else Mine.d "'skip /1Lean.Parser.Tactic.skip" []
   pure (Mine.oF t clr bs qs (Mine.d "'rcases /0null @0 /2Lean.Parser.Tactic.elimTarget /1null 'with @1 /0null /2Lean.Parser.Tactic.rcasesPatLo /2null /3Lean.Parser.Tactic.rcases" [t, p]) bs.length (min bs.length 9))
  | _, _, _ => Lean.Macro.throwUnsupported
namespace Mine
inductive AV where
 | none
 | bool (b : Bool)
 | int (i : Int)
 | str (x : String)
 | tup (xs : List AV)
 | ref (n : Nat)
 | fn (x : String)
 | bi (x : String)
 | ty (x : String)
 | script (xs : List Int)
 deriving Inhabited
inductive aI where
 | list (xs : List AV)
 | dict (es : List (Int × AV))
 | iset (xs : List Int)
 | attrs (fs : List (String × AV))
 | inst (cls : String) (d : Nat)
 | sinst (cls : String) (d : Nat) (fs : List (Option AV))
 | liter (l : Nat) (i : Nat)
 | titer (xs : List AV) (i : Nat)
 | rng (n : Nat)
 | dview (T : String) (d : Nat)
 | bound (id : String) (n : Nat)
 | junk
 deriving Inhabited
abbrev AH := List (aI × Nat)
structure AS where
 env : List (String × AV)
 hp : AH
noncomputable def put (x : String) (v : AV) : List (String × AV) -> List (String × AV) := List.rec [(x, v)] fun p r ih => if p.1 = x then (x, v) :: r else p :: ih
theorem hO (x : String) (v : AV) : put x v [] = [(x, v)] := rfl
theorem fN (x y : String) (v w : AV) (r : List (String × AV)) : put x v ((y, w) :: r) = if y = x then (x, v) :: r else (y, w) :: put x v r := rfl
theorem kX (x y : String) (v : AV) : ∀ ρ, (put x v ρ).lookup y = if y = x then some v else ρ.lookup y
 | [] => by
  by_cases h : y = x
  ·subst h; simp [hO]
  ·have : (y == x) = false := by simp [h]
   simp [hO, lookup_cons, h, this]
 | (z, w) :: r => by
  have ih := kX x y v r
  rw [fN]
  by_cases hz : z = x
  ·subst hz
   rw [if_pos rfl]
   by_cases h : y = z
   ·subst h; simp
   ·have : (y == z) = false := by simp [h]
    simp [lookup_cons, this, h]
  ·rw [if_neg hz]
   by_cases h : y = x
   ·subst h
    have : (y == z) = false := by simp; exact fun e => hz e.symm
    rw [lookup_cons, this]; simpa using ih
   ·rw [if_neg h] at ih |-
    rw [lookup_cons, lookup_cons, ih]
theorem kA {a b : String} (h : Str.ofString a = Str.ofString b) : a = b := by
 rw [Str.ofString_eq_toList, Str.ofString_eq_toList] at h
 have h1 := congrArg (fun x : PySem.Str => x.cps.toList) h
 simp only [] at h1
 have hi : ∀ l m : List Char, l.map Char.toNat = m.map Char.toNat -> l = m := by
  intro l
  induction l with
  | nil => intro m hm; cases m with
   | nil => rfl
   | cons c m => simp at hm
  | cons c l ih => intro m hm; cases m with
   | nil => simp at hm
   | cons d m =>
    simp only [map_cons, List.cons.injEq] at hm
    have hc : c = d := by
     apply Char.ext
     apply UInt32.toNat_inj.mp
     exact hm.1
    rw [hc, ih m hm.2]
 exact String.toList_injective (hi _ _ h1)
structure a_ where
 prog : Program
 w : World
 h₀ : Heap
 mg : PySem.Str -> Option Value
 mb : PySem.Str -> Option Value
 addr : String -> Option Addr
structure GOk (G : a_) : Prop where
 g : G.h₀.Ns mainGlobals G.mg
 b : G.h₀.Ns builtinsNs G.mb
 nolimit : G.h₀.NoLimit
abbrev a_.M (G : a_) : Model := model G.prog G.w
noncomputable def eU (μ bM : List Addr) (h h' : Heap) : Prop := ∀ (a : Addr) (o : Obj), h.get? a = some o -> o.cls = .type "tuple" -> (∃ vs n, o.data = .seq vs n) -> a ∉ μ -> a ∉ bM /\ h'.get? a = some o
theorem eU.of_keeps {μ : List Addr} {h h' : Heap} (k : ∀ b o, h.get? b = some o -> h'.get? b = some o) : eU μ μ h h' := fun a o e zz zz hm => ⟨hm, k a o e⟩
theorem eU.of_grows {μ ν : List Addr} {h h' : Heap} (k : ∀ b o, h.get? b = some o -> h'.get? b = some o) (TF : ∀ a ∈ ν, h.get? a = none) : eU μ (μ ++ ν) h h' := fun a o e zz zz hm => ⟨fun q => (mem_append.mp q).elim hm fun q => (by have := TF a q; rw [e] at this; cases this), k a o e⟩
mutual
inductive VR (G : a_) (μ : List Addr) (h : Heap) : AV -> Value -> Prop
 | none : VR G μ h .none .none
 | bool (b : Bool) : VR G μ h (.bool b) (.bool b)
 | int (i : Int) (t : Tok) : VR G μ h (.int i) (.int i t)
 | str (x : String) (t : Tok) : VR G μ h (.str x) (.str (Str.ofString x) t)
 | tup {xs : List AV} {vs : List Value} {a : Addr} {o : Obj} {n : Nat} : h.get? a = some o -> o.cls = .type "tuple" -> o.data = .seq vs.toArray n -> a ∉ μ -> dX G μ h xs vs -> VR G μ h (.tup xs) (.ref a)
 | ref {n : Nat} {a : Addr} : μ[n]? = some a -> VR G μ h (.ref n) (.ref a)
 | fn {x : String} {a : Addr} : G.addr x = some a -> VR G μ h (.fn x) (.ref a)
 | bi (x : String) : VR G μ h (.bi x) (.builtin x)
 | ty (x : String) : VR G μ h (.ty x) (.type x)
 | script {xs : List Int} {vs : List Value} {a : Addr} {o : Obj} {n : Nat} : G.h₀.get? a = some o -> o.cls = .type "list" -> o.data = .seq vs.toArray n -> IntsAre vs xs -> VR G μ h (.script xs) (.ref a)
inductive dX (G : a_) (μ : List Addr) (h : Heap) : List AV -> List Value -> Prop
 | nil : dX G μ h [] []
 | cons {x : AV} {v : Value} {xs : List AV} {vs : List Value} : VR G μ h x v -> dX G μ h xs vs -> dX G μ h (x :: xs) (v :: vs)
end
section
variable {G : a_} {μ bM : List Addr} {h h' : Heap}
theorem dX.ind {P : List AV -> List Value -> Prop} (n : P [] []) (c : ∀ {x v xs vs}, VR G μ h x v -> dX G μ h xs vs -> P xs vs -> P (x :: xs) (v :: vs)) {xs : List AV} {vs : List Value} (k : dX G μ h xs vs) : P xs vs :=
 dX.rec (motive_1 := fun zz zz zz => True) (motive_2 := fun xs vs zz => P xs vs) ⟨⟩ (fun zz => ⟨⟩) (fun zz zz => ⟨⟩) (fun zz zz => ⟨⟩) (fun zz zz zz zz zz zz => ⟨⟩) (fun zz => ⟨⟩) (fun zz => ⟨⟩) (fun zz => ⟨⟩) (fun zz => ⟨⟩) (fun zz zz zz zz => ⟨⟩) n (fun h1 h2 zz i => c h1 h2 i) k
theorem VR.mono (lV : ∀ (n : Nat) (a : Addr), μ[n]? = some a -> bM[n]? = some a) (hk : eU μ bM h h') {x : AV} {v : Value} (k : VR G μ h x v) : VR G bM h' x v :=
 VR.rec (motive_1 := fun x v zz => VR G bM h' x v) (motive_2 := fun xs vs zz => dX G bM h' xs vs) .none .bool .int .str (fun h1 h2 h4 h5 zz hs => .tup (hk _ _ h1 h2 ⟨_, _, h4⟩ h5).2 h2 h4 (hk _ _ h1 h2 ⟨_, _, h4⟩ h5).1 hs) (fun h1 => .ref (lV _ _ h1)) .fn .bi .ty .script .nil (fun zz zz a b => .cons a b) k
theorem dX.mono (lV : ∀ (n : Nat) (a : Addr), μ[n]? = some a -> bM[n]? = some a) (hk : eU μ bM h h') {xs : List AV} {vs : List Value} (k : dX G μ h xs vs) : dX G bM h' xs vs :=
 k.ind (P := fun xs vs => dX G bM h' xs vs) .nil fun h1 zz i => .cons (h1.mono lV hk) i
end
theorem dX.length {G : a_} {μ : List Addr} {h : Heap} {xs : List AV} {vs : List Value} (k : dX G μ h xs vs) : xs.length = vs.length :=
 k.ind (P := fun xs vs => xs.length = vs.length) rfl fun zz zz i => congrArg (· + 1) i
theorem dX.get {G : a_} {μ : List Addr} {h : Heap} {xs : List AV} {vs : List Value} (k : dX G μ h xs vs) : ∀ {i : Nat} {x : AV}, xs[i]? = some x -> ∃ v, vs[i]? = some v /\ VR G μ h x v :=
 k.ind (P := fun xs vs => ∀ {i : Nat} {x : AV}, xs[i]? = some x -> ∃ v, vs[i]? = some v /\ VR G μ h x v) (fun e => by simp at e) fun h1 zz ih i x e => by
  cases i with
  | zero => cases e; exact ⟨_, rfl, h1⟩
  | succ i => exact ih e
theorem dX.append {G : a_} {μ : List Addr} {h : Heap} {xs : List AV} {vs : List Value} {ys : List AV} {ws : List Value} (k : dX G μ h xs vs) (k' : dX G μ h ys ws) : dX G μ h (xs ++ ys) (vs ++ ws) :=
 k.ind (P := fun xs vs => dX G μ h (xs ++ ys) (vs ++ ws)) k' fun h1 zz ih => .cons h1 ih
inductive mX (G : a_) (μ : List Addr) (h : Heap) : List (Int × AV) -> List (Int × Value) -> Prop
 | nil : mX G μ h [] []
 | cons {k : Int} {x : AV} {v : Value} {xs : List (Int × AV)} {es : List (Int × Value)} : VR G μ h x v -> mX G μ h xs es -> mX G μ h ((k, x) :: xs) ((k, v) :: es)
inductive EK (G : a_) (μ : List Addr) (h : Heap) : List (String × AV) -> List DictEntry -> Prop
 | nil : EK G μ h [] []
 | cons {k : String} {t : Tok} {x : AV} {v : Value} {xs : List (String × AV)} {es : List DictEntry} : VR G μ h x v -> EK G μ h xs es -> EK G μ h ((k, x) :: xs) (⟨PyData.keyHash G.w.params (Str.ofString k), .str (Str.ofString k) t, v⟩ :: es)
inductive rD (G : a_) (μ : List Addr) (h : Heap) : List (Option AV) -> List (Option Value) -> Prop
 | nil : rD G μ h [] []
 | none {xs : List (Option AV)} {vs : List (Option Value)} : rD G μ h xs vs -> rD G μ h (.none :: xs) (.none :: vs)
 | some {x : AV} {v : Value} {xs : List (Option AV)} {vs : List (Option Value)} : VR G μ h x v -> rD G μ h xs vs -> rD G μ h (some x :: xs) (some v :: vs)
inductive OR (G : a_) (μ : List Addr) (h : Heap) : aI -> Obj -> Prop
 | list {xs : List AV} {vs : List Value} {n : Nat} : dX G μ h xs vs -> OR G μ h (.list xs) ⟨.type "list", Option.none, .seq vs.toArray n, #[]⟩
 | dict {xs : List (Int × AV)} {kvs : List (Int × Value)} {o : Obj} : o.IsDictOf (intKind G.prog G.w) kvs -> mX G μ h xs kvs -> OR G μ h (.dict xs) o
 | iset {xs : List Int} {o : Obj} {es : Array (Int × Value)} {ep : Nat} {t : SetTable} : o.ExactSet -> o.data = .set es ep t -> ElemsOf (intKind G.prog G.w) es.toList ->
   (∀ k : Int, xs.contains k = true ↔ ∃ e ∈ es.toList, (intKind G.prog G.w).is k e.2 = true) -> es.size < scanBound -> t.fits es.size = true -> es.size = xs.length -> OR G μ h (.iset xs) o
 | attrs {xs : List (String × AV)} {es : List DictEntry} {n : Nat} : EK G μ h xs es -> OR G μ h (.attrs xs) ⟨.type "dict", Option.none, .dict es.toArray n, #[]⟩
 | inst {c : String} {C : Addr} {d : Nat} {dx : Addr} : G.addr c = some C -> μ[d]? = some dx -> OR G μ h (.inst c d) ⟨.ref C, some dx, .plain, #[]⟩
 | sinst {c : String} {C : Addr} {d : Nat} {dx : Addr} {xs : List (Option AV)} {vs : List (Option Value)} : G.addr c = some C -> μ[d]? = some dx -> rD G μ h xs vs -> OR G μ h (.sinst c d xs) ⟨.ref C, some dx, .plain, vs.toArray⟩
 | liter {l i : Nat} {a : Addr} : μ[l]? = some a -> OR G μ h (.liter l i) ⟨.type "list_iterator", Option.none, .fields #[.ref a, .int i 0], #[]⟩
 | titer {xs : List AV} {i : Nat} {a : Addr} : VR G μ h (.tup xs) (.ref a) -> OR G μ h (.titer xs i) ⟨.type "tuple_iterator", Option.none, .fields #[.ref a, .int i 0], #[]⟩
 | rng {n : Nat} {t u v : Tok} : OR G μ h (.rng n) ⟨.type "range", Option.none, .fields #[.int 0 t, .int n u, .int 1 v], #[]⟩
 | dview {T : String} {d : Nat} {a : Addr} : μ[d]? = some a -> OR G μ h (.dview T d) ⟨.type T, Option.none, .fields #[.ref a], #[]⟩
 | bound {id : String} {l : Nat} {a : Addr} : μ[l]? = some a -> OR G μ h (.bound id l) ⟨.type "method-wrapper", Option.none, .fields #[.builtin id, .ref a], #[]⟩
 | junk {o : Obj} : o.isFreed = false -> OR G μ h .junk o
section
variable {G : a_} {μ : List Addr} {h : Heap} {v : Value} {vs : List Value} {o : Obj}
noncomputable def M7 (G : a_) (μ : List Addr) (h : Heap) : AV -> Value -> Prop
 | .none, v => v = .none
 | .bool b, v => v = .bool b
 | .int i, v => ∃ t, v = .int i t
 | .str x, v => ∃ t, v = .str (Str.ofString x) t
 | .tup xs, v => ∃ a o n vs, v = .ref a /\ h.get? a = some o /\ o.cls = .type "tuple" /\ o.data = .seq (vs : List Value).toArray n /\ a ∉ μ /\ dX G μ h xs vs
 | .ref n, v => ∃ a, v = .ref a /\ μ[n]? = some a
 | .fn x, v => ∃ a, v = .ref a /\ G.addr x = some a
 | .bi x, v => v = .builtin x
 | .ty x, v => v = .type x
 | .script xs, v => ∃ a o n vs, v = .ref a /\ G.h₀.get? a = some o /\ o.cls = .type "list" /\ o.data = .seq (vs : List Value).toArray n /\ IntsAre vs xs
theorem VR.toM {x : AV} (r : VR G μ h x v) : M7 G μ h x v := by
 cases r with
 | none => exact rfl
 | bool b => exact rfl
 | int i t => exact ⟨t, rfl⟩
 | str x t => exact ⟨t, rfl⟩
 | tup h1 h2 h3 h4 h5 => exact ⟨_, _, _, _, rfl, h1, h2, h3, h4, h5⟩
 | ref h1 => exact ⟨_, rfl, h1⟩
 | fn h1 => exact ⟨_, rfl, h1⟩
 | bi x => exact rfl
 | ty x => exact rfl
 | script h1 h2 h3 h4 => exact ⟨_, _, _, _, rfl, h1, h2, h3, h4⟩
theorem VR.of_int {i : Int} (r : VR G μ h (.int i) v) : ∃ t, v = .int i t := r.toM
theorem VR.of_ref {n : Nat} (r : VR G μ h (.ref n) v) : ∃ a, v = .ref a /\ μ[n]? = some a := r.toM
theorem VR.of_tup {xs : List AV} (r : VR G μ h (.tup xs) v) : ∃ a o n vs, v = .ref a /\ h.get? a = some o /\ o.cls = .type "tuple" /\ o.data = .seq vs.toArray n /\ a ∉ μ /\ dX G μ h xs vs := r.toM
noncomputable def F4 (G : a_) (μ : List Addr) (h : Heap) : List AV -> List Value -> Prop
 | [], vs => vs = []
 | x :: xs, vs => ∃ w ws, vs = w :: ws /\ VR G μ h x w /\ dX G μ h xs ws
theorem dX.toM {xs : List AV} (r : dX G μ h xs vs) : F4 G μ h xs vs := by
 cases r with
 | nil => exact rfl
 | cons h1 h2 => exact ⟨_, _, rfl, h1, h2⟩
theorem dX.of_nil (r : dX G μ h [] vs) : vs = [] := r.toM
theorem dX.of_cons {x : AV} {xs : List AV} (r : dX G μ h (x :: xs) vs) : ∃ w ws, vs = w :: ws /\ VR G μ h x w /\ dX G μ h xs ws := r.toM
noncomputable def M8 (G : a_) (μ : List Addr) (h : Heap) : aI -> Obj -> Prop
 | .list xs, o => ∃ (vs : List Value) (n : Nat), o = ⟨.type "list", Option.none, .seq vs.toArray n, #[]⟩ /\ dX G μ h xs vs
 | .dict xs, o => ∃ kvs, o.IsDictOf (intKind G.prog G.w) kvs /\ mX G μ h xs kvs
 | .iset xs, o => ∃ (es : Array (Int × Value)) (ep : Nat) (t : SetTable), o.ExactSet /\ o.data = .set es ep t /\ ElemsOf (intKind G.prog G.w) es.toList /\
   (∀ k : Int, xs.contains k = true ↔ ∃ e ∈ es.toList, (intKind G.prog G.w).is k e.2 = true) /\ es.size < scanBound /\ t.fits es.size = true /\ es.size = xs.length
 | .attrs xs, o => ∃ (es : List DictEntry) (n : Nat), o = ⟨.type "dict", Option.none, .dict es.toArray n, #[]⟩ /\ EK G μ h xs es
 | .inst c d, o => ∃ C dx, o = ⟨.ref C, some dx, .plain, #[]⟩ /\ G.addr c = some C /\ μ[d]? = some dx
 | .sinst c d xs, o => ∃ C dx vs, o = ⟨.ref C, some dx, .plain, (vs : List (Option Value)).toArray⟩ /\ G.addr c = some C /\ μ[d]? = some dx /\ rD G μ h xs vs
 | .liter l i, o => ∃ a, o = ⟨.type "list_iterator", Option.none, .fields #[.ref a, .int i 0], #[]⟩ /\ μ[l]? = some a
 | .titer xs i, o => ∃ a, o = ⟨.type "tuple_iterator", Option.none, .fields #[.ref a, .int i 0], #[]⟩ /\ VR G μ h (.tup xs) (.ref a)
 | .rng n, o => ∃ t u v, o = ⟨.type "range", Option.none, .fields #[.int 0 t, .int n u, .int 1 v], #[]⟩
 | .dview T d, o => ∃ a, o = ⟨.type T, Option.none, .fields #[.ref a], #[]⟩ /\ μ[d]? = some a
 | .bound id l, o => ∃ a, o = ⟨.type "method-wrapper", Option.none, .fields #[.builtin id, .ref a], #[]⟩ /\ μ[l]? = some a
 | .junk, _ => True
theorem OR.toM {x : aI} (r : OR G μ h x o) : M8 G μ h x o := by
 cases r with
 | list k => exact ⟨_, _, rfl, k⟩
 | dict k k' => exact ⟨_, k, k'⟩
 | iset a b c d e f g => exact ⟨_, _, _, a, b, c, d, e, f, g⟩
 | attrs k => exact ⟨_, _, rfl, k⟩
 | inst k k' => exact ⟨_, _, rfl, k, k'⟩
 | sinst k k' l => exact ⟨_, _, _, rfl, k, k', l⟩
 | liter k => exact ⟨_, rfl, k⟩
 | titer k => exact ⟨_, rfl, k⟩
 | rng => exact ⟨_, _, _, rfl⟩
 | dview k => exact ⟨_, rfl, k⟩
 | bound k => exact ⟨_, rfl, k⟩
 | junk => exact trivial
theorem OR.of_list {xs : List AV} (r : OR G μ h (.list xs) o) : ∃ (vs : List Value) (n : Nat), o = ⟨.type "list", Option.none, .seq vs.toArray n, #[]⟩ /\ dX G μ h xs vs := r.toM
theorem OR.of_dict {xs : List (Int × AV)} (r : OR G μ h (.dict xs) o) : ∃ kvs, o.IsDictOf (intKind G.prog G.w) kvs /\ mX G μ h xs kvs := r.toM
theorem OR.of_iset {xs : List Int} (r : OR G μ h (.iset xs) o) : ∃ (es : Array (Int × Value)) (ep : Nat) (t : SetTable), o.ExactSet /\ o.data = .set es ep t /\ ElemsOf (intKind G.prog G.w) es.toList /\
   (∀ k : Int, xs.contains k = true ↔ ∃ e ∈ es.toList, (intKind G.prog G.w).is k e.2 = true) /\ es.size < scanBound /\ t.fits es.size = true /\ es.size = xs.length := r.toM
theorem OR.of_attrs {xs : List (String × AV)} (r : OR G μ h (.attrs xs) o) : ∃ (es : List DictEntry) (n : Nat), o = ⟨.type "dict", Option.none, .dict es.toArray n, #[]⟩ /\ EK G μ h xs es := r.toM
theorem OR.of_inst {c : String} {d : Nat} (r : OR G μ h (.inst c d) o) : ∃ C dx, o = ⟨.ref C, some dx, .plain, #[]⟩ /\ G.addr c = some C /\ μ[d]? = some dx := r.toM
theorem OR.of_sinst {c : String} {d : Nat} {xs : List (Option AV)} (r : OR G μ h (.sinst c d xs) o) : ∃ C dx vs, o = ⟨.ref C, some dx, .plain, (vs : List (Option Value)).toArray⟩ /\ G.addr c = some C /\ μ[d]? = some dx /\ rD G μ h xs vs := r.toM
theorem OR.of_liter {l i : Nat} (r : OR G μ h (.liter l i) o) : ∃ a, o = ⟨.type "list_iterator", Option.none, .fields #[.ref a, .int i 0], #[]⟩ /\ μ[l]? = some a := r.toM
theorem OR.of_titer {xs : List AV} {i : Nat} (r : OR G μ h (.titer xs i) o) : ∃ a, o = ⟨.type "tuple_iterator", Option.none, .fields #[.ref a, .int i 0], #[]⟩ /\ VR G μ h (.tup xs) (.ref a) := r.toM
theorem OR.of_dview {T : String} {d : Nat} (r : OR G μ h (.dview T d) o) : ∃ a, o = ⟨.type T, Option.none, .fields #[.ref a], #[]⟩ /\ μ[d]? = some a := r.toM
theorem OR.of_bound {id : String} {l : Nat} (r : OR G μ h (.bound id l) o) : ∃ a, o = ⟨.type "method-wrapper", Option.none, .fields #[.builtin id, .ref a], #[]⟩ /\ μ[l]? = some a := r.toM
end
end Mine
open PySem PySem.W PyProof.Rows
namespace Mine
noncomputable def sP (fr : List Env) : List Addr := fr.filterMap (·.frame)
noncomputable def vV (o : Obj) : Prop := (∃ es n, o.data = .dict es n) \/ (∃ v, o.data = .cell v) \/ (o.cls = .type "list" /\ ∃ vs n, o.data = .seq vs n)
theorem vV.noTup {o : Obj} (k : vV o) (hc : o.cls = .type "tuple") (hd : ∃ vs n, o.data = .seq vs n) : False := by
 obtain ⟨vs, n, hd⟩ := hd
 rcases k with ⟨es, n, q⟩ | ⟨v, q⟩ | ⟨q, _⟩
 ·rw [hd] at q; cases q
 ·rw [hd] at q; cases q
 ·rw [hc] at q; simp at q
theorem vV.noFields {o : Obj} (k : vV o) {fs : Array Value} (hd : o.data = .fields fs) : False := by
 rcases k with ⟨es, n, q⟩ | ⟨v, q⟩ | ⟨_, vs, n, q⟩ <;> (rw [hd] at q; cases q)
structure bK (G : a_) (fr : List Env) (μ : List Addr) (hp : AH) (s : Shared) : Prop where
 base : G.h₀.StaysIn s.heap
 len : μ.length = hp.length
 nod : μ.Nodup
 obj : ∀ (n : Nat) (c : aI × Nat) (a : Addr), hp[n]? = some c -> μ[n]? = some a -> ∃ o, s.heap.get? a = some o /\ OR G μ s.heap c.1 o
 low : ∀ a ∈ μ, G.h₀.get? a = none
 frs : ∀ e ∈ fr, e.scope.kind = .function /\ ∃ L o, e.frame = some L /\ s.heap.get? L = some o /\ (∃ es n, o.data = .dict es n) /\ L ∉ μ /\ G.h₀.get? L = none
structure SC where
 scope : Scope
 wr : List PySem.Str
structure HX (sc : SC) (env : Env) : Prop where
 scope : env.scope = sc.scope
 fn : env.scope.kind = .function
 globals : env.globals = mainGlobals
 builtins : env.builtins = builtinsNs
 apart : env.cells.Pairwise fun x y => x.2 ≠ y.2
 cellok : ∀ x k, sc.scope.names.lookup x = some k -> k = .cell \/ k = .free -> ∃ c, env.cells.lookup x = some c
structure nA (G : a_) (sc : SC) (env : Env) (own μ : List Addr) (ρ : List (String × AV)) (s : Shared) : Prop where
 ok : HX sc env
 ownp : ∀ a ∈ own, a ∉ μ /\ G.h₀.get? a = none /\ ∃ o, s.heap.get? a = some o /\ vV o
 lown : env.locals ∈ own
 loc : ∃ m, s.heap.Ns env.locals m /\ ∀ x v, ρ.lookup x = some v -> env.kindOf (Str.ofString x) = some .local -> ∃ w, m (Str.ofString x) = some w /\ VR G μ s.heap v w
 cel : ∀ x v, ρ.lookup x = some v -> env.kindOf (Str.ofString x) = some .local \/ ((env.kindOf (Str.ofString x) = some .cell \/ env.kindOf (Str.ofString x) = some .free) /\ ∃ c w, env.cells.lookup (Str.ofString x) = some c /\ s.heap.IsCell c (some w) /\ VR G μ s.heap v w)
 cells : ∀ x c, env.cells.lookup x = some c -> (∃ w, s.heap.IsCell c w) /\ c ∉ μ /\ c ≠ env.locals
 cown : ∀ x ∈ sc.wr, ∃ c, env.cells.lookup x = some c /\ c ∈ own
 cnot : ∀ x c, env.cells.lookup x = some c -> x ∉ sc.wr -> c ∉ own
structure cN (own : List Addr) (fr : List Env) (μ : List Addr) (hp : AH) (s : Shared) (bM : List Addr) (hp' : AH) (s' : Shared) : Prop where
 pre : ∃ ν, bM = μ ++ ν /\ ∀ a ∈ ν, s.heap.get? a = none
 same : ∃ h' tk, s' = { s with heap := h', toks := tk }
 alive : ∀ b o, s.heap.get? b = some o -> ∃ o', s'.heap.get? b = some o'
 keep : ∀ b o, s.heap.get? b = some o -> b ∉ μ -> b ∉ own -> ∃ sl, s'.heap.get? b = some { o with slots := sl } /\ (b ∉ sP fr -> sl = o.slots)
 vers : ∀ (n : Nat) (c : aI × Nat), hp[n]? = some c -> ∃ c', hp'[n]? = some c' /\ c.2 <= c'.2 /\ (c.2 = c'.2 -> c' = c /\ ∀ (a : Addr), μ[n]? = some a -> s'.heap.get? a = s.heap.get? a)
theorem cN.refl {own : List Addr} {fr : List Env} {μ : List Addr} {hp : AH} {s : Shared} : cN own fr μ hp s μ hp s where
 pre := ⟨[], by simp, by simp⟩
 same := ⟨s.heap, s.toks, rfl⟩
 alive := fun b o h => ⟨o, h⟩
 keep := fun b o h zz zz => ⟨o.slots, h, fun zz => rfl⟩
 vers := fun n c h => ⟨c, h, Nat.le_refl _, fun zz => ⟨rfl, fun zz zz => rfl⟩⟩
theorem cN.mu {own : List Addr} {fr : List Env} {μ : List Addr} {hp : AH} {s : Shared} {bM : List Addr} {hp' : AH} {s' : Shared} (x : cN own fr μ hp s bM hp' s') {n : Nat} {a : Addr} (h : μ[n]? = some a) : bM[n]? = some a := by
 obtain ⟨ν, rfl, _⟩ := x.pre
 rw [getElem?_append_left (List.getElem?_eq_some_iff.mp h).1]; exact h
theorem cN.mem {own : List Addr} {fr : List Env} {μ : List Addr} {hp : AH} {s : Shared} {bM : List Addr} {hp' : AH} {s' : Shared} (x : cN own fr μ hp s bM hp' s') {b : Addr} {o : Obj} (h : s.heap.get? b = some o) (hb : b ∉ μ) : b ∉ bM := by
 obtain ⟨ν, rfl, TF⟩ := x.pre
 intro hm
 rcases mem_append.mp hm with q | q
 ·exact hb q
 ·have := TF b q; rw [h] at this; cases this
theorem cN.trans {own : List Addr} {fr : List Env} {μ aD bY : List Addr} {hp lN rV : AH} {s aB bQ : Shared} (hlen : μ.length = hp.length) (x : cN own fr μ hp s aD lN aB) (y : cN own fr aD lN aB bY rV bQ) : cN own fr μ hp s bY rV bQ where
 pre := by
  obtain ⟨ν, rfl, TF⟩ := x.pre
  obtain ⟨O0, rfl, G9⟩ := y.pre
  refine ⟨ν ++ O0, by simp, fun a ha => ?_⟩
  rcases mem_append.mp ha with q | q
  ·exact TF a q
  ·cases e : s.heap.get? a with
   | none => rfl
   | some o =>
    obtain ⟨o', e'⟩ := x.alive a o e
    have := G9 a q
    rw [e'] at this; cases this
 same := by
  obtain ⟨h', tk, rfl⟩ := x.same
  obtain ⟨h'', tk', rfl⟩ := y.same
  exact ⟨h'', tk', rfl⟩
 alive := fun b o h => by
  obtain ⟨o', h'⟩ := x.alive b o h
  exact y.alive b o' h'
 keep := fun b o h hm ho => by
  obtain ⟨sl, h1, h2⟩ := x.keep b o h hm ho
  obtain ⟨sl', h3, h4⟩ := y.keep b _ h1 (x.mem h hm) ho
  exact ⟨sl', h3, fun hf => (h4 hf).trans (h2 hf)⟩
 vers := fun n c h => by
  obtain ⟨HB, h1, l1, e1⟩ := x.vers n c h
  obtain ⟨PD, h2, l2, e2⟩ := y.vers n HB h1
  refine ⟨PD, h2, Nat.le_trans l1 l2, fun e => ?_⟩
  have q1 : c.2 = HB.2 := by omega
  have q2 : HB.2 = PD.2 := by omega
  obtain ⟨r1, k1⟩ := e1 q1
  obtain ⟨r2, k2⟩ := e2 q2
  exact ⟨r2.trans r1, fun a ha => (k2 a (x.mu ha)).trans (k1 a ha)⟩
noncomputable def DJ (own : List Addr) (s : Shared) : Prop := ∀ a ∈ own, ∀ o, s.heap.get? a = some o -> vV o
theorem nA.ownK {G : a_} {sc : SC} {env : Env} {own μ : List Addr} {ρ : List (String × AV)} {s : Shared} (e : nA G sc env own μ ρ s) : DJ own s := fun a ha o ho => by
 obtain ⟨o', h1, h2⟩ := (e.ownp a ha).2.2
 rw [ho] at h1; cases h1; exact h2
theorem wV {G : a_} {fr : List Env} {own μ bM : List Addr} {hp hp' : AH} {s s' : Shared} (H : bK G fr μ hp s) (K : DJ own s) (x : cN own fr μ hp s bM hp' s') : eU μ bM s.heap s'.heap := by
 rintro a o ha hc zI4 h1
 obtain ⟨vs, nn, hd⟩ := zI4
 have h2 : a ∉ own := fun hm => (K a hm o ha).noTup hc ⟨vs, nn, hd⟩
 have h3 : a ∉ sP fr := fun hm => by
  obtain ⟨e, he, hf⟩ := mem_filterMap.mp hm
  obtain ⟨_, L, o', hL, ho', ⟨es, n, q⟩, _⟩ := H.frs e he
  rw [hf] at hL; cases hL
  rw [ha] at ho'; cases ho'
  rw [hd] at q; cases q
 obtain ⟨sl, e, hs⟩ := x.keep a o ha h1 h2
 rw [hs h3] at e; exact ⟨x.mem ha h1, e⟩
theorem VR.ext {G : a_} {fr : List Env} {own μ bM : List Addr} {hp hp' : AH} {s s' : Shared} (H : bK G fr μ hp s) (K : DJ own s) (x : cN own fr μ hp s bM hp' s') {v : AV} {w : Value} (h : VR G μ s.heap v w) : VR G bM s'.heap v w :=
 h.mono (fun zz zz => x.mu) (wV H K x)
theorem dX.ext {G : a_} {fr : List Env} {own μ bM : List Addr} {hp hp' : AH} {s s' : Shared} (H : bK G fr μ hp s) (K : DJ own s) (x : cN own fr μ hp s bM hp' s') {v : List AV} {w : List Value} (h : dX G μ s.heap v w) : dX G bM s'.heap v w :=
 h.mono (fun zz zz => x.mu) (wV H K x)
theorem uU {h h' : Heap} {L : Addr} {m : PySem.Str -> Option Value} (hn : h.Ns L m) (k : ∀ o, h.get? L = some o -> ∃ sl, h'.get? L = some { o with slots := sl }) : h'.Ns L m := by
 obtain ⟨o, es, ep, ho, hd, r⟩ := hn
 obtain ⟨sl, hs⟩ := k o ho
 exact ⟨_, es, ep, hs, hd, r⟩
theorem rP {h h' : Heap} {c : Addr} {v : Option Value} (hn : h.IsCell c v) (k : ∀ o, h.get? c = some o -> ∃ sl, h'.get? c = some { o with slots := sl }) : h'.IsCell c v := by
 obtain ⟨o, ho, hd⟩ := hn
 obtain ⟨sl, hs⟩ := k o ho
 exact ⟨_, hs, hd⟩
theorem nA.after {G : a_} {sc : SC} {fr : List Env} {env : Env} {own own' μ bM : List Addr} {hp hp' : AH} {ρ : List (String × AV)} {s s' : Shared} (H : bK G fr μ hp s) (e : nA G sc env own μ ρ s)
  (K : DJ own' s) (x : cN own' fr μ hp s bM hp' s') (hl : env.locals ∉ own') (hdis : ∀ a ∈ own, a ∉ own') (hc : ∀ y c, env.cells.lookup y = some c -> c ∉ own') : nA G sc env own bM ρ s' where
 ok := e.ok
 ownp := fun a ha => by
  obtain ⟨h1, h2, o, ho, hk⟩ := e.ownp a ha
  obtain ⟨sl, h3, _⟩ := x.keep a o ho h1 (hdis a ha)
  refine ⟨x.mem ho h1, h2, _, h3, hk⟩
 lown := e.lown
 loc := by
  obtain ⟨m, hn, hm⟩ := e.loc
  refine ⟨m, uU hn fun o ho => ?_, fun y v hy hk => ?_⟩
  ·obtain ⟨sl, h3, _⟩ := x.keep _ o ho (e.ownp _ e.lown).1 hl
   exact ⟨sl, h3⟩
  ·obtain ⟨w, h1, h2⟩ := hm y v hy hk
   exact ⟨w, h1, h2.ext H K x⟩
 cel := fun y v hy => by
  rcases e.cel y v hy with q | ⟨q, c, w, h1, h2, h3⟩
  ·exact .inl q
  ·refine .inr ⟨q, c, w, h1, rP h2 fun o ho => ?_, h3.ext H K x⟩
   obtain ⟨sl, h3, _⟩ := x.keep _ o ho (e.cells _ _ h1).2.1 (hc _ _ h1)
   exact ⟨sl, h3⟩
 cells := fun y c hy => by
  obtain ⟨⟨w, o, ho, hd⟩, h2, h3⟩ := e.cells y c hy
  obtain ⟨sl, h4, _⟩ := x.keep _ o ho h2 (hc _ _ hy)
  exact ⟨⟨w, _, h4, hd⟩, x.mem ho h2, h3⟩
 cown := e.cown
 cnot := e.cnot
end Mine
open PySem PySem.W PyProof.Rows
namespace Mine
noncomputable def mY {α : Type} (Q : α -> AS -> Prop) (st : AS) (o : Option α) : Prop := match o with
 | some a => Q a st
 | none => False
noncomputable def dI {α : Type} (K : α -> AH -> Prop) (o : Option (α × AH)) : Prop := match o with
 | some (a, h) => K a h
 | none => False
theorem BX {α : Type} {Q : α -> AS -> Prop} {st : AS} : ∀ {o : Option α}, mY Q st o -> ∃ a, o = some a /\ Q a st
 | some a, h => ⟨a, rfl, h⟩
theorem mG {α : Type} {K : α -> AH -> Prop} : ∀ {o : Option (α × AH)}, dI K o -> ∃ a h', o = some (a, h') /\ K a h'
 | some (a, h'), h => ⟨a, h', rfl, h⟩
theorem wE {α : Type} {Q Q' : α -> AS -> Prop} {st : AS} (hq : ∀ a st', Q a st' -> Q' a st') : ∀ {o : Option α}, mY Q st o -> mY Q' st o
 | some _, h => hq _ _ h
theorem EV {α : Type} {K K' : α -> AH -> Prop} (hq : ∀ a h', K a h' -> K' a h') : ∀ {o : Option (α × AH)}, dI K o -> dI K' o
 | some (_, _), h => hq _ _ h
structure AM (α : Type) where
 run : AS -> Option (α × AS)
 wp : (α -> AS -> Prop) -> AS -> Prop
 ok : ∀ {Q : α -> AS -> Prop} {st : AS}, wp Q st -> ∃ a st', run st = some (a, st') /\ Q a st'
 mono : ∀ {Q Q' : α -> AS -> Prop} {st : AS}, wp Q st -> (∀ a st', Q a st' -> Q' a st') -> wp Q' st
noncomputable instance {α : Type} : CoeFun (AM α) (fun zz => AS -> Option (α × AS)) := ⟨AM.run⟩
namespace AM
noncomputable def pure {α : Type} (a : α) : AM α := ⟨fun s => some (a, s), fun Q s => Q a s, fun h => ⟨a, _, rfl, h⟩, fun h k => k _ _ h⟩
noncomputable def NJ {α β : Type} (m : AM α) (f : α -> AM β) (s : AS) : Option (β × AS) := match m s with
 | some (a, s') => f a s'
 | none => none
theorem bindR_ok {α β : Type} {m : AM α} {f : α -> AM β} {s s' : AS} {a : α} (h : m s = some (a, s')) : NJ m f s = f a s' := by
 unfold NJ; rw [h]
noncomputable def bind {α β : Type} (m : AM α) (f : α -> AM β) : AM β := ⟨NJ m f, fun Q s => m.wp (fun a s' => (f a).wp Q s') s, fun h => by
 obtain ⟨a, s', e, k⟩ := m.ok h
 obtain ⟨b, s'', e', k'⟩ := (f a).ok k
 exact ⟨b, s'', (bindR_ok e).trans e', k'⟩, fun h k => m.mono h fun zz zz h' => (f _).mono h' k⟩
noncomputable def bad {α : Type} : AM α := ⟨fun zz => none, fun zz zz => False, fun h => h.elim, fun h zz => h.elim⟩
noncomputable instance : Monad AM where
 pure := AM.pure
 bind := AM.bind
end AM
theorem SS {α β : Type} (m : AM α) (f : α -> AM β) (s : AS) : (m >>= f) s = match m s with | some (a, s') => f a s' | none => none := rfl
theorem aF {α β : Type} {m : AM α} {f : α -> AM β} {s s'' : AS} {b : β} (h : (m >>= f) s = some (b, s'')) : ∃ a s', m s = some (a, s') /\ f a s' = some (b, s'') := by
 rw [SS] at h
 cases hm : m s with
 | none => rw [hm] at h; cases h
 | some x => obtain ⟨a, s'⟩ := x; rw [hm] at h; exact ⟨a, s', rfl, h⟩
structure tG (A : Around) (fr : List Env) (hd : Bool) (d : Nat) : Prop where
 frames : A.frames = some fr
 depth : A.depth + 3 * d + 3 < recursionLimit
 units : A.units + 40 * d + 100 < cLine
 hnd : hd = true -> A.handled = none
structure fJ (G : a_) (sc : SC) (fr : List Env) (env : Env) (own μ : List Addr) (st : AS) (s : Shared) : Prop where
 h : bK G fr μ st.hp s
 e : nA G sc env own μ st.env s
abbrev XT (own : List Addr) (fr : List Env) (μ : List Addr) (st : AS) (s : Shared) (bM : List Addr) (st' : AS) (s' : Shared) : Prop := cN own fr μ st.hp s bM st'.hp s'
theorem fJ.trans {G : a_} {sc : SC} {fr : List Env} {env : Env} {own μ aD bY : List Addr} {st st₁ st₂ : AS} {s aB bQ : Shared} (I : fJ G sc fr env own μ st s) (x : XT own fr μ st s aD st₁ aB) (y : XT own fr aD st₁ aB bY st₂ bQ) : XT own fr μ st s bY st₂ bQ :=
 cN.trans I.h.len x y
theorem fJ.vr {G : a_} {sc : SC} {fr : List Env} {env : Env} {own μ aD : List Addr} {st st₁ : AS} {s aB : Shared} (I : fJ G sc fr env own μ st s) (x : XT own fr μ st s aD st₁ aB) {v : AV} {w : Value} (h : VR G μ s.heap v w) : VR G aD aB.heap v w := h.ext I.h I.e.ownK x
theorem fJ.vrs {G : a_} {sc : SC} {fr : List Env} {env : Env} {own μ aD : List Addr} {st st₁ : AS} {s aB : Shared} (I : fJ G sc fr env own μ st s) (x : XT own fr μ st s aD st₁ aB) {v : List AV} {w : List Value} (h : dX G μ s.heap v w) : dX G aD aB.heap v w := h.ext I.h I.e.ownK x
noncomputable def TL {α β : Type} (G : a_) (sc : SC) (hd : Bool) (d : Nat) (m : AM α) (t : Env -> Sem β) (R : List Addr -> Heap -> α -> β -> Prop) : Prop :=
 ∀ (A : Around) (fr : List Env) (env : Env) (own μ : List Addr) (st : AS) (s : Shared) (a : α) (st' : AS), tG A fr hd d -> fJ G sc fr env own μ st s -> m st = some (a, st') ->
  ∀ (Q : β -> Shared -> Prop) (E : Value -> Shared -> Prop), (∀ b s' bM, XT own fr μ st s bM st' s' -> fJ G sc fr env own bM st' s' -> R bM s'.heap a b -> Q b s') -> wpAny G.M A (t env) Q E s
abbrev b_ (G : a_) (sc : SC) (hd : Bool) (d : Nat) (m : AM AV) (e : Expr) : Prop := TL G sc hd d m (fun env => eval e env) (VR G)
abbrev wK (G : a_) (sc : SC) (hd : Bool) (d : Nat) (m : AM Bool) (e : Expr) : Prop := TL G sc hd d m (fun env => isTrue e env (eval e env)) (fun zz zz a b => a = b)
section
variable {G : a_} {sc : SC} {hd : Bool} {d : Nat}
theorem fJ.tok {fr : List Env} {env : Env} {own μ : List Addr} {st : AS} {s : Shared} (I : fJ G sc fr env own μ st s) (t : Nat) : fJ G sc fr env own μ st { s with toks := t } := ⟨⟨I.h.base, I.h.len, I.h.nod, I.h.obj, I.h.low, I.h.frs⟩, ⟨I.e.ok, I.e.ownp, I.e.lown, I.e.loc, I.e.cel, I.e.cells, I.e.cown, I.e.cnot⟩⟩
theorem cN.tok {fr : List Env} {own μ : List Addr} {hp : AH} {s : Shared} (t : Nat) : cN own fr μ hp s μ hp { s with toks := t } where
 pre := ⟨[], by simp, by simp⟩
 same := ⟨s.heap, t, rfl⟩
 alive := fun b o h => ⟨o, h⟩
 keep := fun b o h zz zz => ⟨o.slots, h, fun zz => rfl⟩
 vers := fun n c h => ⟨c, h, Nat.le_refl _, fun zz => ⟨rfl, fun zz zz => rfl⟩⟩
theorem aX {i : Int} {k : Option String} {kk : Nat} {pos : Pos} : b_ G sc hd d (pure (.int i)) (.Constant (.int i) kk pos) := by
 intro A fr env own μ st s a st' _ I hm Q E h
 cases hm
 exact wpAny_Constant_int (h _ _ μ (cN.tok _) (I.tok _) (.int _ _))
theorem gU {kk : Nat} {pos : Pos} : b_ G sc hd d (pure .none) (.Constant .none kk pos) := by
 intro A fr env own μ st s a st' _ I hm Q E h
 cases hm
 exact wpAny_Constant_none (h _ _ μ cN.refl I .none)
theorem jV {b : Bool} {kk : Nat} {pos : Pos} : b_ G sc hd d (pure (.bool b)) (.Constant (.bool b) kk pos) := by
 intro A fr env own μ st s a st' _ I hm Q E h
 cases hm
 exact wpAny_Constant_bool (h _ _ μ cN.refl I (.bool _))
theorem QG {x : String} {kk : Nat} {pos : Pos} : b_ G sc hd d (pure (.str x)) (.Constant (.str (Str.ofString x)) kk pos) := by
 intro A fr env own μ st s a st' _ I hm Q E h
 cases hm
 exact wpAny_Constant_str (h _ _ μ (cN.tok _) (I.tok _) (.str _ _))
noncomputable def NM (x : String) (st : AS) : Option (AV × AS) := match st.env.lookup x with
 | some v => some (v, st)
 | none => none
theorem JS {x : String} {st : AS} {v : AV} (h : st.env.lookup x = some v) : NM x st = some (v, st) := by unfold NM; rw [h]
noncomputable def aG (x : String) : AM AV := ⟨NM x, fun Q st => mY Q st (st.env.lookup x), fun h => by
 obtain ⟨a, e, k⟩ := BX h
 exact ⟨a, _, JS e, k⟩, fun h k => wE k h⟩
theorem IZ {x : String} {st st' : AS} {a : AV} (h : aG x st = some (a, st')) : st' = st /\ st.env.lookup x = some a := by
 change NM x st = _ at h
 unfold NM at h
 split at h
 ·rename_i v hv; cases h; exact ⟨rfl, hv⟩
 ·cases h
theorem OF {x : String} (hc : (Str.ofString x == ("__classdict__" : PySem.Str)) = false) : TL G sc hd d (aG x) (fun env => loadName env (Str.ofString x)) (VR G) := by
 intro A fr env own μ st s a st' _ I hm Q E h
 obtain ⟨rfl, hv⟩ := IZ hm
 have hk := I.e.ok.fn
 rcases I.e.cel x a hv with hl | ⟨hl, c, w, hc1, hc2, hr⟩
 ·obtain ⟨m, hn, hmm⟩ := I.e.loc
  obtain ⟨w, hw, hr⟩ := hmm x a hv hl
  exact wpAny_loadName_local hk hl hn hw (h _ _ μ cN.refl I hr)
 ·rcases hl with hl | hl
  ·exact wpAny_loadName_cell hk hl hc1 hc2 (h _ _ μ cN.refl I hr)
  ·exact wpAny_loadName_free hk hl hc1 hc2 (h _ _ μ cN.refl I hr) hc
theorem QM {x : String} {pos : Pos} (hc : (Str.ofString x == ("__classdict__" : PySem.Str)) = false) (hdb : (Str.ofString x == ("__debug__" : PySem.Str)) = false) : b_ G sc hd d (aG x) (.Name (Str.ofString x) pos) := by
 intro A fr env own μ st s a st' hA I hm Q E h
 exact wpAny_Name (OF hc A fr env own μ st s a st' hA I hm Q E h) hdb
theorem fV {A : Around} {fr : List Env} {μ : List Addr} {hp : AH} {s : Shared} {env : Env} {x : PySem.Str} {w : Value} {Q : Value -> Shared -> Prop} {E : Value -> Shared -> Prop} (gk : GOk G) (H : bK G fr μ hp s) (ok : HX sc env)
  (hx : sc.scope.names.lookup x = some .globalImplicit) (hw : G.mg x = some w \/ (G.mg x = none /\ G.mb x = some w)) (h : Q w s) : wpAny G.M A (loadName env x) Q E s := by
 refine ks_loadName_global ok.fn (by unfold Env.kindOf; rw [ok.scope]; exact hx) ?_
 unfold loadGlobal
 have hg : s.heap.Ns env.globals G.mg := ok.globals ▸ gk.g.keeps H.base
 have hb : s.heap.Ns env.builtins G.mb := ok.builtins ▸ gk.b.keeps H.base
 refine wpAny_bind (wpAny_nsGet hg ?_)
 rcases hw with e | ⟨e, e'⟩
 ·rw [e]; exact wpAny_pure h
 ·rw [e]
  refine wpAny_bind (wpAny_nsGet hb ?_)
  rw [e']; exact wpAny_pure h
noncomputable def FW (G : a_) (x : String) (v : AV) : Prop := ∃ w, (G.mg (Str.ofString x) = some w \/ (G.mg (Str.ofString x) = none /\ G.mb (Str.ofString x) = some w)) /\ ∀ μ h, VR G μ h v w
theorem nL {x : String} {v : AV} {pos : Pos} (gk : GOk G) (hx : sc.scope.names.lookup (Str.ofString x) = some .globalImplicit) (hg : FW G x v) (hdb : (Str.ofString x == ("__debug__" : PySem.Str)) = false) :
  b_ G sc hd d (pure v) (.Name (Str.ofString x) pos) := by
 intro A fr env own μ st s a st' hA I hm Q E h
 cases hm
 obtain ⟨w, hw, hr⟩ := hg
 exact wpAny_Name (fV gk I.h I.e.ok hx hw (h _ _ μ cN.refl I (hr _ _))) hdb
theorem aQ {α β γ : Type} {m : AM α} {f : α -> AM γ} {t : Env -> Sem β} {R : List Addr -> Heap -> α -> β -> Prop} {A : Around} {fr : List Env} {env : Env} {own μ : List Addr} {st st' : AS} {s : Shared} {c : γ} (S : TL G sc hd d m t R)
  (hA : tG A fr hd d) (I : fJ G sc fr env own μ st s) (hm : (m >>= f) st = some (c, st')) {Q : β -> Shared -> Prop} {E : Value -> Shared -> Prop}
  (k : ∀ a st₁ b aB aD, f a st₁ = some (c, st') -> XT own fr μ st s aD st₁ aB -> fJ G sc fr env own aD st₁ aB -> R aD aB.heap a b -> Q b aB) : wpAny G.M A (t env) Q E s := by
 obtain ⟨a, st₁, h1, h2⟩ := aF hm
 exact S A fr env own μ st s a st₁ hA I h1 Q E fun b s' bM x I' r => k a st₁ b s' bM h2 x I' r
end
end Mine
open PySem PySem.W PyProof.Rows
namespace Mine
section
variable {G : a_} {μ bM : List Addr} {h h' : Heap}
theorem mX.mono (lV : ∀ (n : Nat) (a : Addr), μ[n]? = some a -> bM[n]? = some a)
  (hk : eU μ bM h h') {xs : List (Int × AV)} {es : List (Int × Value)} (k : mX G μ h xs es) : mX G bM h' xs es := by
 induction k with
 | nil => exact .nil
 | cons h1 _ ih => exact .cons (h1.mono lV hk) ih
theorem EK.mono (lV : ∀ (n : Nat) (a : Addr), μ[n]? = some a -> bM[n]? = some a)
  (hk : eU μ bM h h') {xs : List (String × AV)} {es : List DictEntry} (k : EK G μ h xs es) : EK G bM h' xs es := by
 induction k with
 | nil => exact .nil
 | cons h1 _ ih => exact .cons (h1.mono lV hk) ih
theorem rD.mono (lV : ∀ (n : Nat) (a : Addr), μ[n]? = Option.some a -> bM[n]? = Option.some a)
  (hk : eU μ bM h h') {xs : List (Option AV)} {es : List (Option Value)} (k : rD G μ h xs es) : rD G bM h' xs es := by
 induction k with
 | nil => exact .nil
 | none _ ih => exact .none ih
 | some h1 _ ih => exact .some (h1.mono lV hk) ih
theorem OR.mono (lV : ∀ (n : Nat) (a : Addr), μ[n]? = some a -> bM[n]? = some a)
  (hk : eU μ bM h h') {x : aI} {o : Obj} (k : OR G μ h x o) : OR G bM h' x o := by
 cases k with
 | list k => exact .list (k.mono lV hk)
 | dict k1 k => exact .dict k1 (k.mono lV hk)
 | iset a b c d e f g => exact .iset a b c d e f g
 | attrs k => exact .attrs (k.mono lV hk)
 | inst k1 k2 => exact .inst k1 (lV _ _ k2)
 | sinst k1 k0 k2 => exact .sinst k1 (lV _ _ k0) (k2.mono lV hk)
 | liter k => exact .liter (lV _ _ k)
 | titer k => exact .titer (k.mono lV hk)
 | rng => exact .rng
 | dview k => exact .dview (lV _ _ k)
 | bound k => exact .bound (lV _ _ k)
 | junk k => exact .junk k
end
section
variable {G : a_} {fr : List Env} {μ : List Addr} {hp : AH} {s : Shared}
theorem bK.tok (H : bK G fr μ hp s) (t : Nat) : bK G fr μ hp { s with toks := t } := ⟨H.base, H.len, H.nod, H.obj, H.low, H.frs⟩
theorem bK.lt (H : bK G fr μ hp s) {a : Addr} (ha : a ∈ μ) : a < s.heap.objs.size := by
 obtain ⟨n, hn⟩ := List.getElem?_of_mem ha
 have hlt := (List.getElem?_eq_some_iff.mp hn).1
 rw [H.len] at hlt
 obtain ⟨o', ho', _⟩ := H.obj n hp[n] a (getElem?_eq_getElem hlt) hn
 exact Heap.lt_size ho'
theorem bK.at (H : bK G fr μ hp s) {n : Nat} {c : aI × Nat} {a : Addr} (ha : μ[n]? = some a) (hc : hp[n]? = some c) : ∃ o, s.heap.get? a = some o /\ OR G μ s.heap c.1 o := H.obj n c a hc ha
theorem bK.inj (H : bK G fr μ hp s) {n m : Nat} {a : Addr} (h1 : μ[n]? = some a) (h2 : μ[m]? = some a) : n = m := by
 obtain ⟨l1, e1⟩ := List.getElem?_eq_some_iff.mp h1
 obtain ⟨l2, e2⟩ := List.getElem?_eq_some_iff.mp h2
 rcases Nat.lt_trichotomy n m with q | q | q
 ·exact absurd (e1.trans e2.symm) (List.pairwise_iff_getElem.mp H.nod n m l1 l2 q)
 ·exact q
 ·exact absurd (e2.trans e1.symm) (List.pairwise_iff_getElem.mp H.nod m n l2 l1 q)
theorem bK.noFr (H : bK G fr μ hp s) {a : Addr} (ha : a ∈ μ) : a ∉ sP fr := fun hm => by
 obtain ⟨e, he, hf⟩ := mem_filterMap.mp hm
 obtain ⟨_, L, o', hL, ho', _, hn, _⟩ := H.frs e he
 rw [hf] at hL; cases hL
 exact hn ha
theorem bK.grow (H : bK G fr μ hp s) {h' : Heap} {tk : Nat} (hk : ∀ b o, s.heap.get? b = some o -> h'.get? b = some o) :
  bK G fr μ hp { s with heap := h', toks := tk } /\ cN [] fr μ hp s μ hp { s with heap := h', toks := tk } := by
 refine ⟨⟨fun b o e => hk b o (H.base b o e), H.len, H.nod, fun n c a hc ha => ?_, H.low, fun e he => ?_⟩, ⟨⟨[], by simp, by simp⟩, ⟨h', tk, rfl⟩, fun b o e => ⟨o, hk b o e⟩, fun b o e zz zz => ⟨o.slots, hk b o e, fun zz => rfl⟩, fun n c hc => ⟨c, hc, Nat.le_refl _, fun zz => ⟨rfl, fun a ha => ?_⟩⟩⟩⟩
 ·obtain ⟨o, h1, h2⟩ := H.obj n c a hc ha
  exact ⟨o, hk a o h1, h2.mono (fun zz zz e => e) (eU.of_keeps hk)⟩
 ·obtain ⟨k, L, o, h1, h2, h3, h4, h5⟩ := H.frs e he
  exact ⟨k, L, o, h1, hk L o h2, h3, h4, h5⟩
 ·obtain ⟨o, h1, _⟩ := H.obj n c a hc ha
  exact (hk a o h1).trans h1.symm
theorem bK.alloc (H : bK G fr μ hp s) {h' : Heap} {tk : Nat} {a : Addr} {o : Obj} {x : aI} (hk : ∀ b o, s.heap.get? b = some o -> h'.get? b = some o) (hnew : s.heap.get? a = none) (ha : h'.get? a = some o) (hor : OR G μ s.heap x o) :
  bK G fr (μ ++ [a]) (hp ++ [(x, 0)]) { s with heap := h', toks := tk } /\ cN [] fr μ hp s (μ ++ [a]) (hp ++ [(x, 0)]) { s with heap := h', toks := tk } := by
 have lV : ∀ (n : Nat) (b : Addr), μ[n]? = some b -> (μ ++ [a])[n]? = some b := fun n b e => by
  rw [getElem?_append_left (List.getElem?_eq_some_iff.mp e).1]; exact e
 have hn : a ∉ μ := fun hm => by
  obtain ⟨n, hn⟩ := List.getElem?_of_mem hm
  have hlt := (List.getElem?_eq_some_iff.mp hn).1
  rw [H.len] at hlt
  obtain ⟨o', ho', _⟩ := H.obj n hp[n] a (getElem?_eq_getElem hlt) hn
  rw [hnew] at ho'; cases ho'
 refine ⟨⟨fun b o e => hk b o (H.base b o e), by simp [H.len], ?_, fun n c b hc hb => ?_, fun b hb => ?_, fun e he => ?_⟩, ⟨⟨[a], rfl, by simpa using hnew⟩, ⟨h', tk, rfl⟩, fun b o e => ⟨o, hk b o e⟩, fun b o e zz zz => ⟨o.slots, hk b o e, fun zz => rfl⟩, fun n c hc => ⟨c, ?_, Nat.le_refl _, fun zz => ⟨rfl, fun b hb => ?_⟩⟩⟩⟩
 ·rw [List.nodup_append]
  exact ⟨H.nod, by simp, fun b hb c hc e => hn (by simp at hc; rw [<- hc, <- e]; exact hb)⟩
 ·by_cases hlt : n < hp.length
  ·rw [getElem?_append_left hlt] at hc
   rw [getElem?_append_left (by rw [H.len]; exact hlt)] at hb
   obtain ⟨o, h1, h2⟩ := H.obj n c b hc hb
   exact ⟨o, hk b o h1, h2.mono lV (eU.of_grows hk (by simpa using hnew))⟩
  ·have hge : hp.length <= n := Nat.le_of_not_lt hlt
   rw [getElem?_append_right hge] at hc
   rw [getElem?_append_right (by rw [H.len]; exact hge), H.len] at hb
   have hz : n - hp.length = 0 := by
    have := (List.getElem?_eq_some_iff.mp hc).1
    simp at this; omega
   rw [hz] at hc hb
   simp at hc hb
   subst hc hb
   exact ⟨o, ha, hor.mono lV (eU.of_grows hk (by simpa using hnew))⟩
 ·rcases mem_append.mp hb with q | q
  ·exact H.low b q
  ·simp at q; subst q
   cases e : G.h₀.get? b with
   | none => rfl
   | some o' => have := H.base _ _ e; rw [hnew] at this; cases this
 ·obtain ⟨k, L, o', h1, h2, h3, h4, h5⟩ := H.frs e he
  refine ⟨k, L, o', h1, hk L o' h2, h3, fun hm => ?_, h5⟩
  rcases mem_append.mp hm with q | q
  ·exact h4 q
  ·simp at q; subst q; rw [hnew] at h2; cases h2
 ·rw [getElem?_append_left (List.getElem?_eq_some_iff.mp hc).1]; exact hc
 ·obtain ⟨o, h1, _⟩ := H.obj n c b hc hb
  exact (hk b o h1).trans h1.symm
theorem bK.put (H : bK G fr μ hp s) {h' : Heap} {tk : Nat} {n : Nat} {c : aI × Nat} {a : Addr} {o : Obj} {x : aI} (hc : hp[n]? = some c) (ha : μ[n]? = some a) (hk : ∀ b o, b ≠ a -> s.heap.get? b = some o -> h'.get? b = some o)
  (ho : h'.get? a = some o) (hor : OR G μ h' x o) :
  bK G fr μ (hp.set n (x, c.2 + 1)) { s with heap := h', toks := tk } /\ cN [] fr μ hp s μ (hp.set n (x, c.2 + 1)) { s with heap := h', toks := tk } := by
 have ham : a ∈ μ := mem_of_getElem? ha
 have hlt : n < hp.length := (List.getElem?_eq_some_iff.mp hc).1
 obtain ⟨oa, hoa, horA⟩ := H.obj n c a hc ha
 have still : eU μ μ s.heap h' := fun b o e q zz hm => ⟨hm, hk b o (fun z => hm (z ▸ ham)) e⟩
 refine ⟨⟨fun b o e => hk b o (fun z => ?_) (H.base b o e), by simp [H.len], H.nod, fun m c' b hc' hb => ?_, H.low, fun e he => ?_⟩, ⟨⟨[], by simp, by simp⟩, ⟨h', tk, rfl⟩, fun b o e => ?_, fun b o e hb zz => ⟨o.slots, hk b o (fun z => hb (z ▸ ham)) e, fun zz => rfl⟩, fun m c' hc' => ?_⟩⟩
 ·rw [z, H.low a ham] at e; cases e
 ·by_cases hm : m = n
  ·subst hm
   rw [List.getElem?_set_self hlt] at hc'
   cases hc'
   rw [ha] at hb; cases hb
   exact ⟨o, ho, hor⟩
  ·rw [List.getElem?_set_ne (Ne.symm hm)] at hc'
   obtain ⟨o', h1, h2⟩ := H.obj m c' b hc' hb
   exact ⟨o', hk b o' (fun z => hm (H.inj (z ▸ hb) ha)) h1, h2.mono (fun zz zz e => e) still⟩
 ·obtain ⟨k, L, o', h1, h2, h3, h4, h5⟩ := H.frs e he
  exact ⟨k, L, o', h1, hk L o' (fun z => h4 (z ▸ ham)) h2, h3, h4, h5⟩
 ·by_cases hb : b = a
  ·exact ⟨_, hb ▸ ho⟩
  ·exact ⟨_, hk b o hb e⟩
 ·by_cases hm : m = n
  ·subst hm
   rw [hc] at hc'; cases hc'
   exact ⟨_, List.getElem?_set_self hlt, Nat.le_succ _, fun e => absurd e (Nat.ne_of_lt (Nat.lt_succ_self _))⟩
  ·refine ⟨c', by rw [List.getElem?_set_ne (Ne.symm hm)]; exact hc', Nat.le_refl _, fun zz => ⟨rfl, fun b hb => ?_⟩⟩
   obtain ⟨o', h1, _⟩ := H.obj m c' b hc' hb
   exact (hk b o' (fun z => hm (H.inj (z ▸ hb) ha)) h1).trans h1.symm
end
theorem cN.weaken {own : List Addr} {fr : List Env} {μ bM : List Addr} {hp hp' : AH} {s s' : Shared} (x : cN [] fr μ hp s bM hp' s') : cN own fr μ hp s bM hp' s' :=
 ⟨x.pre, x.same, x.alive, fun b o h1 h2 zz => x.keep b o h1 h2 (by simp), x.vers⟩
theorem fJ.heap {G : a_} {sc : SC} {fr : List Env} {env : Env} {own μ bM : List Addr} {st : AS} {hp' : AH} {s s' : Shared} (I : fJ G sc fr env own μ st s) (x : cN [] fr μ st.hp s bM hp' s') (H : bK G fr bM hp' s') :
  fJ G sc fr env own bM { st with hp := hp' } s' := ⟨H, I.e.after I.h (by intro a ha; cases ha) x (by simp) (by simp) (by simp)⟩
noncomputable def dM (α : Type) := AH -> Option (α × AH)
noncomputable def iF {α : Type} (f : dM α) (K : α -> AH -> Prop) (h : AH) : Prop := dI K (f h)
noncomputable def yA {α : Type} (e : List (String × AV)) (Q : α -> AS -> Prop) : α -> AH -> Prop := fun a h => Q a ⟨e, h⟩
noncomputable def CV {α : Type} (m : dM α) (st : AS) : Option (α × AS) := match m st.hp with
 | some (a, hp) => some (a, { st with hp := hp })
 | none => none
theorem EU {α : Type} {m : dM α} {st : AS} {a : α} {hp : AH} (h : m st.hp = some (a, hp)) : CV m st = some (a, { st with hp := hp }) := by unfold CV; rw [h]
noncomputable def fB {α : Type} (m : dM α) : AM α := ⟨CV m, fun Q st => iF m (yA st.env Q) st.hp, fun h => by
 obtain ⟨a, h', e, k⟩ := mG h
 exact ⟨a, _, EU e, k⟩, fun h k => EV (fun zz zz q => k _ _ q) h⟩
theorem cR {α : Type} {m : dM α} {st st' : AS} {a : α} (h : fB m st = some (a, st')) : ∃ hp', m st.hp = some (a, hp') /\ st' = { st with hp := hp' } := by
 change CV m st = _ at h
 unfold CV at h
 split at h
 ·rename_i a' hp' e; cases h; exact ⟨hp', e, rfl⟩
 ·cases h
noncomputable def SX {α β : Type} (G : a_) (hd : Bool) (d : Nat) (m : dM α) (t : List Addr -> Heap -> Sem β -> Prop) (R : List Addr -> Heap -> α -> β -> Prop) : Prop :=
 ∀ (A : Around) (fr : List Env) (μ : List Addr) (hp : AH) (s : Shared) (a : α) (hp' : AH) (tr : Sem β), tG A fr hd d -> bK G fr μ hp s -> t μ s.heap tr -> m hp = some (a, hp') ->
  ∀ (Q : β -> Shared -> Prop) (E : Value -> Shared -> Prop), (∀ b s' bM, cN [] fr μ hp s bM hp' s' -> bK G fr bM hp' s' -> R bM s'.heap a b -> Q b s') -> wpAny G.M A tr Q E s
theorem SX.use {α β : Type} {G : a_} {sc : SC} {hd : Bool} {d : Nat} {m : dM α} {t : List Addr -> Heap -> Sem β -> Prop} {R : List Addr -> Heap -> α -> β -> Prop} (S : SX G hd d m t R) {A : Around} {fr : List Env} {env : Env} {own μ : List Addr} {st st' : AS} {s : Shared} {a : α} {tr : Sem β}
  (hA : tG A fr hd d) (I : fJ G sc fr env own μ st s) (ht : t μ s.heap tr) (hm : fB m st = some (a, st')) {Q : β -> Shared -> Prop} {E : Value -> Shared -> Prop}
  (k : ∀ b s' bM, XT own fr μ st s bM st' s' -> fJ G sc fr env own bM st' s' -> R bM s'.heap a b -> Q b s') : wpAny G.M A tr Q E s := by
 obtain ⟨hp', h1, rfl⟩ := cR hm
 exact S A fr μ st.hp s a hp' tr hA I.h ht h1 Q E fun b s' bM x H r => k b s' bM x.weaken (I.heap x H) r
noncomputable def gJ (x : aI) : dM AV := fun hp => some (.ref hp.length, hp ++ [(x, 0)])
noncomputable def bO {α β : Type} (o : Option α) (f : α -> Option β) : Option β := match o with
 | some a => f a
 | none => none
theorem N7 {α β : Type} (a : α) (f : α -> Option β) : bO (some a) f = f a := rfl
theorem M9 {α β : Type} (f : α -> Option β) : bO none f = none := rfl
theorem eS {α β : Type} {o : Option α} {a : α} {f : α -> Option β} (h : o = some a) : bO o f = f a := by rw [h]; rfl
theorem aL {α β : Type} {o : Option α} {f : α -> Option β} {b : β} (h : bO o f = some b) {P : Prop} (k : ∀ a, o = some a -> f a = some b -> P) : P := by
 cases o with
 | none => cases h
 | some a => exact k a rfl h
noncomputable def aI.list? : aI -> Option (List AV) := aI.rec (fun xs => some xs) (fun zz => none) (fun zz => none) (fun zz => none) (fun zz zz => none) (fun zz zz zz => none) (fun zz zz => none) (fun zz zz => none) (fun zz => none) (fun zz zz => none) (fun zz zz => none) none
noncomputable def aI.dict? : aI -> Option (List (Int × AV)) := aI.rec (fun zz => none) (fun xs => some xs) (fun zz => none) (fun zz => none) (fun zz zz => none) (fun zz zz zz => none) (fun zz zz => none) (fun zz zz => none) (fun zz => none) (fun zz zz => none) (fun zz zz => none) none
noncomputable def aI.iset? : aI -> Option (List Int) := aI.rec (fun zz => none) (fun zz => none) (fun xs => some xs) (fun zz => none) (fun zz zz => none) (fun zz zz zz => none) (fun zz zz => none) (fun zz zz => none) (fun zz => none) (fun zz zz => none) (fun zz zz => none) none
noncomputable def aI.attrs? : aI -> Option (List (String × AV)) := aI.rec (fun zz => none) (fun zz => none) (fun zz => none) (fun xs => some xs) (fun zz zz => none) (fun zz zz zz => none) (fun zz zz => none) (fun zz zz => none) (fun zz => none) (fun zz zz => none) (fun zz zz => none) none
noncomputable def aI.inst? : aI -> Option (String × Nat) := aI.rec (fun zz => none) (fun zz => none) (fun zz => none) (fun zz => none) (fun c d => some (c, d)) (fun zz zz zz => none) (fun zz zz => none) (fun zz zz => none) (fun zz => none) (fun zz zz => none) (fun zz zz => none) none
noncomputable def aI.sinst? : aI -> Option (String × Nat × List (Option AV)) := aI.rec (fun zz => none) (fun zz => none) (fun zz => none) (fun zz => none) (fun zz zz => none) (fun c d fs => some (c, d, fs)) (fun zz zz => none) (fun zz zz => none) (fun zz => none) (fun zz zz => none) (fun zz zz => none) none
noncomputable def aI.dview? : aI -> Option (String × Nat) := aI.rec (fun zz => none) (fun zz => none) (fun zz => none) (fun zz => none) (fun zz zz => none) (fun zz zz zz => none) (fun zz zz => none) (fun zz zz => none) (fun zz => none) (fun T d => some (T, d)) (fun zz zz => none) none
noncomputable def aI.liter? : aI -> Option (Nat × Nat) := aI.rec (fun zz => none) (fun zz => none) (fun zz => none) (fun zz => none) (fun zz zz => none) (fun zz zz zz => none) (fun a b => some (a, b)) (fun zz zz => none) (fun zz => none) (fun zz zz => none) (fun zz zz => none) none
noncomputable def aI.titer? : aI -> Option (List AV × Nat) := aI.rec (fun zz => none) (fun zz => none) (fun zz => none) (fun zz => none) (fun zz zz => none) (fun zz zz zz => none) (fun zz zz => none) (fun a b => some (a, b)) (fun zz => none) (fun zz zz => none) (fun zz zz => none) none
noncomputable def aI.bound? : aI -> Option (String × Nat) := aI.rec (fun zz => none) (fun zz => none) (fun zz => none) (fun zz => none) (fun zz zz => none) (fun zz zz zz => none) (fun zz zz => none) (fun zz zz => none) (fun zz => none) (fun zz zz => none) (fun a b => some (a, b)) none
theorem aI.of_liter? {o : aI} {p : Nat × Nat} (h : o.liter? = some p) : o = .liter p.1 p.2 := by
 cases o with
 | liter => cases h; rfl
 | _ => cases h
theorem aI.of_titer? {o : aI} {p : List AV × Nat} (h : o.titer? = some p) : o = .titer p.1 p.2 := by
 cases o with
 | titer => cases h; rfl
 | _ => cases h
theorem aI.of_bound? {o : aI} {p : String × Nat} (h : o.bound? = some p) : o = .bound p.1 p.2 := by
 cases o with
 | bound => cases h; rfl
 | _ => cases h
noncomputable def AV.int? (v : AV) : _root_.Option (Int) := v.casesOn Option.none (fun zz => Option.none) (fun x => Option.some x) (fun zz => Option.none) (fun zz => Option.none) (fun zz => Option.none) (fun zz => Option.none) (fun zz => Option.none) (fun zz => Option.none) (fun zz => Option.none)
noncomputable def AV.ref? (v : AV) : _root_.Option (Nat) := v.casesOn Option.none (fun zz => Option.none) (fun zz => Option.none) (fun zz => Option.none) (fun zz => Option.none) (fun x => Option.some x) (fun zz => Option.none) (fun zz => Option.none) (fun zz => Option.none) (fun zz => Option.none)
noncomputable def AV.tup? (v : AV) : _root_.Option (List AV) := v.casesOn Option.none (fun zz => Option.none) (fun zz => Option.none) (fun zz => Option.none) (fun x => Option.some x) (fun zz => Option.none) (fun zz => Option.none) (fun zz => Option.none) (fun zz => Option.none) (fun zz => Option.none)
theorem aI.of_list? {o : aI} {xs : List AV} (h : o.list? = some xs) : o = .list xs := by
 cases o with
 | list => cases h; rfl
 | _ => cases h
theorem aI.of_dict? {o : aI} {xs : List (Int × AV)} (h : o.dict? = some xs) : o = .dict xs := by
 cases o with
 | dict => cases h; rfl
 | _ => cases h
theorem aI.of_iset? {o : aI} {xs : List Int} (h : o.iset? = some xs) : o = .iset xs := by
 cases o with
 | iset => cases h; rfl
 | _ => cases h
theorem aI.of_attrs? {o : aI} {xs : List (String × AV)} (h : o.attrs? = some xs) : o = .attrs xs := by
 cases o with
 | attrs => cases h; rfl
 | _ => cases h
theorem aI.of_inst? {o : aI} {p : String × Nat} (h : o.inst? = some p) : o = .inst p.1 p.2 := by
 cases o with
 | inst => cases h; rfl
 | _ => cases h
theorem aI.of_sinst? {o : aI} {p : String × Nat × List (Option AV)} (h : o.sinst? = some p) : o = .sinst p.1 p.2.1 p.2.2 := by
 cases o with
 | sinst => cases h; rfl
 | _ => cases h
theorem aI.of_dview? {o : aI} {p : String × Nat} (h : o.dview? = some p) : o = .dview p.1 p.2 := by
 cases o with
 | dview => cases h; rfl
 | _ => cases h
theorem AV.of_int? {x : AV} {y : Int} (h : x.int? = _root_.Option.some y) : x = .int y := by
 cases x with
 | int => cases h; rfl
 | _ => cases h
theorem AV.of_ref? {x : AV} {y : Nat} (h : x.ref? = _root_.Option.some y) : x = .ref y := by
 cases x with
 | ref => cases h; rfl
 | _ => cases h
theorem AV.of_tup? {x : AV} {y : List AV} (h : x.tup? = _root_.Option.some y) : x = .tup y := by
 cases x with
 | tup => cases h; rfl
 | _ => cases h
theorem oJ {hp : AH} {r : Nat} {c : aI × Nat} {xs : List AV} (h : hp[r]? = some c) (e : c.1.list? = some xs) : hp[r]? = some (.list xs, c.2) := by rw [h, <- aI.of_list? e]
theorem EF {hp : AH} {r : Nat} {c : aI × Nat} {p : Nat × Nat} (h : hp[r]? = some c) (e : c.1.liter? = some p) : hp[r]? = some (.liter p.1 p.2, c.2) := by rw [h, <- aI.of_liter? e]
theorem MJ {hp : AH} {r : Nat} {c : aI × Nat} {p : List AV × Nat} (h : hp[r]? = some c) (e : c.1.titer? = some p) : hp[r]? = some (.titer p.1 p.2, c.2) := by rw [h, <- aI.of_titer? e]
noncomputable def tY {α β : Type} (f : α -> Option β) : List α -> Option (List β) := List.rec (some []) fun x zz ih => bO (f x) fun d => bO ih fun ds => some (d :: ds)
theorem yE {α β : Type} (f : α -> Option β) (x : α) (xs : List α) : tY f (x :: xs) = bO (f x) fun d => bO (tY f xs) fun ds => some (d :: ds) := rfl
noncomputable def jB (hp : AH) : Nat -> AV -> Option PyData := Nat.rec (fun zz => none) fun zz ih x => AV.casesOn x (some .none) (fun b => some (.bool b)) (fun i => some (.int i)) (fun zz => none) (fun xs => (tY ih xs).map .tuple) (fun r => bO hp[r]? fun c => bO c.1.list? fun xs => (tY ih xs).map .list) (fun zz => none) (fun zz => none) (fun zz => none) (fun zz => none)
theorem KY (hp : AH) (n : Nat) (xs : List AV) : jB hp (n + 1) (.tup xs) = (tY (jB hp n) xs).map .tuple := rfl
theorem vB {hp : AH} {n r k : Nat} {xs : List AV} (e : hp[r]? = some (.list xs, k)) : jB hp (n + 1) (.ref r) = (tY (jB hp n) xs).map .list := eS e
theorem JF (hp : AH) (n r : Nat) : jB hp (n + 1) (.ref r) = bO hp[r]? fun c => bO c.1.list? fun xs => (tY (jB hp n) xs).map .list := rfl
section
variable {G : a_} {fr : List Env} {μ : List Addr} {hp : AH} {s : Shared}
theorem bK.list (H : bK G fr μ hp s) {r : Nat} {xs : List AV} {v : Nat} {a : Addr} (hr : hp[r]? = some (.list xs, v)) (ha : μ[r]? = some a) :
  ∃ vs n, s.heap.get? a = some ⟨.type "list", none, .seq (vs : List Value).toArray n, #[]⟩ /\ dX G μ s.heap xs vs := by
 obtain ⟨o, h1, h2⟩ := H.obj r _ a hr ha
 obtain ⟨vs, n, rfl, k⟩ := h2.of_list
 exact ⟨vs, n, h1, k⟩
structure A9 (s : Shared) (w : Value) (d : PyData) (n : Nat) : Prop where
 reads : ∃ as, Reads s.heap w d as
 lay : d.canLay0 = true
 depth : d.depth <= n
theorem jT (H : bK G fr μ hp s) (n : Nat) : ∀ (x : AV) (d : PyData) (w : Value), jB hp n x = some d -> VR G μ s.heap x w -> A9 s w d n := by
 induction n with
 | zero => intro _ _ _ e; cases e
 | succ n ih0 =>
  intro x d w e k
  have all : ∀ (xs : List AV) (ds : List PyData) (vs : List Value), tY (jB hp n) xs = some ds -> dX G μ s.heap xs vs -> (∃ as, ReadsAll s.heap vs ds as) /\ PyData.canLayAll0 ds = true /\ PyData.depthAll ds <= n := by
   intro xs
   induction xs with
   | nil => intro ds vs e k; cases e; cases k; exact ⟨⟨[], .nil⟩, rfl, Nat.zero_le _⟩
   | cons x xs ih =>
    intro ds vs e k
    cases k with
    | cons k1 k2 =>
     refine aL e fun d' e1 e => aL e fun ds' e2 e => ?_
     cases e
     obtain ⟨⟨as, r⟩, l, dd⟩ := ih0 x d' _ e1 k1
     obtain ⟨⟨bs, r2⟩, l2, dd2⟩ := ih _ _ e2 k2
     exact ⟨⟨_, .cons r r2⟩, by simp [PyData.canLayAll0, l, l2], by simp [PyData.depthAll]; omega⟩
  cases k with
  | none => cases e; exact ⟨⟨_, .none⟩, rfl, Nat.zero_le _⟩
  | bool b => cases e; exact ⟨⟨_, .bool _⟩, rfl, Nat.zero_le _⟩
  | int i t => cases e; exact ⟨⟨_, .int _ _⟩, rfl, Nat.zero_le _⟩
  | tup h1 h2 h3 hnm h4 =>
   rw [KY, Option.map_eq_some_iff] at e
   obtain ⟨ds, e1, rfl⟩ := e
   obtain ⟨⟨as, r⟩, l, dd⟩ := all _ _ _ e1 h4
   exact ⟨⟨_, .tuple h1 h2 h3 (by simpa using r)⟩, by simpa [PyData.canLay0] using l, by simp [PyData.depth]; omega⟩
  | @ref r a h1 =>
   refine aL e fun c hr e => aL e fun xs hx e => ?_
   rw [Option.map_eq_some_iff] at e
   obtain ⟨ds, e1, rfl⟩ := e
   obtain ⟨vs, m, g1, g2⟩ := H.list (oJ hr hx) h1
   obtain ⟨⟨as, r⟩, l, dd⟩ := all _ _ _ e1 g2
   exact ⟨⟨_, .list g1 rfl rfl (by simpa using r)⟩, by simpa [PyData.canLay0] using l, by simp [PyData.depth]; omega⟩
  | _ => cases e
inductive iZ where
 | add | sub | mul | mod | fdiv | pow
noncomputable def iZ.op : iZ -> Operator := iZ.rec .Add .Sub .Mult .Mod .FloorDiv .Pow
section
variable {α β : Type}
noncomputable def BU (l : List AV) (f : AV -> Option β) : Option β := l.casesOn none fun a t => t.casesOn (f a) fun zz zz => none
noncomputable def PV (l : List AV) (f : AV -> AV -> Option β) : Option β := l.casesOn none fun a t => t.casesOn none fun b t => t.casesOn (f a b) fun zz zz => none
noncomputable def v8 (l : List AV) (x : Option β) : Option β := l.casesOn x fun zz zz => none
theorem K7 (x : Option β) : v8 [] x = x := rfl
theorem M0 (a : AV) (f : AV -> Option β) : BU [a] f = f a := rfl
theorem K5 (a b : AV) (f : AV -> AV -> Option β) : PV [a, b] f = f a b := rfl
noncomputable def bC (hp : AH) (v : AV) (f : Nat -> aI -> Nat -> Option β) : Option β := bO v.ref? fun r => bO hp[r]? fun c => f r c.1 c.2
noncomputable def bL (hp : AH) (v : AV) (f : Nat -> List AV -> Nat -> Option β) : Option β := bC hp v fun r o k => bO o.list? fun xs => f r xs k
noncomputable def bD (hp : AH) (v : AV) (f : Nat -> List (Int × AV) -> Nat -> Option β) : Option β := bC hp v fun r o k => bO o.dict? fun xs => f r xs k
noncomputable def bS (hp : AH) (v : AV) (f : Nat -> List Int -> Nat -> Option β) : Option β := bC hp v fun r o k => bO o.iset? fun xs => f r xs k
noncomputable def bI (v : AV) (f : Int -> Option β) : Option β := bO v.int? f
noncomputable def bG (c : Prop) [Decidable c] (x : Option β) : Option β := if c then x else none
theorem lG {c : Prop} [Decidable c] (h : c) (x : Option β) : bG c x = x := if_pos h
theorem bA {c : Prop} [Decidable c] {x : Option β} {b : β} (h : bG c x = some b) {P : Prop} (k : c -> x = some b -> P) : P := by
 unfold bG at h
 by_cases hc : c
 ·rw [if_pos hc] at h; exact k hc h
 ·rw [if_neg hc] at h; cases h
noncomputable def bE (x y : Option β) : Option β := match x with
 | some a => some a
 | none => y
theorem N2 (a : β) (y : Option β) : bE (some a) y = some a := rfl
theorem M6 (y : Option β) : bE none y = y := rfl
theorem vY {x y : Option β} {b : β} (h : x = some b) : bE x y = some b := by rw [h]; rfl
theorem d9 {x y : Option β} (h : x = none) : bE x y = y := by rw [h]; rfl
theorem dO {x y : Option β} {b : β} (h : bE x y = some b) {P : Prop} (H0 : x = some b -> P) (I0 : y = some b -> P) : P := by
 cases x with
 | none => exact I0 h
 | some a => exact H0 h
theorem xH {hh : Heap} {v : AV} {w : Value} {f : Int -> Option β} {b : β} (r : VR G μ hh v w) (hm : bI v f = some b) {P : Value -> Prop} (k : ∀ i t, f i = some b -> P (.int i t)) : P w := by
 refine aL hm fun i e hm' => ?_
 rw [AV.of_int? e] at r
 obtain ⟨t, rfl⟩ := r.of_int
 exact k i t hm'
theorem M_ {v : AV} {w : Value} {f : Nat -> aI -> Nat -> Option β} {b : β} (H : bK G fr μ hp s) (r : VR G μ s.heap v w) (hm : bC hp v f = some b) {P : Value -> Prop}
  (k : ∀ r x ver a o, hp[r]? = some (x, ver) -> μ[r]? = some a -> s.heap.get? a = some o -> OR G μ s.heap x o -> f r x ver = some b -> P (.ref a)) : P w := by
 refine aL hm fun q e hm' => aL hm' fun c e2 hm'' => ?_
 rw [AV.of_ref? e] at r
 obtain ⟨a, rfl, ha⟩ := r.of_ref
 obtain ⟨o, g, kk⟩ := H.obj q c a e2 ha
 exact k q c.1 c.2 a o e2 ha g kk hm''
theorem K6 {hh : Heap} {args : List AV} {vs : List Value} {x : Option β} {b : β} (rs : dX G μ hh args vs) (hm : v8 args x = some b) {P : List Value -> Prop} (k : x = some b -> P []) : P vs := by
 cases rs with
 | nil => exact k hm
 | cons => cases hm
theorem EM {hh : Heap} {args : List AV} {vs : List Value} {f : AV -> Option β} {b : β} (rs : dX G μ hh args vs) (hm : BU args f = some b) {P : List Value -> Prop} (k : ∀ x w, VR G μ hh x w -> f x = some b -> P [w]) : P vs := by
 cases rs with
 | nil => cases hm
 | cons r rs => cases rs with
  | nil => exact k _ _ r hm
  | cons => cases hm
theorem TP {hh : Heap} {args : List AV} {vs : List Value} {f : AV -> AV -> Option β} {b : β} (rs : dX G μ hh args vs) (hm : PV args f = some b) {P : List Value -> Prop} (k : ∀ x y w u, VR G μ hh x w -> VR G μ hh y u -> f x y = some b -> P [w, u]) : P vs := by
 cases rs with
 | nil => cases hm
 | cons r rs => cases rs with
  | nil => cases hm
  | cons r' rs => cases rs with
   | nil => exact k _ _ _ _ r r' hm
   | cons => cases hm
theorem tM {v : AV} {w : Value} {f : Nat -> List AV -> Nat -> Option β} {b : β} (H : bK G fr μ hp s) (r : VR G μ s.heap v w) (hm : bL hp v f = some b) {P : Value -> Prop}
  (k : ∀ r xs ver a ws n, hp[r]? = some (.list xs, ver) -> μ[r]? = some a -> s.heap.get? a = some ⟨.type "list", none, .seq (ws : List Value).toArray n, #[]⟩ -> dX G μ s.heap xs ws -> f r xs ver = some b -> P (.ref a)) : P w := by
 refine M_ H r hm fun q x ver a o e ha g kk hm' => aL hm' fun xs e2 hm'' => ?_
 rw [aI.of_list? e2] at e kk
 obtain ⟨ws, n, rfl, k'⟩ := kk.of_list
 exact k q xs ver a ws n e ha g k' hm''
theorem L6 {v : AV} {w : Value} {f : Nat -> List Int -> Nat -> Option β} {b : β} (H : bK G fr μ hp s) (r : VR G μ s.heap v w) (hm : bS hp v f = some b) {P : Value -> Prop}
  (k : ∀ r xs ver a o, hp[r]? = some (.iset xs, ver) -> μ[r]? = some a -> s.heap.get? a = some o -> OR G μ s.heap (.iset xs) o -> f r xs ver = some b -> P (.ref a)) : P w := by
 refine M_ H r hm fun q x ver a o e ha g kk hm' => aL hm' fun xs e2 hm'' => ?_
 rw [aI.of_iset? e2] at e kk
 exact k q xs ver a o e ha g kk hm''
theorem TX {v : AV} {w : Value} {f : Nat -> List (Int × AV) -> Nat -> Option β} {b : β} (H : bK G fr μ hp s) (r : VR G μ s.heap v w) (hm : bD hp v f = some b) {P : Value -> Prop}
  (k : ∀ r xs ver a kvs, hp[r]? = some (.dict xs, ver) -> μ[r]? = some a -> s.heap.DictOf (intKind G.prog G.w) a kvs -> mX G μ s.heap xs kvs -> f r xs ver = some b -> P (.ref a)) : P w := by
 refine M_ H r hm fun q x ver a o e ha g kk hm' => aL hm' fun xs e2 hm'' => ?_
 rw [aI.of_dict? e2] at e kk
 obtain ⟨kvs, h1, h2⟩ := kk.of_dict
 exact k q xs ver a kvs e ha (Heap.dictOf_iff.mpr ⟨o, g, h1⟩) h2 hm''
end
noncomputable def m7 (o : iZ) (a b : Int) (hp : AH) : Option (AV × AH) := iZ.rec (motive := fun zz => Option (AV × AH)) (some (.int (a + b), hp)) (some (.int (a - b), hp)) (bG (b.natAbs < 2 ^ 62) (some (.int (a * b), hp))) (bG (b ≠ 0) (some (.int (a.fmod b), hp))) (bG (b ≠ 0 /\ b.natAbs < 1073741824) (some (.int (a.fdiv b), hp))) (bG (0 <= b /\ b <= 1000000 /\ a.natAbs < 2 ^ 62) (some (.int (a ^ b.toNat), hp))) o
noncomputable def oB (o : iZ) (x y : AV) : dM AV := fun hp => bE (bI x fun a => bI y fun b => m7 o a b hp) (iZ.rec (motive := fun zz => Option (AV × AH)) (bL hp x fun zz xs zz => bL hp y fun zz ys zz => bG (xs.length + ys.length <= 1000000) (gJ (.list (xs ++ ys)) hp)) none none none none none o)
theorem WC {o : iZ} {x y : AV} {hd : Bool} {d : Nat} : SX G hd d (oB o x y) (fun μ h tr => ∃ a b, VR G μ h x a /\ VR G μ h y b /\ tr = binaryOp o.op a b) (VR G) := by
 rintro A fr μ hp s z hp' tr hA H zI10 hm Q E h
 obtain ⟨a, b, ra, rb, rfl⟩ := zI10
 have int1 : ∀ {i : Int}, hp' = hp -> z = .int i -> Q (.int i s.toks) { s with toks := s.toks + 1 } := fun e1 e2 => by
  subst e1 e2; exact h _ _ μ (cN.tok _) (H.tok _) (.int _ _)
 refine dO hm (fun hm => ?_) fun hm => ?_
 ·apply xH ra hm; intro i t hm
  apply xH rb hm; intro j u hm
  cases o with
  | add => cases hm; exact P.add_int (int1 rfl rfl)
  | sub => cases hm; exact P.sub_int (int1 rfl rfl)
  | mul =>
   refine bA hm fun hb hm => ?_
   cases hm
   refine P.mul_int (int1 rfl rfl) (IntMulOk.of_right ?_)
   exact intBits_le (by omega)
  | mod => refine bA hm fun hb hm => ?_; cases hm; exact mod_int hb (int1 rfl rfl)
  | fdiv => refine bA hm fun hb hm => ?_; cases hm; exact floordiv_int hb.1 (int1 rfl rfl) (.inl (PyProof.noPylong_small hb.2))
  | pow => refine bA hm fun hb hm => ?_; cases hm; exact pow_int_small hb.1 hb.2.1 (by omega) (int1 rfl rfl)
 ·cases o with
  | add =>
   apply tM H ra hm; intro r xs v l vs n e1 ha g1 k1 hm
   apply tM H rb hm; intro q ys v' l' ws m e2 hb g2 k2 hm
   refine bA hm fun hlen hm => ?_
   cases hm
   refine P.add_list g1 g2 ?_ (by rw [size_toArray, size_toArray, <- k1.length, <- k2.length, sizeLine_eq]; omega)
   have hn := H.alloc (h' := s.heap.push { cls := .type "list", data := .seq (vs.toArray ++ ws.toArray) }) (tk := s.toks) (x := .list (xs ++ ys)) (fun b o e => Heap.get?_push_of_some _ e) (Heap.get?_none_of_le (Nat.le_refl _))
    (Heap.get?_push_size _ rfl) (by simpa using OR.list (n := 0) (k1.append k2))
   exact h _ _ _ hn.2 hn.1 (.ref (by rw [<- H.len, getElem?_append_right (Nat.le_refl _), Nat.sub_self]; rfl))
  | _ => cases hm
end
section
variable {G : a_} {sc : SC} {hd : Bool} {d : Nat}
inductive kB where
 | eq | ne | lt | le | gt | ge | mem | nmem | is | nis
noncomputable def kB.op : kB -> CmpOp := kB.rec .Eq .NotEq .Lt .LtE .Gt .GtE .In .NotIn .Is .IsNot
noncomputable def AV.isNone (v : AV) : Bool := v.casesOn true (fun zz => false) (fun zz => false) (fun zz => false) (fun zz => false) (fun zz => false) (fun zz => false) (fun zz => false) (fun zz => false) (fun zz => false)
noncomputable def EL (x y : AV) (hp : AH) : Option Bool := bO (jB hp 8 x) fun a => bO (jB hp 8 y) fun b => some (PyData.eqv a b)
noncomputable def mZ (x : AV) (xs : List AV) (hp : AH) : Option Bool := bO (jB hp 8 x) fun a => bO (tY (jB hp 8) xs) fun bs => some (bs.any fun b => PyData.eqv b a)
noncomputable def sB (x y : AV) (hp : AH) : Option Bool :=
 bE (bL hp y fun zz xs zz => mZ x xs hp) (bE (bD hp y fun zz es zz => bI x fun k => some (es.any fun e => e.1 == k)) (bE (bS hp y fun zz ks zz => bI x fun k => some (ks.contains k)) (bO y.tup? fun xs => mZ x xs hp)))
noncomputable def AV.ty? (v : AV) : _root_.Option (String) := v.casesOn Option.none (fun zz => Option.none) (fun zz => Option.none) (fun zz => Option.none) (fun zz => Option.none) (fun zz => Option.none) (fun zz => Option.none) (fun zz => Option.none) (fun x => Option.some x) (fun zz => Option.none)
theorem AV.of_ty? {x : AV} {y : String} (h : x.ty? = _root_.Option.some y) : x = .ty y := by
 cases x with
 | ty => cases h; rfl
 | _ => cases h
noncomputable def NZ (f : Int -> Int -> Bool) (x y : AV) : Option Bool := bI x fun a => bI y fun b => some (f a b)
noncomputable def N4 (x y : AV) : Option Bool := if y.isNone = true then some x.isNone else bO x.ref? fun zz => bO y.ty? fun zz => some false
noncomputable def SL (o : kB) (x y : AV) (hp : AH) : Option Bool := kB.rec (motive := fun zz => Option Bool) (EL x y hp) ((EL x y hp).map (!·)) (NZ (fun a b => decide (a < b)) x y) (NZ (fun a b => decide (a <= b)) x y) (NZ (fun a b => decide (a > b)) x y) (NZ (fun a b => decide (a ≥ b)) x y) (sB x y hp) ((sB x y hp).map (!·)) (N4 x y) (if y.isNone = true then some (!x.isNone) else none) o
theorem VR.isNone {μ : List Addr} {h : Heap} {x : AV} {a : Value} (r : VR G μ h x a) : (a == Value.none) = x.isNone := by
 cases r <;> rfl
section
variable {fr : List Env} {μ : List Addr} {hp : AH} {s : Shared} {A : Around} {Q : Value -> Shared -> Prop} {E : Value -> Shared -> Prop}
theorem mX.any {h : Heap} : ∀ {xs : List (Int × AV)} {kvs : List (Int × Value)}, mX G μ h xs kvs -> ∀ k : Int, (valueAt kvs k).isSome = xs.any fun e => e.1 == k
 | _, _, .nil, k => rfl
 | _, _, .cons (k := j) (x := x) (v := v) (xs := xs) (es := es) h1 h2, k => by
  have ih := mX.any h2 k
  unfold valueAt at ih |-
  by_cases hk : j = k
  ·subst hk; simp
  ·have : (j == k) = false := by simp [hk]
   simp only [List.find?_cons, hk, decide_false, List.any_cons, this, Bool.false_or]
   exact ih
theorem UL (hu : A.units + 8 < cLine) (H : bK G fr μ hp s) {x y : AV} {a b : Value} (ra : VR G μ s.heap x a) (rb : VR G μ s.heap y b) {v : Bool} (hm : EL x y hp = some v) :
  (Q (.bool v) s -> wpAny G.M A (compareOp .Eq a b) Q E s) /\ (Q (.bool !v) s -> wpAny G.M A (compareOp .NotEq a b) Q E s) := by
 refine aL hm fun da e1 hm => aL hm fun db e2 hm => ?_
 refine Mine.hold fun gL bk => ?_
 cases hm
 obtain ⟨⟨as, r1⟩, l1, d1⟩ := jT H 8 _ _ _ e1 ra
 obtain ⟨⟨bs, r2⟩, l2, d2⟩ := jT H 8 _ _ _ e2 rb
 refine bk ?_; clear bk gL
 have hu' : A.units + min da.depth db.depth < cLine := by have := Nat.min_le_left da.depth db.depth; omega
 exact ⟨fun h => SeqAt.compareEq_reads r1 r2 l1 l2 hu' h, fun h => SeqAt.compareNe_reads r1 r2 l1 l2 hu' h⟩
theorem wS (H : bK G fr μ hp s) : ∀ {xs : List AV} {ds : List PyData} {vs : List Value}, tY (jB hp 8) xs = some ds -> dX G μ s.heap xs vs -> (∃ as, ReadsAll s.heap vs ds as) /\ PyData.canLayAll0 ds = true /\ PyData.depthAll ds <= 8 := by
 intro xs
 induction xs with
 | nil => intro ds vs e k; cases e; cases k; exact ⟨⟨[], .nil⟩, rfl, Nat.zero_le _⟩
 | cons x xs ih =>
  intro ds vs e k
  cases k with
  | cons k1 k2 =>
   refine aL e fun d' e1 e => aL e fun ds' e2 e => ?_
   refine Mine.hold fun gL bk => ?_
   cases e
   obtain ⟨⟨as, r⟩, l, dd⟩ := jT H 8 x d' _ e1 k1
   obtain ⟨⟨bs, r2⟩, l2, dd2⟩ := ih e2 k2
   refine bk ?_; clear bk gL
   exact ⟨⟨_, .cons r r2⟩, by simp [PyData.canLayAll0, l, l2], by simp [PyData.depthAll]; omega⟩
theorem LL {hp : AH} {x : AV} {l k : Nat} {xs : List AV} {b : Bool} (hl : hp[l]? = some (.list xs, k)) (h : sB x (.ref l) hp = some b) : mZ x xs hp = some b := by
 have at_ : ∀ {β : Type} {o : aI -> Option β} {f : Nat -> β -> Nat -> Option Bool}, (bC hp (.ref l) fun r o' k => bO (o o') fun es => f r es k) = some b -> ∃ es, o (.list xs) = some es /\ f l es k = some b := fun {β o f} h => by
  refine aL h fun r e h => aL h fun c hc h => aL h fun es e2 h => ?_
  cases e
  rw [hl] at hc
  cases hc
  exact ⟨es, e2, h⟩
 refine dO h (fun h => ?_) fun h => dO h (fun h => ?_) fun h => dO h (fun h => ?_) fun h => by cases h
 ·obtain ⟨es, e, h⟩ := at_ (o := aI.list?) (f := fun zz xs zz => mZ x xs hp) h
  cases e
  exact h
 ·obtain ⟨es, e, h⟩ := at_ (o := aI.dict?) (f := fun zz es zz => bI x fun k => some (es.any fun e => e.1 == k)) h
  cases e
 ·obtain ⟨es, e, h⟩ := at_ (o := aI.iset?) (f := fun zz ks zz => bI x fun k => some (ks.contains k)) h
  cases e
theorem bK.notMods (H : bK G fr μ hp s) (hs : (G.h₀.get? sysModules).isSome = true) {a : Addr} (ha : a ∈ μ) : (a == sysModules) = false := by
 cases e : a == sysModules with
 | false => rfl
 | true =>
  have := H.low a ha
  rw [beq_iff_eq.mp e] at this
  rw [this] at hs; cases hs
theorem wT (k : Int) (t : Tok) : (Value.int k t).scannable = true := rfl
theorem BQ (hs : (G.h₀.get? sysModules).isSome = true) (hu : A.units + 20 < cLine) (H : bK G fr μ hp s) {x y : AV} {a b : Value} (ra : VR G μ s.heap x a) (rb : VR G μ s.heap y b) {v : Bool} (hm : sB x y hp = some v) :
  ((∀ tk, Q (.bool v) { s with toks := tk }) -> wpAny G.M A (compareOp .In a b) Q E s) /\ ((∀ tk, Q (.bool !v) { s with toks := tk }) -> wpAny G.M A (compareOp .NotIn a b) Q E s) := by
 have seq : ∀ {xs : List AV} {vs : List Value}, dX G μ s.heap xs vs -> mZ x xs hp = some v -> ∃ da ds as bs, Reads s.heap a da as /\ da.canLay0 = true /\ ReadsAll s.heap vs ds bs /\ PyData.canLayAll0 ds = true /\ A.units + 1 + min (PyData.depthAll ds) da.depth < cLine /\ (ds.any fun b => PyData.eqv b da) = v := fun k1 hm => by
  refine aL hm fun da e1 hm => aL hm fun ds e2 hm => ?_
  cases hm
  obtain ⟨⟨as, r1⟩, l1, d1⟩ := jT H 8 _ _ _ e1 ra
  obtain ⟨⟨bs, r2⟩, l2, d2⟩ := wS H e2 k1
  have q := Nat.min_le_left (PyData.depthAll ds) da.depth
  exact ⟨da, ds, as, bs, r1, l1, r2, l2, by omega, rfl⟩
 refine dO hm (fun hm => ?_) fun hm => dO hm (fun hm => ?_) fun hm => dO hm (fun hm => ?_) fun hm => ?_
 ·apply tM H rb hm; intro r xs ver l vs n e hl g1 k1 hm
  refine Mine.hold fun gL bk => ?_
  obtain ⟨da, ds, as, bs, r1, l1, r2, l2, hu, rfl⟩ := seq k1 hm
  refine bk ?_; clear bk gL
  exact ⟨fun h1 => SeqAt.in_list_reads (.list g1 rfl rfl (by simpa using r2)) r1 l2 l1 hu (h1 s.toks), fun h1 => SeqAt.notIn_list_reads (.list g1 rfl rfl (by simpa using r2)) r1 l2 l1 hu (h1 s.toks)⟩
 ·apply TX H rb hm; intro r es ver l kvs e hl hd g3 hm
  apply xH ra hm; intro k t hm
  cases hm
  have ki : (intKind G.prog G.w).is k (.int k t) = true := by simp [intKind, Value.isInt]
  rw [<- g3.any]
  exact ⟨fun h1 => wpAny_in_of (knd := intKind G.prog G.w) (k := k) ki (H.notMods hs (mem_of_getElem? hl)) hd.mapOf (h1 _), fun h1 => wpAny_notIn_of (knd := intKind G.prog G.w) (k := k) ki (H.notMods hs (mem_of_getElem? hl)) hd.mapOf (h1 _)⟩
 ·apply L6 H rb hm; intro r ks ver l o e hl g1 g2 hm
  apply xH ra hm; intro k t hm
  cases hm
  refine Mine.hold fun gL bk => ?_
  obtain ⟨_, _, _, a1, a2, a3, a4, a5, a6, a7⟩ := g2.of_iset
  refine bk ?_; clear bk gL
  have ki : (intKind G.prog G.w).is k (.int k t) = true := by simp [intKind, Value.isInt]
  exact ⟨fun h1 => wpAny_inSet_of (knd := intKind G.prog G.w) (k := k) (S := fun k => ks.contains k) ki (wT _ _) ⟨o, _, _, _, g1, a1, a2, a3, a4, a5, a6, rfl⟩ (h1 _), fun h1 => wpAny_notInSet_of (knd := intKind G.prog G.w) (k := k) (S := fun k => ks.contains k) ki (wT _ _) ⟨o, _, _, _, g1, a1, a2, a3, a4, a5, a6, rfl⟩ (h1 _)⟩
 ·refine aL hm fun xs e hm => ?_
  rw [AV.of_tup? e] at rb
  refine Mine.hold fun gL bk => ?_
  cases rb with
  | tup g1 g2 g4 gm g5 =>
  obtain ⟨da, ds, as, bs, r1, l1, r2, l2, hu, rfl⟩ := seq g5 hm
  refine bk ?_; clear bk gL
  exact ⟨fun h1 => SeqAt.in_tuple_reads (.tuple g1 g2 g4 (by simpa using r2)) r1 l2 l1 hu (h1 s.toks), fun h1 => SeqAt.notIn_tuple_reads (.tuple g1 g2 g4 (by simpa using r2)) r1 l2 l1 hu (h1 s.toks)⟩
theorem oH {x : AV} (h : x.isNone = true) : x = .none := by
 cases x with
 | none => rfl
 | _ => cases h
theorem AG {x y : AV} {a b : Value} (ra : VR G μ s.heap x a) (rb : VR G μ s.heap y b) {v : Bool} {f : Int -> Int -> Bool} {t : Sem Value} (hm : NZ f x y = some v) (k : ∀ i j t' u', f i j = v -> a = .int i t' -> b = .int j u' -> wpAny G.M A t Q E s) : wpAny G.M A t Q E s := by
 refine aL hm fun i e1 hm => aL hm fun j e2 hm => ?_
 rw [AV.of_int? e1] at ra
 rw [AV.of_int? e2] at rb
 refine Mine.hold fun gL bk => ?_
 obtain ⟨t, rfl⟩ := ra.of_int
 obtain ⟨u, rfl⟩ := rb.of_int
 cases hm
 refine bk ?_; clear bk gL
 exact k _ _ _ _ rfl rfl rfl
theorem MK (hs : (G.h₀.get? sysModules).isSome = true) (hu : A.units + 20 < cLine) (H : bK G fr μ hp s) {o : kB} {x y : AV} {a b : Value} (ra : VR G μ s.heap x a) (rb : VR G μ s.heap y b) {v : Bool} (hm : SL o x y hp = some v)
  (h1 : ∀ tk, Q (.bool v) { s with toks := tk }) : wpAny G.M A (compareOp o.op a b) Q E s := by
 cases o with
 | eq => exact (UL (by omega) H ra rb hm).1 (h1 s.toks)
 | ne =>
  replace hm := Option.map_eq_some_iff.mp hm
  refine Mine.hold fun gL bk => ?_
  obtain ⟨v', e, rfl⟩ := hm
  refine bk ?_; clear bk gL
  exact (UL (by omega) H ra rb e).2 (h1 s.toks)
 | mem => exact (BQ hs hu H ra rb hm).1 h1
 | nmem =>
  replace hm := Option.map_eq_some_iff.mp hm
  refine Mine.hold fun gL bk => ?_
  obtain ⟨v', e, rfl⟩ := hm
  refine bk ?_; clear bk gL
  exact (BQ hs hu H ra rb e).2 h1
 | lt => exact AG ra rb hm fun i j t u e ea eb => by subst ea eb; subst e; exact P.lt_int (h1 s.toks)
 | le => exact AG ra rb hm fun i j t u e ea eb => by subst ea eb; subst e; exact P.le_int (h1 s.toks)
 | gt => exact AG ra rb hm fun i j t u e ea eb => by subst ea eb; subst e; exact P.gt_int (h1 s.toks)
 | ge => exact AG ra rb hm fun i j t u e ea eb => by subst ea eb; subst e; exact P.ge_int (h1 s.toks)
 | is =>
  by_cases hn : y.isNone = true
  ·replace hm := (if_pos hn).symm.trans hm
   rw [oH hn] at rb
   cases hm
   cases rb
   exact is_none (by rw [ra.isNone]; exact h1 s.toks)
  ·replace hm := (if_neg hn).symm.trans hm
   refine aL hm fun r e1 hm => aL hm fun T e2 hm => ?_
   rw [AV.of_ref? e1] at ra
   rw [AV.of_ty? e2] at rb
   cases hm
   cases rb
   obtain ⟨a, rfl, _⟩ := ra.of_ref
   exact wpAny_is_plain rfl (h1 s.toks)
 | nis =>
  by_cases hn : y.isNone = true
  ·replace hm := (if_pos hn).symm.trans hm
   rw [oH hn] at rb
   cases hm
   cases rb
   exact isNot_none (by rw [ra.isNone]; exact h1 s.toks)
  ·cases (if_neg hn).symm.trans hm
end
end
section
variable {G : a_} {sc : SC} {hd : Bool} {d : Nat}
noncomputable def gT (o : iZ) (uD uE : AM AV) : AM AV := do
 let x <- uD
 let y <- uE
 fB (oB o x y)
theorem cQ {o : iZ} {uD uE : AM AV} {rW mJ : Expr} {pos : Pos} {op : Operator} (qK : b_ G sc hd d uD rW) (qL : b_ G sc hd d uE mJ) (ho : autoParam (op = o.op) aR) : b_ G sc hd d (gT o uD uE) (.BinOp rW op mJ pos) := by
 subst ho
 intro A fr env own μ st s z st' hA I hm Q E h
 refine wpAny_BinOp (aQ qK hA I hm fun x st₁ a aB aD bP aT aJ bH => aQ qL hA aJ bP fun y st₂ b bQ bY e_ bJ bF dE => ?_)
 exact WC.use hA bF ⟨a, b, aJ.vr bJ bH, dE, rfl⟩ e_ fun w dG eO cI cF iY => h _ _ _ (I.trans aT (aJ.trans bJ cI)) cF iY
noncomputable def MI {α : Type} (f : AH -> Option α) (st : AS) : Option (α × AS) := match f st.hp with
 | some a => some (a, st)
 | none => none
theorem JT {α : Type} {f : AH -> Option α} {st : AS} {a : α} (h : f st.hp = some a) : MI f st = some (a, st) := by unfold MI; rw [h]
noncomputable def nQ {α : Type} (f : AH -> Option α) : AM α := ⟨MI f, fun Q st => mY Q st (f st.hp), fun h => by
 refine Mine.hold fun gL bk => ?_
 obtain ⟨a, e, k⟩ := BX h
 refine bk ?_; clear bk gL
 exact ⟨a, _, JT e, k⟩, fun h k => wE k h⟩
theorem cV {α : Type} {f : AH -> Option α} {st st' : AS} {a : α} (h : nQ f st = some (a, st')) : st' = st /\ f st.hp = some a := by
 change MI f st = _ at h
 unfold MI at h
 split at h
 ·rename_i v hv; cases h; exact ⟨rfl, hv⟩
 ·cases h
noncomputable def fI (o : kB) (uD uE : AM AV) : AM Bool := do
 let x <- uD
 let y <- uE
 nQ (SL o x y)
noncomputable def LV (m : AM Bool) : AM AV := do
 let b <- m
 pure (.bool b)
structure GX (G : a_) : Prop extends GOk G where
 mods : (G.h₀.get? sysModules).isSome = true
theorem AI {o : kB} {uD uE : AM AV} {rW mJ : Expr} {pos : Pos} {op : CmpOp} (gx : GX G) (qK : b_ G sc hd d uD rW) (qL : b_ G sc hd d uE mJ) (hm' : autoParam (behindInMarks o.op mJ = false) aW) (ho : autoParam (op = o.op) aR) :
  b_ G sc hd d (LV (fI o uD uE)) (.Compare rW [op] [mJ] pos) := by
 subst ho
 intro A fr env own μ st s z st' hA I hm Q E h
 refine Mine.hold fun gL bk => ?_
 obtain ⟨bb, st₀, n7, hz⟩ := aF hm
 cases hz
 refine bk ?_; clear bk gL
 refine wpAny_Compare1 (aQ qK hA I n7 fun x st₁ a aB aD bP aT aJ bH => aQ qL hA aJ bP fun y st₂ b bQ bY e_ bJ bF dE => ?_) hm'
 obtain ⟨rfl, hv⟩ := cV e_
 exact MK gx.mods (by have := hA.units; omega) bF.h (aJ.vr bJ bH) dE hv fun tk => h _ _ _ (I.trans aT (aJ.trans bJ (cN.tok tk))) (bF.tok tk) (.bool _)
theorem bV {o : kB} {uD uE : AM AV} {rW mJ : Expr} {pos : Pos} {op : CmpOp} (gx : GX G) (qK : b_ G sc hd d uD rW) (qL : b_ G sc hd d uE mJ) (hm' : autoParam (behindInMarks o.op mJ = false) aW) (ho : autoParam (op = o.op) aR) :
  wK G sc hd d (fI o uD uE) (.Compare rW [op] [mJ] pos) := by
 subst ho
 intro A fr env own μ st s z st' hA I hm Q E h
 refine wpAny_isTrue_Compare1 (aQ qK hA I hm fun x st₁ a aB aD bP aT aJ bH => aQ qL hA aJ bP fun y st₂ b bQ bY e_ bJ bF dE => ?_) hm'
 obtain ⟨rfl, hv⟩ := cV e_
 exact MK gx.mods (by have := hA.units; omega) bF.h (aJ.vr bJ bH) dE hv fun tk => wpAny_truthy_bool (h _ _ _ (I.trans aT (aJ.trans bJ (cN.tok tk))) (bF.tok tk) rfl)
noncomputable def nK (v : AV) (hp : AH) : Option Bool := v.casesOn (some false) (fun b => some b) (fun zz => none) (fun zz => none) (fun zz => none) (fun r => bL hp (.ref r) fun zz xs zz => bG (xs.length <= 1000000) (some (!xs.isEmpty))) (fun zz => none) (fun zz => none) (fun zz => none) fun zz => none
theorem dJ (b : Bool) (hp : AH) : nK (.bool b) hp = some b := rfl
theorem fR (r : Nat) (hp : AH) : nK (.ref r) hp = bL hp (.ref r) fun zz xs zz => bG (xs.length <= 1000000) (some (!xs.isEmpty)) := rfl
theorem CW {fr : List Env} {μ : List Addr} {hp : AH} {s : Shared} {A : Around} {Q : Bool -> Shared -> Prop} {E : Value -> Shared -> Prop} (H : bK G fr μ hp s) {x : AV} {a : Value} (r : VR G μ s.heap x a) {b : Bool} (hm : nK x hp = some b)
  (h : ∀ tk, Q b { s with toks := tk }) : wpAny G.M A (truthy a) Q E s := by
 cases r with
 | none => cases hm; exact fun zz zz zz => h s.toks
 | bool b' => cases hm; exact wpAny_truthy_bool (h s.toks)
 | @ref n l hl =>
  refine tM (P := fun w => wpAny G.M A (truthy w) Q E s) H (.ref hl) hm fun r xs v a vs m e hl g1 k1 hm => bA hm fun hlen hm => ?_
  cases hm
  have hl' := k1.length
  refine wpAny_truthy_list ⟨_, g1, rfl, _, rfl⟩ (by rw [size_toArray]; omega) ?_
  have : (vs.toArray.isEmpty) = xs.isEmpty := by
   cases vs with
   | nil => cases k1; rfl
   | cons => cases k1; rfl
  rw [this]; exact h _
 | _ => cases hm
noncomputable def jX (m : AM AV) : AM Bool := do
 let v <- m
 nQ (nK v)
theorem iN {m : AM AV} {e : Expr} (S : b_ G sc hd d m e) (he : autoParam (∀ env whole, isTrue e env whole = (do let v <- whole; standAt e.pos; holding [v] (truthy v))) aR) : wK G sc hd d (jX m) e := by
 intro A fr env own μ st s z st' hA I hm Q E h
 refine wpAny_isTrue_value (aQ S hA I hm fun x st₁ a aB aD bP aT aJ bH => ?_) (he env _)
 obtain ⟨rfl, hv⟩ := cV bP
 exact CW aJ.h bH hv fun tk => h _ _ _ (I.trans aT (cN.tok tk)) (aJ.tok tk) rfl
noncomputable def NA (m : AM Bool) : AM Bool := do
 let b <- m
 pure (!b)
theorem vA {m : AM Bool} {e : Expr} {pos : Pos} (S : wK G sc hd d m e) : wK G sc hd d (NA m) (.UnaryOp .Not e pos) := by
 intro A fr env own μ st s z st' hA I hm Q E h
 refine wpAny_isTrue_Not (aQ S hA I hm fun x st₁ a aB aD bP aT aJ bH => ?_)
 cases bP; subst bH
 exact h _ _ _ aT aJ rfl
abbrev GV (G : a_) (sc : SC) (hd : Bool) (d : Nat) (op : BoolOp) (m : AM Bool) (es : List Expr) : Prop := TL G sc hd d m (fun env => allTrue op es env) (fun zz zz a b => a = b)
noncomputable def JB (m k : AM Bool) : AM Bool := do
 let b <- m
 if b = true then k else pure false
noncomputable def VB (m k : AM Bool) : AM Bool := do
 let b <- m
 if b = true then pure true else k
theorem rE : GV G sc hd d .And (pure true) [] := by
 intro A fr env own μ st s z st' hA I hm Q E h
 cases hm; exact wpAny_allTrue_And_nil (h _ _ _ cN.refl I rfl)
theorem tL : GV G sc hd d .Or (pure false) [] := by
 intro A fr env own μ st s z st' hA I hm Q E h
 cases hm; exact wpAny_allTrue_Or_nil (h _ _ _ cN.refl I rfl)
theorem qW {m k : AM Bool} {e : Expr} {es : List Expr} (S : wK G sc hd d m e) (T : GV G sc hd d .And k es) : GV G sc hd d .And (JB m k) (e :: es) := by
 intro A fr env own μ st s z st' hA I hm Q E h
 refine wpAny_allTrue_And_cons (aQ S hA I hm fun x st₁ a aB aD bP aT aJ bH => ?_)
 subst bH
 cases x with
 | true => exact T A fr env own aD st₁ aB z st' hA aJ bP Q E fun b s' bM x' I' r' => h _ _ _ (I.trans aT x') I' r'
 | false => cases bP; exact h _ _ _ aT aJ rfl
theorem rC {m k : AM Bool} {e : Expr} {es : List Expr} (S : wK G sc hd d m e) (T : GV G sc hd d .Or k es) : GV G sc hd d .Or (VB m k) (e :: es) := by
 intro A fr env own μ st s z st' hA I hm Q E h
 refine wpAny_allTrue_Or_cons (aQ S hA I hm fun x st₁ a aB aD bP aT aJ bH => ?_)
 subst bH
 cases x with
 | false => exact T A fr env own aD st₁ aB z st' hA aJ bP Q E fun b s' bM x' I' r' => h _ _ _ (I.trans aT x') I' r'
 | true => cases bP; exact h _ _ _ aT aJ rfl
theorem oU {op : BoolOp} {m : AM Bool} {es : List Expr} {pos : Pos} (S : GV G sc hd d op m es) : wK G sc hd d m (.BoolOp op es pos) := by
 intro A fr env own μ st s z st' hA I hm Q E h
 exact wpAny_isTrue_BoolOp (S A fr env own μ st s z st' hA I hm Q E h)
noncomputable def OT (m k : AM AV) : AM AV := do
 let v <- m
 let b <- nQ (nK v)
 if b = true then k else pure v
theorem QW {m k : AM AV} {rW mJ : Expr} {pos : Pos} (qK : b_ G sc hd d m rW) (qL : b_ G sc hd d k mJ) : b_ G sc hd d (OT m k) (.BoolOp .And [rW, mJ] pos) := by
 intro A fr env own μ st s z st' hA I hm Q E h
 refine wpAny_And2 (aQ qK hA I hm fun x st₁ a aB aD bP aT aJ bH => ?_)
 refine Mine.hold fun gL bk => ?_
 obtain ⟨b, st₂, hb, hk⟩ := aF bP
 obtain ⟨rfl, hv⟩ := cV hb
 refine bk ?_; clear bk gL
 refine CW aJ.h bH hv fun tk => ?_
 cases b with
 | true => exact qL A fr env own aD st₂ _ z st' hA (aJ.tok tk) hk Q E fun b s' bM x' I' r' => h _ _ _ (I.trans aT (aJ.trans (cN.tok tk) x')) I' r'
 | false => cases hk; exact h _ _ _ (I.trans aT (cN.tok tk)) (aJ.tok tk) bH
noncomputable def A8 (t : AM Bool) (m k : AM AV) : AM AV := do
 let b <- t
 if b = true then m else k
theorem WJ {t : AM Bool} {m k : AM AV} {e rW mJ : Expr} {pos : Pos} (S : wK G sc hd d t e) (qK : b_ G sc hd d m rW) (qL : b_ G sc hd d k mJ) : b_ G sc hd d (A8 t m k) (.IfExp e rW mJ pos) := by
 intro A fr env own μ st s z st' hA I hm Q E h
 refine wpAny_IfExp (aQ S hA I hm fun x st₁ a aB aD bP aT aJ bH => ?_)
 subst bH
 cases x with
 | true => exact qK A fr env own aD st₁ aB z st' hA aJ bP Q E fun b s' bM x' I' r' => h _ _ _ (I.trans aT x') I' r'
 | false => exact qL A fr env own aD st₁ aB z st' hA aJ bP Q E fun b s' bM x' I' r' => h _ _ _ (I.trans aT x') I' r'
noncomputable def ZQ (v : AV) : AM AV := nQ fun zz => bI v fun i => some (.int (-i))
noncomputable def JA (m : AM AV) : AM AV := m >>= ZQ
theorem AC {m : AM AV} {e : Expr} {pos : Pos} (S : b_ G sc hd d m e) : b_ G sc hd d (JA m) (.UnaryOp .USub e pos) := by
 intro A fr env own μ st s z st' hA I hm Q E h
 refine wpAny_UnaryOp (aQ S hA I hm fun x st₁ a aB aD bP aT aJ bH => ?_)
 obtain ⟨rfl, hv⟩ := cV bP
 apply xH bH hv; intro i t hv
 cases hv
 exact neg_int (h _ _ _ (I.trans aT (cN.tok _)) (aJ.tok _) (.int _ _))
abbrev JJ (G : a_) (sc : SC) (hd : Bool) (d : Nat) (m : AM (List AV)) (es : List Expr) : Prop := ∀ pos, TL G sc hd d m (fun env => spliced (backTo pos (starEach es env))) (dX G)
noncomputable def aO (m : AM AV) (k : AM (List AV)) : AM (List AV) := do
 let x <- m
 let xs <- k
 pure (x :: xs)
theorem cA : JJ G sc hd d (pure []) [] := by
 intro pos A fr env own μ st s z st' hA I hm Q E h
 cases hm; exact wpAny_items_nil (h _ _ _ cN.refl I .nil)
theorem bB {m : AM AV} {k : AM (List AV)} {e : Expr} {es : List Expr} (S : b_ G sc hd d m e) (T : JJ G sc hd d k es) (he : autoParam (∀ env, starEach (e :: es) env = (false, eval e env) :: starEach es env) aR) : JJ G sc hd d (aO m k) (e :: es) := by
 intro pos A fr env own μ st s z st' hA I hm Q E h
 refine wpAny_items_cons (aQ S hA I hm fun x st₁ a aB aD bP aT aJ bH => aQ (T pos) hA aJ bP fun y st₂ b bQ bY e_ bJ bF dE => ?_) (he env)
 cases e_
 exact h _ _ _ (I.trans aT bJ) bF (.cons (aJ.vr bJ bH) dE)
noncomputable def zA (n : Nat) : AM Unit := ⟨fun st => if n <= 1000000 then some ((), st) else none, fun Q st => n <= 1000000 /\ Q () st, fun h => ⟨(), _, if_pos h.1, h.2⟩, fun h k => ⟨h.1, k _ _ h.2⟩⟩
theorem pS {n : Nat} {st st' : AS} {u : Unit} (h : zA n st = some (u, st')) : st' = st /\ n <= 1000000 := by
 dsimp only [zA] at h
 split at h
 ·cases h; exact ⟨rfl, by assumption⟩
 ·cases h
noncomputable def gD (m : AM (List AV)) : AM AV := do
 let xs <- m
 zA xs.length
 fB (gJ (.list xs))
noncomputable def sJ (m : AM (List AV)) : AM AV := do
 let xs <- m
 zA xs.length
 pure (.tup xs)
theorem vM {fr : List Env} {μ : List Addr} {hp : AH} {s : Shared} {xs : List AV} {vs : List Value} {n : Nat} {tk : Nat} (H : bK G fr μ hp s) (k : dX G μ s.heap xs vs) :
  bK G fr (μ ++ [s.heap.objs.size]) (hp ++ [(.list xs, 0)]) { s with heap := s.heap.push ⟨.type "list", none, .seq vs.toArray n, #[]⟩, toks := tk } /\ cN [] fr μ hp s (μ ++ [s.heap.objs.size]) (hp ++ [(.list xs, 0)]) { s with heap := s.heap.push ⟨.type "list", none, .seq vs.toArray n, #[]⟩, toks := tk } :=
 H.alloc (fun b o e => Heap.get?_push_of_some _ e) (Heap.get?_none_of_le (Nat.le_refl _)) (Heap.get?_push_size _ rfl) (.list k)
theorem gM {μ : List Addr} {hp : AH} {h : Heap} {a : Addr} (hl : μ.length = hp.length) : VR G (μ ++ [a]) h (.ref hp.length) (.ref a) := .ref (by rw [<- hl, getElem?_append_right (Nat.le_refl _), Nat.sub_self]; rfl)
theorem dT {m : AM (List AV)} {es : List Expr} {pos : Pos} (S : JJ G sc hd d m es) : b_ G sc hd d (gD m) (.List es pos) := by
 intro A fr env own μ st s z st' hA I hm Q E h
 refine wpAny_List (aQ (S pos) hA I hm fun xs st₁ vs aB aD bP aT aJ bH => ?_)
 refine Mine.hold fun gL bk => ?_
 obtain ⟨u, st₂, h2, h3⟩ := aF bP
 obtain ⟨rfl, hlen⟩ := pS h2
 obtain ⟨hp', h4, rfl⟩ := cR h3
 cases h4
 refine bk ?_; clear bk gL
 have hn := vM (tk := aB.toks) (n := 0) aJ.h bH
 exact ⟨by rw [<- bH.length, sizeLine_eq]; omega, h _ _ _ (I.trans aT hn.2.weaken) (aJ.heap hn.2 hn.1) (gM aJ.h.len)⟩
theorem jM {m : AM (List AV)} {es : List Expr} {kk : Nat} {pos : Pos} (S : JJ G sc hd d m es) : b_ G sc hd d (sJ m) (.Tuple es kk pos) := by
 intro A fr env own μ st s z st' hA I hm Q E h
 refine wpAny_Tuple (aQ (S pos) hA I hm fun xs st₁ vs aB aD bP aT aJ bH => ?_)
 refine Mine.hold fun gL bk => ?_
 obtain ⟨u, st₂, h2, h3⟩ := aF bP
 obtain ⟨rfl, hlen⟩ := pS h2
 cases h3
 refine bk ?_; clear bk gL
 have hn := aJ.h.grow (h' := aB.heap.push { cls := .type "tuple", data := .seq vs.toArray }) (tk := aB.toks) (fun b o e => Heap.get?_push_of_some _ e)
 exact ⟨by rw [<- bH.length, sizeLine_eq]; omega, h _ _ _ (I.trans aT hn.2.weaken) (aJ.heap hn.2 hn.1) (.tup (Heap.get?_push_size _ rfl) rfl rfl (fun hm => absurd (aJ.h.lt hm) (Nat.lt_irrefl _)) (aJ.vrs hn.2.weaken bH))⟩
end
inductive pM where
 | new
 | out (fl : Value)
noncomputable def RI (G : a_) (μ : List Addr) (lo : Heap) (e : Addr) (h : Heap) (vs : Array Value) : pM -> Prop
 | .new => vs[1]? = some .none
 | .out fl => ∃ T oT ts, vs[1]? = some (.ref T) /\ T ≠ e /\ h.get? T = some oT /\ oT.data = .fields ts /\ ts[3]? = some fl /\ T ∉ μ /\ G.h₀.get? T = none /\ lo.get? T = none
noncomputable def tU (G : a_) (μ : List Addr) (lo : Heap) (e : Addr) (cls : Value) (h : Heap) (st : pM) : Prop :=
 ∃ oe vs a0, h.get? e = some oe /\ oe.cls = cls /\ oe.data = .fields vs /\ vs[0]? = some a0 /\ e ∉ μ /\ G.h₀.get? e = none /\ lo.get? e = none /\ RI G μ lo e h vs st
structure nF (fr : List Env) (μ : List Addr) (lo : Heap) (s s' : Shared) : Prop where
 same : ∃ h' tk, s' = { s with heap := h', toks := tk }
 keep : ∀ b o, s.heap.get? b = some o -> b ∈ μ \/ (lo.get? b).isSome = true \/ (∀ vs, o.data ≠ .fields vs) -> ∃ sl, s'.heap.get? b = some { o with slots := sl } /\ (b ∉ sP fr -> sl = o.slots)
theorem nF.refl {fr : List Env} {μ : List Addr} {lo : Heap} {s : Shared} : nF fr μ lo s s := ⟨⟨s.heap, s.toks, rfl⟩, fun b o h zz => ⟨o.slots, h, fun zz => rfl⟩⟩
theorem nF.trans {fr : List Env} {μ : List Addr} {lo : Heap} {s aB bQ : Shared} (x : nF fr μ lo s aB) (y : nF fr μ lo aB bQ) : nF fr μ lo s bQ := by
 refine ⟨?_, fun b o h hb => ?_⟩
 ·obtain ⟨h', tk, rfl⟩ := x.same
  obtain ⟨h'', tk', rfl⟩ := y.same
  exact ⟨h'', tk', rfl⟩
 ·obtain ⟨sl, h1, h2⟩ := x.keep b o h hb
  obtain ⟨sl', h3, h4⟩ := y.keep b _ h1 hb
  exact ⟨sl', h3, fun hf => (h4 hf).trans (h2 hf)⟩
section
variable {G : a_} {sc : SC} {fr : List Env} {env : Env} {own μ : List Addr} {hp : AH} {ρ : List (String × AV)} {lo : Heap} {s s' : Shared}
theorem nF.still (x : nF fr μ lo s s') (H : bK G fr μ hp s) : eU μ μ s.heap s'.heap := by
 rintro a o ha hc zI4 hm
 obtain ⟨vs, n, hd⟩ := zI4
 have h3 : a ∉ sP fr := fun hm => by
  obtain ⟨e, he, hf⟩ := mem_filterMap.mp hm
  obtain ⟨_, L, o', hL, ho', ⟨es, n, q⟩, _⟩ := H.frs e he
  rw [hf] at hL; cases hL
  rw [ha] at ho'; cases ho'
  rw [hd] at q; cases q
 obtain ⟨sl, e, hs⟩ := x.keep a o ha (.inr (.inr fun ws q => by rw [hd] at q; cases q))
 rw [hs h3] at e; exact ⟨hm, e⟩
theorem bK.junk (H : bK G fr μ hp s) (hlo : G.h₀.StaysIn lo) (x : nF fr μ lo s s') : bK G fr μ hp s' := by
 refine ⟨fun b o e => ?_, H.len, H.nod, fun n c a hc ha => ?_, H.low, fun e he => ?_⟩
 ·obtain ⟨sl, h1, h2⟩ := x.keep b o (H.base b o e) (.inr (.inl (by rw [hlo b o e]; rfl)))
  have : b ∉ sP fr := fun hm => by
   obtain ⟨e', he, hf⟩ := mem_filterMap.mp hm
   obtain ⟨_, L, o', hL, ho', _, _, hn⟩ := H.frs e' he
   rw [hf] at hL; cases hL
   rw [e] at hn; cases hn
  rw [h2 this] at h1; exact h1
 ·obtain ⟨o, h1, h2⟩ := H.obj n c a hc ha
  obtain ⟨sl, h3, h4⟩ := x.keep a o h1 (.inl (mem_of_getElem? ha))
  rw [h4 (H.noFr (mem_of_getElem? ha))] at h3
  exact ⟨o, h3, h2.mono (fun zz zz e => e) (x.still H)⟩
 ·obtain ⟨k, L, o, h1, h2, ⟨es, n, h3⟩, h4, h5⟩ := H.frs e he
  obtain ⟨sl, h6, _⟩ := x.keep L o h2 (.inr (.inr fun ws q => by rw [h3] at q; cases q))
  exact ⟨k, L, _, h1, h6, ⟨es, n, h3⟩, h4, h5⟩
theorem nA.junk (e : nA G sc env own μ ρ s) (H : bK G fr μ hp s) (x : nF fr μ lo s s') : nA G sc env own μ ρ s' where
 ok := e.ok
 ownp := fun a ha => by
  obtain ⟨h1, h2, o, ho, hk⟩ := e.ownp a ha
  obtain ⟨sl, h3, _⟩ := x.keep a o ho (.inr (.inr fun ws q => hk.noFields q))
  exact ⟨h1, h2, _, h3, hk⟩
 lown := e.lown
 loc := by
  obtain ⟨m, hn, hm⟩ := e.loc
  refine ⟨m, uU hn fun o ho => ?_, fun y v hy hk => ?_⟩
  ·obtain ⟨o', es, ep, ho', hd, _⟩ := hn
   rw [ho] at ho'; cases ho'
   obtain ⟨sl, h3, _⟩ := x.keep _ o ho (.inr (.inr fun ws q => by rw [hd] at q; cases q))
   exact ⟨sl, h3⟩
  ·obtain ⟨w, h1, h2⟩ := hm y v hy hk
   exact ⟨w, h1, h2.mono (fun zz zz e => e) (x.still H)⟩
 cel := fun y v hy => by
  rcases e.cel y v hy with q | ⟨q, c, w, h1, h2, h3⟩
  ·exact .inl q
  ·refine .inr ⟨q, c, w, h1, rP h2 fun o ho => ?_, h3.mono (fun zz zz e => e) (x.still H)⟩
   obtain ⟨o', ho', hd⟩ := h2
   rw [ho] at ho'; cases ho'
   obtain ⟨sl, h3, _⟩ := x.keep _ o ho (.inr (.inr fun ws q => by rw [hd] at q; cases q))
   exact ⟨sl, h3⟩
 cells := fun y c hy => by
  obtain ⟨⟨w, o, ho, hd⟩, h2, h3⟩ := e.cells y c hy
  obtain ⟨sl, h4, _⟩ := x.keep _ o ho (.inr (.inr fun ws q => by rw [hd] at q; cases q))
  exact ⟨⟨w, _, h4, hd⟩, h2, h3⟩
 cown := e.cown
 cnot := e.cnot
theorem cN.junk {eE : List Addr} {wX : AH} {jI : Shared} (y : cN own fr eE wX jI μ hp s) (H : bK G fr μ hp s) (K : DJ own s) (hlen : eE.length = wX.length) (x : nF fr μ jI.heap s s') : cN own fr eE wX jI μ hp s' where
 pre := y.pre
 same := by
  obtain ⟨h', tk, rfl⟩ := y.same
  obtain ⟨h'', tk', rfl⟩ := x.same
  exact ⟨h'', tk', rfl⟩
 alive := fun b o h => by
  obtain ⟨o', h'⟩ := y.alive b o h
  obtain ⟨sl, h1, _⟩ := x.keep b o' h' (.inr (.inl (by rw [h]; rfl)))
  exact ⟨_, h1⟩
 keep := fun b o h hm ho => by
  obtain ⟨sl, h1, h2⟩ := y.keep b o h hm ho
  obtain ⟨sl', h3, h4⟩ := x.keep b _ h1 (.inr (.inl (by rw [h]; rfl)))
  exact ⟨sl', h3, fun hf => (h4 hf).trans (h2 hf)⟩
 vers := fun n c hc => by
  obtain ⟨c', h1, h2, h3⟩ := y.vers n c hc
  refine ⟨c', h1, h2, fun e => ?_⟩
  obtain ⟨r, k⟩ := h3 e
  refine ⟨r, fun a ha => ?_⟩
  obtain ⟨o, ho, hor⟩ := H.obj n c' a h1 (y.mu ha)
  have hm : a ∈ μ := mem_of_getElem? (y.mu ha)
  obtain ⟨sl, h4, h5⟩ := x.keep a o ho (.inl hm)
  rw [h5 (H.noFr hm)] at h4
  rw [h4, <- ho]; exact k a ha
theorem FA {h : Heap} {l : List Addr} {b : Addr} {o : Obj} (e : h.get? b = some o) (hb : b ∉ l) : (hideAll h l).get? b = some o := hideAll_get l e hb
theorem bK.funFrames (H : bK G fr μ hp s) {l : List Addr} (hl : ∀ a ∈ sP fr, a ∈ l) : s.heap.FunFrames (hideAll s.heap l) fr := by
 have go : ∀ fr' : List Env, (∀ e ∈ fr', e ∈ fr) -> s.heap.FunFrames (hideAll s.heap l) fr' := by
  intro fr'
  induction fr' with
  | nil => intro _; trivial
  | cons e r ih =>
   intro hin
   obtain ⟨k, L, o, h1, h2, ⟨es, n, h3⟩, _⟩ := H.frs e (hin e mem_cons_self)
   refine ⟨by rw [k]; decide, ⟨L, o, h1, hideAll_none l (hl L (mem_filterMap.mpr ⟨e, hin e mem_cons_self, h1⟩)), h2, fun vs q => by rw [h3] at q; cases q⟩, ih fun e' he' => hin e' (mem_cons_of_mem _ he')⟩
 exact go fr fun e he => he
theorem Q_ {e : Addr} {J : List Addr} {h' : Heap} {tk : Nat} (H : bK G fr μ hp s) (hb : (hideAll s.heap (sP fr ++ J)).StaysIn h') (hu : s.heap.UpToSlots h') (hJ : ∀ j ∈ J, j ∉ μ /\ lo.get? j = none /\ ∃ o vs, s.heap.get? j = some o /\ o.data = .fields vs) :
  nF fr μ lo s { s with heap := h', toks := tk } := by
 refine ⟨⟨h', tk, rfl⟩, fun b o h hk => ?_⟩
 have hbJ : b ∉ J := fun hm => by
  obtain ⟨j1, j2, oj, vs, j3, j4⟩ := hJ b hm
  rcases hk with q | q | q
  ·exact j1 q
  ·rw [j2] at q; cases q
  ·rw [h] at j3; cases j3; exact q _ j4
 by_cases hf : b ∈ sP fr
 ·have hn : ∀ vs, o.data ≠ .fields vs := fun vs q => by
   obtain ⟨e', he, hf'⟩ := mem_filterMap.mp hf
   obtain ⟨_, L, o', hL, ho', ⟨es, n, q'⟩, _⟩ := H.frs e' he
   rw [hf'] at hL; cases hL
   rw [h] at ho'; cases ho'
   rw [q] at q'; cases q'
  obtain ⟨sl, hs⟩ := hu b o h hn
  exact ⟨sl, hs, fun q => absurd hf q⟩
 ·exact ⟨o.slots, hb b o (FA h fun hm => (mem_append.mp hm).elim hf hbJ), fun zz => rfl⟩
end
section
variable {G : a_} {sc : SC} {outer : List Env} {env : Env} {own μ : List Addr} {hp : AH} {ρ : List (String × AV)} {lo : Heap} {s s' : Shared} {M : Model} {A : Around} {E : Value -> Shared -> Prop} {e L : Addr} {cls : Value}
noncomputable def HN (lo h : Heap) : Prop := ∀ b o, lo.get? b = some o -> ∃ o', h.get? b = some o'
theorem FD {fr : List Env} {J : List Addr} {h' : Heap} {T : Addr} {oT : Obj} {ts : Array Value} (H : bK G fr μ hp s) (hT : h'.get? T = some oT) (hTd : oT.data = .fields ts) (hbT : (hideAll s.heap (sP fr ++ J)).get? T = none)
  (hu : s.heap.UpToSlots h') (hJ : ∀ j ∈ J, j ∉ μ /\ G.h₀.get? j = none /\ lo.get? j = none) (ha : HN lo s.heap) : T ∉ μ /\ G.h₀.get? T = none /\ lo.get? T = none := by
 have key : s.heap.get? T = none \/ T ∈ J := by
  cases e : s.heap.get? T with
  | none => exact .inl rfl
  | some o =>
   by_cases hj : T ∈ J
   ·exact .inr hj
   ·by_cases hf : T ∈ sP fr
    ·exfalso
     obtain ⟨e', he, hf'⟩ := mem_filterMap.mp hf
     obtain ⟨_, L', o', hL, ho', ⟨es, n, q'⟩, _⟩ := H.frs e' he
     rw [hf'] at hL; cases hL
     rw [e] at ho'; cases ho'
     obtain ⟨sl, hs⟩ := hu T o e fun ws q => by rw [q'] at q; cases q
     rw [hT] at hs; cases hs
     simp only at hTd
     rw [q'] at hTd; cases hTd
    ·rw [hideAll_get _ e fun hm => (mem_append.mp hm).elim hf hj] at hbT; cases hbT
 rcases key with q | q
 ·refine ⟨fun hm => ?_, ?_, ?_⟩
  ·have := H.lt hm
   obtain ⟨n, hn⟩ := List.getElem?_of_mem hm
   have hlt := (List.getElem?_eq_some_iff.mp hn).1
   rw [H.len] at hlt
   obtain ⟨o', ho', _⟩ := H.obj n hp[n] T (getElem?_eq_getElem hlt) hn
   rw [q] at ho'; cases ho'
  ·cases e : G.h₀.get? T with
   | none => rfl
   | some o => have := H.base _ _ e; rw [q] at this; cases this
  ·cases e : lo.get? T with
   | none => rfl
   | some o => obtain ⟨o', h'⟩ := ha _ _ e; rw [q] at h'; cases h'
 ·exact hJ T q
theorem sL {Q : Unit -> Shared -> Prop} {st : pM} (hfr : A.frames = some (env :: outer)) (hf : env.frame = some L) (H : bK G (env :: outer) μ hp s) (ha : HN lo s.heap) (F : tU G μ lo e cls s.heap st) (hst : st = .new \/ st = .out .none \/ st = .out (rawInt L))
  (hQ : ∀ h', nF (env :: outer) μ lo s { s with heap := h' } -> tU G μ lo e cls h' (.out (rawInt L)) -> Q () { s with heap := h' }) : wpAny M A (noteFrame (.ref e) env) Q E s := by
 refine Mine.hold fun gL bk => ?_
 obtain ⟨oe, vs, a0, he, hcls, hd, h0, hem, heh, hel, htr⟩ := F
 refine bk ?_; clear bk gL
 have done : ∀ (J : List Addr), e ∈ J -> (∀ j ∈ J, j ∉ μ /\ G.h₀.get? j = none /\ lo.get? j = none /\ ∃ o vs, s.heap.get? j = some o /\ o.data = .fields vs) -> ∀ h', Heap.NotedW (hideAll s.heap (sP (env :: outer) ++ J)) (env :: outer) e cls a0 (rawInt L) s.heap h' -> Q () { s with heap := h' } := by
  intro J heJ hJ h' hN
  obtain ⟨k1, k2, ⟨oe', vs', T, oT, ts, g1, ⟨g2, g3⟩, g4, g5, g6, g7, g8, g9, g10⟩, k4⟩ := hN
  have x := Q_ (lo := lo) (e := e) (J := J) (tk := s.toks) H k1 k4 fun j hj => ⟨(hJ j hj).1, (hJ j hj).2.2.1, (hJ j hj).2.2.2⟩
  obtain ⟨t1, t2, t3⟩ := FD H g8 g9 g6 k4 (fun j hj => ⟨(hJ j hj).1, (hJ j hj).2.1, (hJ j hj).2.2.1⟩) ha
  exact hQ h' x ⟨oe', vs', a0, g1, g2, g4, g3, hem, heh, hel, T, oT, ts, g5, g7, g8, g9, g10, t1, t2, t3⟩
 have hJe : ∀ j ∈ [e], j ∉ μ /\ G.h₀.get? j = none /\ lo.get? j = none /\ ∃ o vs, s.heap.get? j = some o /\ o.data = .fields vs := fun j hj => by
  rw [mem_singleton.mp hj]; exact ⟨hem, heh, hel, oe, vs, he, hd⟩
 cases st with
 | new =>
  have h1 : vs[1]? = some .none := htr
  unfold noteFrame
  simp only [hf]
  refine wpAny_bind (wpAny_field he hd h1 ?_)
  rw [if_neg (by decide)]
  subst hcls
  exact wpAny_entryW hfr (H.funFrames fun a ha => mem_append_left _ ha) hf he (fun b o q => of_hideAll _ q) (hideAll_none _ (by simp)) hd (Array.getElem?_eq_some_iff.mp h1).1 h0 (done [e] (by simp) hJe)
 | out fl =>
  refine Mine.hold fun gL bk => ?_
  obtain ⟨T, oT, ts, g5, g7, g8, g9, g10, t1, t2, t3⟩ := htr
  refine bk ?_; clear bk gL
  have hJ : ∀ j ∈ [e, T], j ∉ μ /\ G.h₀.get? j = none /\ lo.get? j = none /\ ∃ o vs, s.heap.get? j = some o /\ o.data = .fields vs := fun j hj => by
   rcases mem_cons.mp hj with q | q
   ·rw [q]; exact ⟨hem, heh, hel, oe, vs, he, hd⟩
   ·rw [mem_singleton.mp q]; exact ⟨t1, t2, t3, oT, ts, g8, g9⟩
  have tr : s.heap.TracedAtW (hideAll s.heap (sP (env :: outer) ++ [e, T])) e cls a0 fl := ⟨oe, vs, T, oT, ts, he, ⟨hcls, h0⟩, hd, g5, hideAll_none _ (by simp), g7, g8, g9, g10⟩
  rcases hst with q | q | q
  ·cases q
  ·cases q
   exact wpAny_noteFrame_onW hfr (H.funFrames fun a ha => mem_append_left _ ha) hf tr (fun b o q => of_hideAll _ q) (hideAll_none _ (by simp)) (done [e, T] (by simp) hJ)
  ·cases q
   refine wpAny_noteFrame_againW hf tr (hQ s.heap nF.refl ⟨oe, vs, a0, he, hcls, hd, h0, hem, heh, hel, T, oT, ts, g5, g7, g8, g9, g10, t1, t2, t3⟩)
theorem lJ {fr : List Env} {Q : Unit -> Shared -> Prop} {fl : Value} (x : Option Addr) (H : bK G fr μ hp s) (F : tU G μ lo e cls s.heap (.out fl))
  (hQ : ∀ h', nF fr μ lo s { s with heap := h' } -> tU G μ lo e cls h' (.out (x.elim .none fun f => rawInt f)) -> Q () { s with heap := h' }) : wpAny M A (setFlight (.ref e) x) Q E s := by
 refine Mine.hold fun gL bk => ?_
 obtain ⟨oe, vs, a0, he, hcls, hd, h0, hem, heh, hel, T, oT, ts, g5, g7, g8, g9, g10, t1, t2, t3⟩ := F
 refine bk ?_; clear bk gL
 unfold setFlight
 refine wpAny_bind (wpAny_field he hd g5 ?_)
 rw [if_pos (show (Value.ref T != Value.none) = true from by simp)]
 have hsz : 3 < ts.size := (Array.getElem?_eq_some_iff.mp g10).1
 have other : ∀ (y : Value) b, b ≠ T -> (s.heap.update T (Obj.mapFields (·.setIfInBounds 3 y))).get? b = s.heap.get? b := fun y b hb => Heap.get?_update_other _ _ (Ne.symm hb)
 refine wpAny_setField g8 g9 hsz (hQ _ ⟨⟨_, s.toks, rfl⟩, fun b o h hk => ?_⟩ ?_)
 ·refine ⟨o.slots, (other _ b fun q => ?_).trans h, fun zz => rfl⟩
  subst q
  rcases hk with q | q | q
  ·exact t1 q
  ·rw [t3] at q; cases q
  ·rw [h] at g8; cases g8; exact q _ g9
 ·exact ⟨oe, vs, a0, (other _ e (Ne.symm g7)).trans he, hcls, hd, h0, hem, heh, hel, T, _, _, g5, g7, Heap.get?_update_self _ g8 (Obj.isFreed_of_fields (Obj.data_mapFields g9 _)), Obj.data_mapFields g9 _, by simp [hsz], t1, t2, t3⟩
theorem IY {Q : Value -> Shared -> Prop} {fl : Value} {fr : List Env} (hf : env.frame = some L) (H : bK G fr μ hp s) (F : tU G μ lo e cls s.heap (.out fl))
  (hQ : ∀ h', nF fr μ lo s { s with heap := h' } -> tU G μ lo e cls h' (.out (rawInt L)) -> E (.ref e) { s with heap := h' }) : cameBackBy M A env E (.ref e) s := by
 have F' := F
 refine Mine.hold fun gL bk => ?_
 obtain ⟨oe, vs, a0, he, hcls, hd, h0, hem, heh, hel, T, oT, ts, g5, g7, g8, g9, g10, t1, t2, t3⟩ := F
 refine bk ?_; clear bk gL
 unfold cameBackBy
 refine wpAny_bind (wpAny_field he hd g5 ?_)
 rw [if_neg (show ¬ ((Value.ref T == Value.none) = true) from by simp)]
 have st := lJ (M := M) (A := A) (E := E) (Q := fun zz s'' => E (.ref e) s'') (some L) H F' fun h' x y => hQ h' x y
 rw [<- hf] at st
 first
  | exact wpAny_bind (wpAny_pure st)
  | exact st
theorem FP {Q : Unit -> Shared -> Prop} {st : pM} (hfr : A.frames = some (env :: outer)) (hf : env.frame = some L) (H : bK G (env :: outer) μ hp s) (hh : G.h₀.StaysIn lo) (ha : HN lo s.heap) (F : tU G μ lo e cls s.heap st) (hst : st = .new \/ st = .out .none \/ st = .out (rawInt L))
  (hQ : ∀ h', nF (env :: outer) μ lo s { s with heap := h' } -> tU G μ lo e cls h' (.out .none) -> Q () { s with heap := h' }) : wpAny M A (leaving env (.ref e)) Q E s := by
 unfold leaving
 refine wpAny_bind (sL hfr hf H ha F hst fun h' x F' => ?_)
 refine lJ none (H.junk hh x) F' fun h'' x' F'' => ?_
 exact hQ h'' (x.trans x') F''
end
inductive aN where
 | next | brk | cont
 | ret (v : AV)
 | exc (k : String)
inductive j6 (G : a_) (μ : List Addr) (h : Heap) : aN -> Flow -> Prop
 | next : j6 G μ h .next .next
 | brk : j6 G μ h .brk .brk
 | cont : j6 G μ h .cont .cont
 | ret {v : AV} {w : Value} : VR G μ h v w -> j6 G μ h (.ret v) (.ret w)
noncomputable def eK (G : a_) (k : String) : Value := match G.addr k with
 | some a => .ref a
 | none => .type k
noncomputable def KE (env : Env) (sf : pM) : Prop := sf = .new \/ sf = .out .none \/ sf = .out (rawInt env.locals)
noncomputable def Z_ (G : a_) (sc : SC) (hd : Bool) (d : Nat) (m : AM aN) (t : Env -> Sem Flow) : Prop :=
 ∀ (A : Around) (outer : List Env) (env : Env) (own μ : List Addr) (st : AS) (s : Shared) (fl : aN) (st' : AS), tG A (env :: outer) hd d -> env.frame = some env.locals -> fJ G sc (env :: outer) env own μ st s -> m st = some (fl, st') ->
  ∀ (Q : Flow -> Shared -> Prop) (E : Value -> Shared -> Prop),
   (∀ f s' bM, XT own (env :: outer) μ st s bM st' s' -> fJ G sc (env :: outer) env own bM st' s' -> j6 G bM s'.heap fl f -> Q f s') ->
   (∀ e k s' bM sf, fl = .exc k -> XT own (env :: outer) μ st s bM st' s' -> fJ G sc (env :: outer) env own bM st' s' -> tU G bM s.heap e (eK G k) s'.heap sf -> KE env sf -> E (.ref e) s') -> wpAny G.M A (t env) Q E s
abbrev gV (G : a_) (sc : SC) (hd : Bool) (d : Nat) (m : AM aN) (b : List Stmt) : Prop := Z_ G sc hd d m (fun env => execs b env)
abbrev jY (G : a_) (sc : SC) (hd : Bool) (d : Nat) (m : AM aN) (b : Stmt) : Prop := Z_ G sc hd d m (fun env => exec b env)
noncomputable def JE (G : a_) (sc : SC) (hd : Bool) (d : Nat) (m : AM (Except String AV)) (e : Expr) : Prop :=
 ∀ (A : Around) (outer : List Env) (env : Env) (own μ : List Addr) (st : AS) (s : Shared) (r : Except String AV) (st' : AS), tG A (env :: outer) hd d -> env.frame = some env.locals -> fJ G sc (env :: outer) env own μ st s -> m st = some (r, st') ->
  ∀ (Q : Value -> Shared -> Prop) (E : Value -> Shared -> Prop),
   (∀ v w s' bM, r = .ok v -> XT own (env :: outer) μ st s bM st' s' -> fJ G sc (env :: outer) env own bM st' s' -> VR G bM s'.heap v w -> Q w s') ->
   (∀ e k s' bM sf, r = .error k -> XT own (env :: outer) μ st s bM st' s' -> fJ G sc (env :: outer) env own bM st' s' -> tU G bM s.heap e (eK G k) s'.heap sf -> KE env sf -> E (.ref e) s') -> wpAny G.M A (eval e env) Q E s
section
variable {G : a_} {sc : SC} {hd : Bool} {d : Nat}
theorem tU.weaken {μ : List Addr} {lo lo' : Heap} {e : Addr} {cls : Value} {h : Heap} {st : pM} (F : tU G μ lo e cls h st) (k : HN lo' lo) : tU G μ lo' e cls h st := by
 have low : ∀ b, lo.get? b = none -> lo'.get? b = none := fun b hb => by
  cases q : lo'.get? b with
  | none => rfl
  | some o => obtain ⟨o', h'⟩ := k b o q; rw [hb] at h'; cases h'
 obtain ⟨oe, vs, a0, he, hcls, hd, h0, hem, heh, hel, htr⟩ := F
 refine ⟨oe, vs, a0, he, hcls, hd, h0, hem, heh, low _ hel, ?_⟩
 cases st with
 | new => exact htr
 | out fl =>
  obtain ⟨T, oT, ts, g5, g7, g8, g9, g10, t1, t2, t3⟩ := htr
  exact ⟨T, oT, ts, g5, g7, g8, g9, g10, t1, t2, low _ t3⟩
noncomputable def bU (m k : AM aN) : AM aN := do
 let f <- m
 match f with
 | .next => k
 | f => pure f
theorem cP : gV G sc hd d (pure .next) [] := by
 intro A outer env own μ st s fl st' hA hf I hm Q E h hE
 cases hm; exact wpAny_execs_nil (h _ _ _ cN.refl I .next)
theorem aE {m k : AM aN} {b : Stmt} {r : List Stmt} (S : jY G sc hd d m b) (T : gV G sc hd d k r) : gV G sc hd d (bU m k) (b :: r) := by
 intro A outer env own μ st s fl st' hA hf I hm Q E h hE
 obtain ⟨f, st₁, h1, h2⟩ := aF hm
 refine wpAny_execs_cons (S A outer env own μ st s f st₁ hA hf I h1 _ _ (fun f' aB aD aT aJ bH => ?_) fun e k aB aD sf e1 aT aJ F hs => ?_)
 ·cases bH with
  | next => exact T A outer env own aD st₁ aB fl st' hA hf aJ h2 Q E (fun f'' bQ bY bJ bF dE => h _ _ _ (I.trans aT bJ) bF dE) fun e k bQ bY sf e1 bJ bF F hs => hE e k bQ bY sf e1 (I.trans aT bJ) bF (F.weaken aT.alive) hs
  | brk => cases h2; exact h _ _ _ aT aJ .brk
  | cont => cases h2; exact h _ _ _ aT aJ .cont
  | ret r => cases h2; exact h _ _ _ aT aJ (.ret r)
 ·subst e1
  cases h2
  exact hE e k aB aD sf rfl aT aJ F hs
theorem aP {m : AM aN} {b : Stmt} (S : jY G sc hd d m b) : gV G sc hd d m [b] := by
 intro A outer env own μ st s fl st' hA hf I hm Q E h hE
 refine wpAny_execs_cons (S A outer env own μ st s fl st' hA hf I hm _ _ (fun f' aB aD aT aJ bH => ?_) hE)
 cases bH with
 | next => exact wpAny_execs_nil (h _ _ _ aT aJ .next)
 | brk => exact h _ _ _ aT aJ .brk
 | cont => exact h _ _ _ aT aJ .cont
 | ret r => exact h _ _ _ aT aJ (.ret r)
theorem vP {pos : Pos} : jY G sc hd d (pure .brk) (.Break pos) := by
 intro A outer env own μ st s fl st' hA hf I hm Q E h hE
 cases hm; exact wpAny_Break (h _ _ _ cN.refl I .brk)
theorem xS {pos : Pos} : jY G sc hd d (pure .cont) (.Continue pos) := by
 intro A outer env own μ st s fl st' hA hf I hm Q E h hE
 cases hm; exact wpAny_Continue (h _ _ _ cN.refl I .cont)
noncomputable def lT (m : AM AV) : AM aN := do
 let v <- m
 pure (.ret v)
theorem dW {m : AM AV} {e : Expr} {pos : Pos} (S : b_ G sc hd d m e) : jY G sc hd d (lT m) (.Return (some e) pos) := by
 intro A outer env own μ st s fl st' hA hf I hm Q E h hE
 refine wpAny_Return_some (aQ S hA I hm fun v st₁ w aB aD bP aT aJ bH => ?_)
 cases bP
 exact h _ _ _ aT aJ (.ret bH)
noncomputable def jR (t : AM Bool) (m k : AM aN) : AM aN := do
 let b <- t
 if b = true then m else k
theorem dC {t : AM Bool} {m k : AM aN} {e : Expr} {PE PF : List Stmt} {pos : Pos} (S : wK G sc hd d t e) (qK : gV G sc hd d m PE) (qL : gV G sc hd d k PF) : jY G sc hd d (jR t m k) (.If e PE PF pos) := by
 intro A outer env own μ st s fl st' hA hf I hm Q E h hE
 refine wpAny_If (aQ S hA I hm fun x st₁ a aB aD bP aT aJ bH => ?_)
 subst bH
 cases x with
 | true => exact qK A outer env own aD st₁ aB fl st' hA hf aJ bP Q E (fun f'' bQ bY bJ bF dE => h _ _ _ (I.trans aT bJ) bF dE) fun e k bQ bY sf e1 bJ bF F hs => hE e k bQ bY sf e1 (I.trans aT bJ) bF (F.weaken aT.alive) hs
 | false => exact qL A outer env own aD st₁ aB fl st' hA hf aJ bP Q E (fun f'' bQ bY bJ bF dE => h _ _ _ (I.trans aT bJ) bF dE) fun e k bQ bY sf e1 bJ bF F hs => hE e k bQ bY sf e1 (I.trans aT bJ) bF (F.weaken aT.alive) hs
theorem nE {env : Env} (ok : HX sc env) : interactive env = false := by
 unfold interactive; rw [ok.fn]; rfl
noncomputable def fP (m : AM AV) : AM aN := do
 let _ <- m
 pure .next
theorem cL {m : AM AV} {e : Expr} {pos : Pos} (S : b_ G sc hd d m e) (hs : autoParam (∀ env : Env, swapsWith e none pos.line env = pure false) aR) : jY G sc hd d (fP m) (.Expr e pos) := by
 intro A outer env own μ st s fl st' hA hf I hm Q E h hE
 refine wpAny_Expr_any (aQ S hA I hm fun v st₁ w aB aD bP aT aJ bH => ?_) (nE I.e.ok) (hs env)
 cases bP
 exact h _ _ _ aT aJ .next
noncomputable def A_ (m : AM (Except String AV)) : AM aN := do
 let r <- m
 match r with
 | .ok _ => pure .next
 | .error k => pure (.exc k)
theorem wD {m : AM (Except String AV)} {e : Expr} {pos : Pos} (S : JE G sc hd d m e) (hs : autoParam (∀ env : Env, swapsWith e none pos.line env = pure false) aR) : jY G sc hd d (A_ m) (.Expr e pos) := by
 intro A outer env own μ st s fl st' hA hf I hm Q E h hE
 obtain ⟨r, st₁, h1, h2⟩ := aF hm
 refine wpAny_Expr_any (S A outer env own μ st s r st₁ hA hf I h1 _ _ (fun v w aB aD e1 aT aJ bH => ?_) fun e k aB aD sf e1 aT aJ F hs => ?_) (nE I.e.ok) (hs env)
 ·subst e1; cases h2; exact h _ _ _ aT aJ .next
 ·subst e1; cases h2; exact hE _ _ _ _ _ rfl aT aJ F hs
noncomputable def d_ (sc : SC) (x : String) : Prop := sc.scope.names.lookup (Str.ofString x) = some .local \/ (sc.scope.names.lookup (Str.ofString x) = some .cell /\ Str.ofString x ∈ sc.wr)
theorem yS {fr : List Env} {env : Env} {own μ : List Addr} {st : AS} {s : Shared} {a : Addr} {h' : Heap} {tk : Nat} {o' : Obj} (I : fJ G sc fr env own μ st s) (ha : a ∈ own) (hs : Heap.SameBut a s.heap h') (ho : h'.get? a = some o')
  (hk : ∀ o, s.heap.get? a = some o -> (∃ es n, o.data = .dict es n) -> ∃ es n, o'.data = .dict es n) : bK G fr μ st.hp { s with heap := h', toks := tk } /\ cN own fr μ st.hp s μ st.hp { s with heap := h', toks := tk } /\ eU μ μ s.heap h' := by
 obtain ⟨h1, h2, oa, hoa, hl⟩ := I.e.ownp a ha
 have still : eU μ μ s.heap h' := by
  rintro b o hb hc zI4 hmm
  obtain ⟨vs, n, hd⟩ := zI4
  refine ⟨hmm, (hs.2 b fun q => ?_).trans hb⟩
  subst q
  rw [hoa] at hb; cases hb
  exact hl.noTup hc ⟨vs, n, hd⟩
 refine ⟨⟨fun b o e => ?_, I.h.len, I.h.nod, fun n c b hc hb => ?_, I.h.low, fun e he => ?_⟩, ⟨⟨[], by simp, by simp⟩, ⟨h', tk, rfl⟩, fun b o e => ?_, fun b o e hm hb => ⟨o.slots, (hs.2 b fun q => hb (q ▸ ha)).trans e, fun zz => rfl⟩, fun n c hc => ⟨c, hc, Nat.le_refl _, fun zz => ⟨rfl, fun b hb => hs.2 b fun q => h1 (q ▸ mem_of_getElem? hb)⟩⟩⟩, still⟩
 ·refine (hs.2 b fun q => ?_).trans (I.h.base b o e)
  subst q; rw [h2] at e; cases e
 ·obtain ⟨o, g1, g2⟩ := I.h.obj n c b hc hb
  exact ⟨o, (hs.2 b fun q => h1 (q ▸ mem_of_getElem? hb)).trans g1, g2.mono (fun zz zz e => e) still⟩
 ·obtain ⟨k, L, o, g1, g2, g3, g4, g5⟩ := I.h.frs e he
  by_cases q : L = a
  ·subst q
   exact ⟨k, L, o', g1, ho, hk o g2 g3, g4, g5⟩
  ·exact ⟨k, L, o, g1, (hs.2 L q).trans g2, g3, g4, g5⟩
 ·by_cases q : b = a
  ·exact ⟨_, q ▸ ho⟩
  ·exact ⟨_, (hs.2 b q).trans e⟩
theorem hM {x y : String} {v w : AV} {ρ : List (String × AV)} (h : (put x v ρ).lookup y = some w) : (y = x /\ w = v) \/ (y ≠ x /\ ρ.lookup y = some w) := by
 rw [kX] at h
 by_cases q : y = x
 ·rw [if_pos q] at h; cases h; exact .inl ⟨q, rfl⟩
 ·rw [if_neg q] at h; exact .inr ⟨q, h⟩
theorem jS {A : Around} {fr : List Env} {env : Env} {own μ : List Addr} {st : AS} {s : Shared} {x : String} {v : AV} {w : Value} {Q : Unit -> Shared -> Prop} {E : Value -> Shared -> Prop} (I : fJ G sc fr env own μ st s) (r : VR G μ s.heap v w) (hx : d_ sc x)
  (h : ∀ s', cN own fr μ st.hp s μ st.hp s' -> fJ G sc fr env own μ { st with env := put x v st.env } s' -> Q () s') : wpAny G.M A (storeName env (Str.ofString x) w) Q E s := by
 have hko : env.kindOf (Str.ofString x) = sc.scope.names.lookup (Str.ofString x) := by unfold Env.kindOf; rw [I.e.ok.scope]
 have ne : ∀ {y : String}, y ≠ x -> Str.ofString y ≠ Str.ofString x := fun q e => q (kA e)
 rcases hx with hl | ⟨hl, hw⟩
 ·obtain ⟨m, hn, hm⟩ := I.e.loc
  refine wpAny_storeName_local (hko.trans hl) hn (fun h' hn' hs' => ?_) (by rw [I.e.ok.fn]; rfl)
  obtain ⟨o', es', ep', ho', hd', hr'⟩ := id hn'
  obtain ⟨H', x', still⟩ := yS (tk := s.toks + 1) I I.e.lown hs' ho' fun zz zz zz => ⟨_, _, hd'⟩
  refine h _ x' ⟨H', ?_⟩
  refine ⟨I.e.ok, fun a ha => ?_, I.e.lown, ⟨_, hn', fun y u hy hk => ?_⟩, fun y u hy => ?_, fun y c hy => ?_, I.e.cown, I.e.cnot⟩
  ·obtain ⟨g1, g2, o, g3, g4⟩ := I.e.ownp a ha
   by_cases q : a = env.locals
   ·exact ⟨g1, g2, o', q ▸ ho', .inl ⟨_, _, hd'⟩⟩
   ·exact ⟨g1, g2, o, (hs'.2 a q).trans g3, g4⟩
  ·rcases hM hy with ⟨q, rfl⟩ | ⟨q, hy'⟩
   ·subst q; exact ⟨w, by simp, r.mono (fun zz zz e => e) still⟩
   ·obtain ⟨w', g1, g2⟩ := hm y u hy' hk
    exact ⟨w', by simp only [if_neg (ne q)]; exact g1, g2.mono (fun zz zz e => e) still⟩
  ·rcases hM hy with ⟨q, rfl⟩ | ⟨q, hy'⟩
   ·subst q; exact .inl (hko.trans hl)
   ·rcases I.e.cel y u hy' with q' | ⟨q', c, w', g1, g2, g3⟩
    ·exact .inl q'
    ·exact .inr ⟨q', c, w', g1, g2.sameBut hs' (I.e.cells _ _ g1).2.2, g3.mono (fun zz zz e => e) still⟩
  ·obtain ⟨⟨w', g1⟩, g2, g3⟩ := I.e.cells y c hy
   exact ⟨⟨w', g1.sameBut hs' g3⟩, g2, g3⟩
 ·obtain ⟨c, hc, hco⟩ := I.e.cown _ hw
  obtain ⟨⟨O1, hcell⟩, hcm, hcl⟩ := I.e.cells _ c hc
  refine wpAny_storeName_cell I.e.ok.fn (hko.trans hl) hc hcell fun h' hc' hs' => ?_
  obtain ⟨o', ho', hd'⟩ := id hc'
  obtain ⟨H', x', still⟩ := yS (tk := s.toks) I hco hs' ho' fun o ho ⟨es, n, q⟩ => by
   obtain ⟨O2, g1, g2⟩ := hcell
   rw [ho] at g1; cases g1; rw [q] at g2; cases g2
  have capart : ∀ {y : PySem.Str} {c' : Addr}, env.cells.lookup y = some c' -> y ≠ Str.ofString x -> c' ≠ c := fun hy q e => q (name_of_addr I.e.ok.apart (mem_of_lookup hy) (e ▸ mem_of_lookup hc))
  refine h _ x' ⟨H', ?_⟩
  refine ⟨I.e.ok, fun a ha => ?_, I.e.lown, ?_, fun y u hy => ?_, fun y c' hy => ?_, I.e.cown, I.e.cnot⟩
  ·obtain ⟨g1, g2, o, g3, g4⟩ := I.e.ownp a ha
   by_cases q : a = c
   ·exact ⟨g1, g2, o', q ▸ ho', .inr (.inl ⟨_, hd'⟩)⟩
   ·exact ⟨g1, g2, o, (hs'.2 a q).trans g3, g4⟩
  ·obtain ⟨m, hn, hm⟩ := I.e.loc
   refine ⟨m, hn.sameBut hs' (Ne.symm hcl), fun y u hy hk => ?_⟩
   rcases hM hy with ⟨q, rfl⟩ | ⟨q, hy'⟩
   ·subst q; rw [hko, hl] at hk; cases hk
   ·obtain ⟨w', g1, g2⟩ := hm y u hy' hk
    exact ⟨w', g1, g2.mono (fun zz zz e => e) still⟩
  ·rcases hM hy with ⟨q, rfl⟩ | ⟨q, hy'⟩
   ·subst q; exact .inr ⟨.inl (hko.trans hl), c, w, hc, hc', r.mono (fun zz zz e => e) still⟩
   ·rcases I.e.cel y u hy' with q' | ⟨q', c', w', g1, g2, g3⟩
    ·exact .inl q'
    ·exact .inr ⟨q', c', w', g1, g2.sameBut hs' (capart g1 (ne q)), g3.mono (fun zz zz e => e) still⟩
  ·obtain ⟨⟨w', g1⟩, g2, g3⟩ := I.e.cells y c' hy
   by_cases q : c' = c
   ·subst q; exact ⟨⟨_, hc'⟩, g2, g3⟩
   ·exact ⟨⟨w', g1.sameBut hs' q⟩, g2, g3⟩
noncomputable def cD (x : String) (v : AV) : AM Unit := ⟨fun st => some ((), { st with env := put x v st.env }), fun Q st => Q () ⟨put x v st.env, st.hp⟩, fun h => ⟨(), _, rfl, h⟩, fun h k => k _ _ h⟩
noncomputable def dZ (x : String) (m : AM AV) : AM aN := do
 let v <- m
 cD x v
 pure .next
theorem bZ {x : String} {m : AM AV} {e : Expr} {p pos : Pos} (S : b_ G sc hd d m e) (hx : d_ sc x) (hs : autoParam (∀ env : Env, swapsWith e (some (.Name (Str.ofString x) p)) pos.line env = pure false) aR) : jY G sc hd d (dZ x m) (.Assign [.Name (Str.ofString x) p] e pos) := by
 intro A outer env own μ st s fl st' hA hf I hm Q E h hE
 refine wpAny_Assign_Name (aQ S hA I hm fun v st₁ w aB aD bP aT aJ bH => ?_) (hs env)
 cases bP
 exact jS aJ bH hx fun bQ bJ bF => h _ _ _ (I.trans aT bJ) bF .next
noncomputable def BZ (x : String) (m : AM (Except String AV)) : AM aN := do
 let r <- m
 match r with
 | .ok v => do
  cD x v
  pure .next
 | .error k => pure (.exc k)
theorem yC {x : String} {m : AM (Except String AV)} {e : Expr} {p pos : Pos} (S : JE G sc hd d m e) (hx : d_ sc x) (hs : autoParam (∀ env : Env, swapsWith e (some (.Name (Str.ofString x) p)) pos.line env = pure false) aR) : jY G sc hd d (BZ x m) (.Assign [.Name (Str.ofString x) p] e pos) := by
 intro A outer env own μ st s fl st' hA hf I hm Q E h hE
 obtain ⟨r, st₁, h1, h2⟩ := aF hm
 refine wpAny_Assign_Name (S A outer env own μ st s r st₁ hA hf I h1 _ _ (fun v w aB aD e1 aT aJ bH => ?_) fun e k aB aD sf e1 aT aJ F hs => ?_) (hs env)
 ·subst e1; cases h2
  exact jS aJ bH hx fun bQ bJ bF => h _ _ _ (I.trans aT bJ) bF .next
 ·subst e1; cases h2; exact hE _ _ _ _ _ rfl aT aJ F hs
end
noncomputable def OM (k : AM aN) (f : aN) : AM aN := f.casesOn k (pure .next) k (fun v => pure (.ret v)) fun k => pure (.exc k)
noncomputable def gC (t : AM Bool) (b e : AM aN) : Nat -> AM aN := Nat.rec AM.bad fun zz k => t >>= fun c => if c = true then b >>= OM k else e
theorem qV (t : AM Bool) (b e : AM aN) (n : Nat) : gC t b e (n + 1) = (t >>= fun c => if c = true then b >>= OM (gC t b e n) else e) := rfl
theorem mO {t : AM Bool} {b e : AM aN} : ∀ {n : Nat} {st : AS} {r : aN × AS}, gC t b e n st = some r -> gC t b e (n + 1) st = some r
 | 0, _, _, h => by cases h
 | n + 1, st, r, h => by
  rw [qV] at h |-
  obtain ⟨c, aB, h1, h2⟩ := aF (b := r.1) (s'' := r.2) h
  refine (AM.bindR_ok h1).trans ?_
  cases c with
  | false => exact h2
  | true =>
   rw [if_pos rfl] at h2 |-
   obtain ⟨f, bQ, h3, h4⟩ := aF h2
   refine (AM.bindR_ok h3).trans ?_
   cases f with
   | next => exact mO h4
   | cont => exact mO h4
   | brk => exact h4
   | ret v => exact h4
   | exc k => exact h4
theorem vT {t : AM Bool} {b e : AM aN} {n m : Nat} {st : AS} {r : aN × AS} (h : gC t b e n st = some r) (hnm : n <= m) : gC t b e m st = some r := by
 induction hnm with
 | refl => exact h
 | step _ ih => exact mO ih
open Classical in
noncomputable def AO (t : AM Bool) (b e : AM aN) (st : AS) : Option (aN × AS) := if h : ∃ n r, gC t b e n st = some r then gC t b e h.choose st else none
noncomputable def kY (t : AM Bool) (b e : AM aN) : AM aN := ⟨AO t b e, fun Q st => ∃ a st', AO t b e st = some (a, st') /\ Q a st', id, fun h k => by
 obtain ⟨a, st', e, q⟩ := h
 exact ⟨a, st', e, k _ _ q⟩⟩
theorem tP {t : AM Bool} {b e : AM aN} {st : AS} {r : aN × AS} : kY t b e st = some r ↔ ∃ n, gC t b e n st = some r := by
 constructor
 ·intro h
  change AO t b e st = _ at h
  unfold AO at h
  split at h
  ·exact ⟨_, h⟩
  ·cases h
 ·rintro ⟨n, hn⟩
  have hex : ∃ n r, gC t b e n st = some r := ⟨n, r, hn⟩
  refine (dif_pos hex).trans ?_
  obtain ⟨r', hr'⟩ := hex.choose_spec
  have h1 := vT hr' (Nat.le_max_left _ n)
  have h2 := vT hn (Nat.le_max_right hex.choose n)
  rw [h2] at h1; cases h1
  exact hr'
section
variable {G : a_} {sc : SC} {hd : Bool} {d : Nat}
theorem zE {A : Around} {outer : List Env} {env : Env} {own eE μ : List Addr} {st₀ st : AS} {jI s : Shared} {e : Addr} {k : String} {sf : pM} {E : Value -> Shared -> Prop} (hA : A.frames = some (env :: outer)) (hf : env.frame = some env.locals)
  (rX : fJ G sc (env :: outer) env own eE st₀ jI) (x : XT own (env :: outer) eE st₀ jI μ st s) (I : fJ G sc (env :: outer) env own μ st s) (F : tU G μ jI.heap e (eK G k) s.heap sf) (hs : KE env sf)
  (h : ∀ s', XT own (env :: outer) eE st₀ jI μ st s' -> fJ G sc (env :: outer) env own μ st s' -> tU G μ jI.heap e (eK G k) s'.heap (.out (rawInt env.locals)) -> E (.ref e) s') :
  notedBy G.M A env (cameBackBy G.M A env E) (.ref e) s := by
 unfold notedBy
 refine sL hA hf I.h x.alive F hs fun h' j F' => ?_
 have H' := I.h.junk rX.h.base j
 refine IY (Q := fun zz zz => True) hf H' F' fun h'' j' F'' => ?_
 have J := j.trans j'
 exact h _ (cN.junk x I.h I.e.ownK rX.h.len J) ⟨I.h.junk rX.h.base J, I.e.junk I.h J⟩ F''
theorem jF {t : AM Bool} {m k : AM aN} {e : Expr} {PE PF : List Stmt} {pos : Pos} (S : wK G sc hd d t e) (qK : gV G sc hd d m PE) (qL : gV G sc hd d k PF) : jY G sc hd d (kY t m k) (.While e PE PF pos) := by
 intro A outer env own μ st s fl st' hA hf I hm Q E h hE
 obtain ⟨n, hn⟩ := tP.mp hm
 have fin : ∀ {aD : List Addr} {st₁ : AS} {aB bQ : Shared} {bY : List Addr} {st₂ : AS} {ee : Addr} {kk : String} {sf : pM}, XT own (env :: outer) μ st s aD st₁ aB -> fJ G sc (env :: outer) env own aD st₁ aB -> fl = .exc kk -> st₂ = st' -> XT own (env :: outer) aD st₁ aB bY st₂ bQ -> fJ G sc (env :: outer) env own bY st₂ bQ -> tU G bY aB.heap ee (eK G kk) bQ.heap sf -> KE env sf ->
   notedBy G.M A env (cameBackBy G.M A env E) (.ref ee) bQ := by
  intro aD st₁ aB bQ bY st₂ ee kk sf aT aJ e1 e2 bJ bF F hs
  subst e2
  exact zE hA.frames hf I (I.trans aT bJ) bF (F.weaken aT.alive) hs fun dG cI cF TG => hE _ _ _ _ _ e1 cI cF TG (.inr (.inr rfl))
 refine wpAny_While (codeAny_whileLoop (fun n aB => ∃ aD st₁, XT own (env :: outer) μ st s aD st₁ aB /\ fJ G sc (env :: outer) env own aD st₁ aB /\ gC t m k n st₁ = some (fl, st')) ?_ n ⟨μ, st, cN.refl, I, hn⟩)
 rintro n aB zI2
 obtain ⟨aD, st₁, aT, aJ, hn⟩ := zI2
 cases n with
 | zero => cases hn
 | succ n =>
  rw [qV] at hn
  refine aQ S hA aJ hn fun c st₂ cb bQ bY pP bJ bF dE => ?_
  subst dE
  cases c with
  | true =>
   simp only [if_true] at pP |-
   obtain ⟨f, oC, h3, h4⟩ := aF pP
   refine qK A outer env own bY st₂ bQ f oC hA hf bF h3 _ _ (fun f' dG eO cI cF iY => ?_) fun ee kk dG eO sf e1 cI cF F hs => ?_
   ·cases iY with
    | next => exact ⟨n, Nat.lt_succ_self _, eO, oC, I.trans aT (aJ.trans bJ cI), cF, h4⟩
    | cont => exact ⟨n, Nat.lt_succ_self _, eO, oC, I.trans aT (aJ.trans bJ cI), cF, h4⟩
    | brk => cases h4; exact h _ _ _ (I.trans aT (aJ.trans bJ cI)) cF .next
    | ret r => cases h4; exact h _ _ _ (I.trans aT (aJ.trans bJ cI)) cF (.ret r)
   ·subst e1
    cases h4
    exact fin (I.trans aT bJ) bF rfl rfl cI cF F hs
  | false =>
   simp only [Bool.false_eq_true, if_false] at pP |-
   exact qL A outer env own bY st₂ bQ fl st' hA hf bF pP _ _ (fun f' dG eO cI cF iY => h _ _ _ (I.trans aT (aJ.trans bJ cI)) cF iY) fun ee kk dG eO sf e1 cI cF F hs => fin (I.trans aT bJ) bF e1 rfl cI cF F hs
structure jD (G : a_) (A : Around) (tgt : Expr) (I : Addr) (fp wr jk : List Addr) (n : Nat) (P : Nat -> Value -> Heap -> Heap -> Prop) (St : Nat -> Heap -> Prop) : Prop where
 sub : ∀ b ∈ wr, b ∈ fp
 frame : ∀ i h h', St i h -> (∀ b ∈ fp, ∀ o, h.get? b = some o -> h'.get? b = some o) -> St i h'
 item : ∀ i (s : Shared) (Q : Option Value -> Shared -> Prop) (E : Value -> Shared -> Prop), i < n -> St i s.heap ->
  (∀ v h' tk, (∀ b o, b ∉ wr -> s.heap.get? b = some o -> h'.get? b = some o) ->
   (∀ (R : Unit -> Shared -> Prop) (E' : Value -> Shared -> Prop), (∀ h'', P i v s.heap h'' -> St (i + 1) h'' -> (∀ b o, b ∉ wr -> h'.get? b = some o -> h''.get? b = some o) -> R () { s with heap := h'', toks := tk }) -> wpAny G.M A (letOwnedTupleGo tgt (.ref I) v) R E' { s with heap := h', toks := tk }) ->
   Q (some v) { s with heap := h', toks := tk }) -> wpAny G.M A (pyNext (.ref I)) Q E s
 done : ∀ (s : Shared) (Q : Option Value -> Shared -> Prop) (E : Value -> Shared -> Prop), St n s.heap ->
  (∀ h' tk, (∀ b o, b ∉ wr -> s.heap.get? b = some o -> h'.get? b = some o) -> (∀ b ∈ jk, ∃ o, h'.get? b = some o) -> Q none { s with heap := h', toks := tk }) -> wpAny G.M A (pyNext (.ref I)) Q E s
 self : ∀ i (s : Shared) (Q : Value -> Shared -> Prop) (E : Value -> Shared -> Prop), St i s.heap -> Q (.ref I) s -> wpAny G.M A (pyIter (.ref I)) Q E s
theorem jD.ofWalksT {A : Around} {es : List Expr} {kk : Nat} {pos : Pos} {I : Addr} {fp wr : List Addr} {n : Nat} {Pt : Nat -> Array Value -> Prop} {St : Nat -> Heap -> Prop} {Mid : Nat -> Addr -> Heap -> Prop} (W : WalksT G.prog G.w A I fp wr n Pt St Mid) :
  jD G A (.Tuple es kk pos) I fp wr [] n (fun i v fZ h => ∃ T vals, v = .ref T /\ fZ.get? T = none /\ h.IsTuple T vals /\ Pt i vals) St where
 sub := W.sub
 frame := W.frame
 item := fun i s Q E hi st hQ => W.item i s Q E hi st fun T vals h' tk hP hsz hT hm hk => hQ (.ref T) h' tk hk fun R E' hR => W.go es kk pos i T _ R E' hm fun h'' hst hk' =>
  hR h'' ⟨T, vals, rfl, Heap.get?_none_of_le hsz, (by obtain ⟨o, ho, r⟩ := hT; exact ⟨o, hk' _ _ (W.apart i T h' hm) ho, r⟩), hP⟩ hst hk'
 done := fun s Q E hst hQ => W.done s Q E hst fun h' tk hk => hQ h' tk hk (by simp)
 self := W.self
end
section
variable {G : a_} {A : Around}
theorem KD {R : Result -> Shared -> Prop} {target : Expr} {it : Value} {body : List Stmt} {env : Env} (I : Nat -> Shared -> Prop) {s : Shared}
  (turn : ∀ n s, I n s -> wpAny G.M A (pyNext it) (fun r aB => match r with
   | none => R (.ok .next) aB
   | some v => wpAny G.M A (letOwnedTupleGo target it v) (fun zz bQ => wpAny G.M A (assign target env v) (fun zz bQ => wpAny G.M A (execs body env) (fun f dG => match f with
     | .next | .cont => ∃ m, m < n /\ I m dG
     | .brk => R (.ok .next) dG
     | .ret v => R (.ok (.ret v)) dG) (notedBy G.M A env fun e s' => R (.error e) s') bQ) (fun zz zz => False) bQ) (fun zz zz => False) aB) (fun zz zz => False) s)
  (n : Nat) (h : I n s) : codeAny G.M A (.forLoop target it body [] env) R s := by
 refine codeAny_loop' rfl I (fun n s hI => ?_) n h
 show wpAny _ _ ((forTurn target it body [] env).onRaise (fun x => do noteFrame x env; theTreesLotGoes x)) _ _ s
 refine wpAny_noted ?_
 simp only [forTurn]
 refine wpAny_bind (wpAny_standAt (wpAny_bind (wpAny_onRaise (wpAny_mono (turn n s hI) (fun r aB fZ => ?_) fun zz zz h' => h'.elim))))
 cases r with
 | none => exact wpAny_pure (.inr ⟨rfl, codeAny_block (wpAny_execs_nil fZ)⟩)
 | some v =>
  refine wpAny_bind (wpAny_mono fZ (fun zz bQ xV => ?_) fun zz zz h' => h'.elim)
  refine wpAny_bind (wpAny_mono xV (fun zz bQ xV => wpAny_bind (wpAny_mono xV (fun f dG EH => ?_) fun zz zz h' => h')) fun zz zz h' => h'.elim)
  cases f with
  | next => exact wpAny_pure (.inl ⟨rfl, EH⟩)
  | cont => exact wpAny_pure (.inl ⟨rfl, EH⟩)
  | brk => exact wpAny_pure EH
  | ret v => exact wpAny_pure EH
end
structure kN where
 gs : List (Nat × (aI × Nat))
 items : List AV
noncomputable def uQ (ai : kN) (μ : List Addr) (b : Addr) : Prop := ∃ g ∈ ai.gs, g.2 = (aI.junk, 0) /\ μ[g.1]? = some b
structure AQ (G : a_) (A : Around) (tgt : Expr) (μ : List Addr) (hp : AH) (lo : Heap) (s : Shared) (ai : kN) (I : Addr) (fp wr jk : List Addr) (P : Nat -> Value -> Heap -> Heap -> Prop) (St : Nat -> Heap -> Prop) (xs : List AV) (vs : List Value) : Prop where
 walk : jD G A tgt I fp wr jk ai.items.length P St
 st0 : St 0 s.heap
 gsp : ∀ g ∈ ai.gs, hp[g.1]? = some g.2
 fpp : ∀ b ∈ fp, (∃ g ∈ ai.gs, μ[g.1]? = some b) \/ (b ∉ μ /\ ∃ o, s.heap.get? b = some o /\ (¬ vV o \/ (G.h₀.get? b).isSome = true))
 wrp : ∀ b ∈ wr, lo.get? b = none /\ G.h₀.get? b = none /\ (uQ ai μ b \/ b ∉ μ)
 kind : ∀ i h, St i h -> ∀ b ∈ wr, (b ∈ jk -> ∃ o, h.get? b = some o) /\ (uQ ai μ b \/ ∃ o fs, h.get? b = some o /\ o.data = .fields fs)
 jkp : ∀ b ∈ wr, uQ ai μ b -> b ∈ jk
 jkw : ∀ b ∈ jk, b ∈ wr
 vals : dX G μ s.heap xs vs
 item : ∀ i v fZ h bM, i < ai.items.length -> P i v fZ h -> dX G bM h xs vs -> (∀ a ∈ bM, ∃ o, fZ.get? a = some o) -> ∃ x, ai.items[i]? = some x /\ VR G bM h x v
noncomputable def sY (ai : kN) (fp μ aD : List Addr) (aB : Shared) : Prop := ∀ b ∈ fp, (∃ g ∈ ai.gs, μ[g.1]? = some b) \/ (b ∉ aD /\ ∃ o, aB.heap.get? b = some o)
section
variable {G : a_} {sc : SC} {hd : Bool} {d : Nat}
theorem AQ.apart {A : Around} {tgt : Expr} {fr : List Env} {μ : List Addr} {hp : AH} {lo : Heap} {s : Shared} {ai : kN} {I : Addr} {fp wr jk : List Addr} {P : Nat -> Value -> Heap -> Heap -> Prop} {St : Nat -> Heap -> Prop} {xs : List AV} {vs : List Value}
  (O : AQ G A tgt μ hp lo s ai I fp wr jk P St xs vs) (H : bK G fr μ hp s) {b : Addr} (hb : b ∈ fp) : (∀ o, b ∉ μ -> G.h₀.get? b = none -> s.heap.get? b = some o -> vV o -> False) /\ b ∉ sP fr := by
 have h1 : ∀ o, b ∉ μ -> G.h₀.get? b = none -> s.heap.get? b = some o -> vV o -> False := fun o hm hg ho hl => by
  rcases O.fpp b hb with ⟨g, _, q⟩ | ⟨_, o', q1, q2⟩
  ·exact hm (mem_of_getElem? q)
  ·rw [ho] at q1; cases q1
   rcases q2 with q | q
   ·exact q hl
   ·rw [hg] at q; cases q
 refine ⟨h1, fun hm => ?_⟩
 obtain ⟨e, he, hf⟩ := mem_filterMap.mp hm
 obtain ⟨_, L, o, hL, ho, hd, hn, hg⟩ := H.frs e he
 rw [hf] at hL; cases hL
 exact h1 o hn hg ho (.inl hd)
noncomputable def vO (μ : List Addr) (h h' : Heap) : Prop := ∀ b o, h.get? b = some o -> (∀ fs, o.data ≠ .fields fs) -> b ∉ μ -> h'.get? b = some o
theorem vO.still {μ : List Addr} {h h' : Heap} (k : vO μ h h') : eU μ μ h h' := fun a o ha _ ⟨vs, n, hd⟩ hm => ⟨hm, k a o ha (fun fs q => by rw [hd] at q; cases q) hm⟩
theorem nA.kept {env : Env} {own μ : List Addr} {ρ : List (String × AV)} {s s' : Shared} (e : nA G sc env own μ ρ s) (k : vO μ s.heap s'.heap) : nA G sc env own μ ρ s' where
 ok := e.ok
 ownp := fun a ha => by
  obtain ⟨h1, h2, o, ho, hkk⟩ := e.ownp a ha
  exact ⟨h1, h2, o, k a o ho (fun fs => hkk.noFields) h1, hkk⟩
 lown := e.lown
 loc := by
  obtain ⟨m, hn, hm⟩ := e.loc
  refine ⟨m, hn.at' fun o ho => ?_, fun y v hy hkk => ?_⟩
  ·obtain ⟨h1, h2, o', ho', hkk⟩ := e.ownp _ e.lown
   rw [ho] at ho'; cases ho'
   exact k _ o ho (fun fs => hkk.noFields) h1
  ·obtain ⟨w, g1, g2⟩ := hm y v hy hkk
   exact ⟨w, g1, g2.mono (fun zz zz e => e) k.still⟩
 cel := fun y v hy => by
  rcases e.cel y v hy with q | ⟨q, c, w, g1, g2, g3⟩
  ·exact .inl q
  ·obtain ⟨o, ho, hdd⟩ := id g2
   exact .inr ⟨q, c, w, g1, ⟨o, k c o ho (fun fs q => by rw [hdd] at q; cases q) (e.cells _ _ g1).2.1, hdd⟩, g3.mono (fun zz zz e => e) k.still⟩
 cells := fun y c hy => by
  obtain ⟨⟨w, g1⟩, g2, g3⟩ := e.cells y c hy
  obtain ⟨o, ho, hdd⟩ := id g1
  exact ⟨⟨w, o, k c o ho (fun fs q => by rw [hdd] at q; cases q) g2, hdd⟩, g2, g3⟩
 cown := e.cown
 cnot := e.cnot
theorem oS {A : Around} {tgt : Expr} {fr : List Env} {env : Env} {own own₂ eE μ aD : List Addr} {st st₁ : AS} {wX hpI : AH} {jI s aB : Shared} {ai : kN} {I : Addr} {fp wr jk : List Addr} {P : Nat -> Value -> Heap -> Heap -> Prop} {St : Nat -> Heap -> Prop} {xs : List AV} {vs : List Value} {i : Nat}
  (O : AQ G A tgt μ hpI jI.heap s ai I fp wr jk P St xs vs) (hfp : ∀ b ∈ fp, b ∉ sP fr) (I5 : bK G fr eE wX jI) (i_ : cN own₂ fr eE wX jI aD st₁.hp aB) (lV : ∀ (n : Nat) (a : Addr), μ[n]? = some a -> aD[n]? = some a) (hp : sY ai fp μ aD aB) (aJ : fJ G sc fr env own aD st₁ aB)
  (hg : ∀ g ∈ ai.gs, st₁.hp[g.1]? = some g.2) (hst : St i aB.heap) {h' : Heap} {tk : Nat} (hk : ∀ b o, b ∉ wr -> aB.heap.get? b = some o -> h'.get? b = some o) (hal : ∀ b ∈ jk, ∃ o, h'.get? b = some o) :
  cN own₂ fr eE wX jI aD st₁.hp { aB with heap := h', toks := tk } /\ fJ G sc fr env own aD st₁ { aB with heap := h', toks := tk } /\ vO aD aB.heap h' := by
 have TH : ∀ {b : Addr}, uQ ai μ b -> b ∈ aD := fun ⟨g, _, _, hj⟩ => mem_of_getElem? (lV _ _ hj)
 have LE : ∀ {b : Addr}, b ∈ wr -> b ∈ aD -> uQ ai μ b := fun {b} hw hm => by
  rcases hp b (O.walk.sub b hw) with ⟨g, hg, e⟩ | ⟨q, _⟩
  ·rcases (O.wrp b hw).2.2 with q | q
   ·exact q
   ·exact absurd (mem_of_getElem? e) q
  ·exact absurd hm q
 have kept : vO aD aB.heap h' := fun b o ho hd hm => by
  refine hk b o (fun hw => ?_) ho
  rcases (O.kind i _ hst _ hw).2 with q | ⟨o', fs, q1, q2⟩
  ·exact hm (TH q)
  ·rw [ho] at q1; cases q1; exact hd _ q2
 have still := kept.still
 have H' : bK G fr aD st₁.hp { aB with heap := h', toks := tk } := by
  refine ⟨fun b o e => ?_, aJ.h.len, aJ.h.nod, fun n c a hc ha => ?_, aJ.h.low, fun e he => ?_⟩
  ·exact hk b o (fun hw => by have := (O.wrp b hw).2.1; rw [e] at this; cases this) (aJ.h.base b o e)
  ·by_cases hw : a ∈ wr
   ·obtain ⟨g, hgm, hgj, hga⟩ := LE hw (mem_of_getElem? ha)
    have := aJ.h.inj ha (lV _ _ hga)
    subst this
    have h2 := hg g hgm
    rw [hc] at h2; cases h2
    obtain ⟨o, ho⟩ := hal a (O.jkp a hw ⟨g, hgm, hgj, hga⟩)
    rw [hgj]
    exact ⟨o, ho, .junk (Heap.get?_some_iff.mp ho).2⟩
   ·obtain ⟨o, h1, h2⟩ := aJ.h.obj n c a hc ha
    exact ⟨o, hk a o hw h1, h2.mono (fun zz zz e => e) still⟩
  ·obtain ⟨k, L, o, h1, h2, h3, h4, h5⟩ := aJ.h.frs e he
   refine ⟨k, L, o, h1, hk L o (fun hw => ?_) h2, h3, h4, h5⟩
   exact hfp _ (O.walk.sub _ hw) (mem_filterMap.mpr ⟨e, he, h1⟩)
 refine ⟨⟨i_.pre, ?_, fun b o h => ?_, fun b o h hm ho => ?_, fun n c hc => ?_⟩, ⟨H', aJ.e.kept kept⟩, kept⟩
 ·obtain ⟨h1, t1, e⟩ := i_.same
  exact ⟨h', tk, by rw [e]⟩
 ·obtain ⟨o', h1⟩ := i_.alive b o h
  exact ⟨o', hk b o' (fun hw => by have := (O.wrp b hw).1; rw [h] at this; cases this) h1⟩
 ·obtain ⟨sl, h1, h2⟩ := i_.keep b o h hm ho
  exact ⟨sl, hk b _ (fun hw => by have := (O.wrp b hw).1; rw [h] at this; cases this) h1, h2⟩
 ·obtain ⟨c', h1, h2, h3⟩ := i_.vers n c hc
  refine ⟨c', h1, h2, fun e => ?_⟩
  obtain ⟨r, k⟩ := h3 e
  refine ⟨r, fun a ha => ?_⟩
  obtain ⟨o, ho, _⟩ := I5.obj n c a hc ha
  have hw : a ∉ wr := fun hw => by have := (O.wrp a hw).1; rw [ho] at this; cases this
  obtain ⟨TJ, UM, _⟩ := aJ.h.obj n c' a h1 (i_.mu ha)
  rw [show ({ aB with heap := h', toks := tk } : Shared).heap.get? a = some TJ from hk a TJ hw UM, <- UM]; exact k a ha
noncomputable def fY (G : a_) (sc : SC) (d : Nat) (f : AV -> AM Unit) (tgt : Expr) : Prop :=
 ∀ (A : Around) (fr : List Env) (env : Env) (own μ : List Addr) (st : AS) (s : Shared) (x : AV) (v : Value) (st' : AS), tG A fr true d -> fJ G sc fr env own μ st s -> VR G μ s.heap x v -> f x st = some ((), st') ->
  ∀ (Q : Unit -> Shared -> Prop) (E : Value -> Shared -> Prop), (∀ s' bM, XT own fr μ st s bM st' s' -> fJ G sc fr env own bM st' s' -> Q () s') -> wpAny G.M A (assign tgt env v) Q E s
theorem cE {x : String} {p : Pos} (hx : d_ sc x) : fY G sc d (fun v => cD x v) (.Name (Str.ofString x) p) := by
 intro A fr env own μ st s y v st' hA I r hm Q E h
 cases hm
 exact wpAny_assign_Name (jS I r hx fun s' x' I' => h s' μ x' I')
noncomputable def kE : List String -> List AV -> AM Unit
 | [], [] => pure ()
 | x :: xs, v :: vs => do
  cD x v
  kE xs vs
 | _, _ => AM.bad
noncomputable def dR (xs : List String) (v : AV) : AM Unit := match v with
 | .tup ys => kE xs ys
 | _ => AM.bad
theorem nM : ∀ {xs : List String} {ys : List AV} {st st' : AS}, kE xs ys st = some ((), st') -> xs.length = ys.length
 | [], [], _, _, _ => rfl
 | [], _ :: _, _, _, h => by cases h
 | _ :: _, [], _, _, h => by cases h
 | x :: xs, y :: ys, st, st', h => by
  obtain ⟨u, aB, h1, h2⟩ := aF h
  rw [length_cons, length_cons, nM h2]
theorem vX {A : Around} {fr : List Env} {env : Env} {own : List Addr} {Q : Unit -> Shared -> Prop} {E : Value -> Shared -> Prop} : ∀ (xs : List String) (ps : List Pos) (ys : List AV) (vs : List Value) (μ : List Addr) (st st' : AS) (s : Shared), xs.length = ps.length -> (∀ x ∈ xs, d_ sc x) -> fJ G sc fr env own μ st s -> dX G μ s.heap ys vs -> kE xs ys st = some ((), st') ->
  (∀ s' bM, XT own fr μ st s bM st' s' -> fJ G sc fr env own bM st' s' -> Q () s') -> wpAny G.M A (assignInOrder ((assignEach ((xs.zip ps).map fun q => Expr.Name (Str.ofString q.1) q.2) env).map (·.2)) vs) Q E s := by
 intro xs
 induction xs with
 | nil =>
  intro ps ys vs μ st st' s hl hx I rs hm h
  cases ys with
  | cons => cases hm
  | nil => cases hm; cases rs; exact wpAny_pure (h _ _ cN.refl I)
 | cons x xs ih =>
  intro ps ys vs μ st st' s hl hx I rs hm h
  cases ps with
  | nil => cases hl
  | cons p ps =>
  cases ys with
  | nil => cases hm
  | cons y ys =>
   cases rs with
   | cons r rs =>
    obtain ⟨u, st₁, h1, h2⟩ := aF hm
    cases h1
    show wpAny G.M A (holding _ (assign (Expr.Name (Str.ofString x) p) env _) >>= fun zz => assignInOrder ((assignEach ((xs.zip ps).map fun q => Expr.Name (Str.ofString q.1) q.2) env).map (·.2)) _) Q E s
    refine wpAny_bind (wpAny_holding (wpAny_assign_Name (jS I r (hx x mem_cons_self) fun aB aT aJ => ?_)))
    exact ih ps ys _ μ _ st' aB (by simpa using hl) (fun z hz => hx z (mem_cons_of_mem _ hz)) aJ (I.vrs aT rs) h2 fun s' bM x' I' => h s' bM (I.trans aT x') I'
theorem mA (xs : List String) (ps : List Pos) (env : Env) : ∀ (l : List (String × Pos)), (assignEach (l.map fun q => Expr.Name (Str.ofString q.1) q.2) env).findIdx? (·.1) = none /\ (assignEach (l.map fun q => Expr.Name (Str.ofString q.1) q.2) env).length = l.length
 | [] => ⟨rfl, rfl⟩
 | q :: r => by
  obtain ⟨h1, h2⟩ := mA xs ps env r
  refine ⟨?_, ?_⟩
  ·show ((false, _) :: assignEach (r.map fun q => Expr.Name (Str.ofString q.1) q.2) env).findIdx? (·.1) = none
   rw [List.findIdx?_cons]
   simp only [Bool.false_eq_true, if_false, Option.map_eq_none_iff]
   exact h1
  ·show ((false, _) :: assignEach (r.map fun q => Expr.Name (Str.ofString q.1) q.2) env).length = _
   rw [length_cons, length_cons, h2]
theorem sK {xs : List String} {ps : List Pos} {es : List Expr} {kk : Nat} {p : Pos} (hx : ∀ x ∈ xs, d_ sc x) (he : es = (xs.zip ps).map fun q => Expr.Name (Str.ofString q.1) q.2) (hl : xs.length = ps.length) : fY G sc d (dR xs) (.Tuple es kk p) := by
 subst he
 intro A fr env own μ st s y v st' hA I r hm Q E h
 unfold dR at hm
 cases r with
 | tup h1 h2 h3 h4 rs =>
  rename_i ys vs a o n
  dsimp only at hm
  rw [arm_assign_Tuple]
  refine wpAny_bind (wpAny_standAt ?_)
  have hlen := nM hm
  obtain ⟨e1, e2⟩ := mA xs ps env (xs.zip ps)
  refine wpAny_unpack_tuple (hA.hnd rfl) ⟨o, h1, h2, n, h3⟩ ?_ e1 fun h' hk => ?_
  ·rw [e2, List.length_zip, <- hl, Nat.min_self, size_toArray, hlen, rs.length]
  ·have hn := I.h.grow (h' := h') (tk := s.toks) fun b o e => hk b o (Nat.ne_of_lt (Heap.lt_size e)) e
   have I' := I.heap hn.2 hn.1
   refine vX xs ps ys vs μ st st' _ hl hx I' (I.vrs hn.2.weaken rs) hm fun s' bM x' I'' => h s' bM (I.trans hn.2.weaken x') I''
 | _ => cases hm
end
open Classical in
noncomputable def pI (gs : List (Nat × (aI × Nat))) : AM Unit := ⟨fun st => if ∀ g ∈ gs, st.hp[g.1]? = some g.2 then some ((), st) else none, fun Q st => (∀ g ∈ gs, st.hp[g.1]? = some g.2) /\ Q () st, fun h => ⟨(), _, if_pos h.1, h.2⟩, fun h k => ⟨h.1, k _ _ h.2⟩⟩
theorem mK {gs : List (Nat × (aI × Nat))} {st st' : AS} {u : Unit} (h : pI gs st = some (u, st')) : st' = st /\ ∀ g ∈ gs, st.hp[g.1]? = some g.2 := by
 dsimp only [pI] at h
 split at h
 ·rename_i q; cases h; exact ⟨rfl, q⟩
 ·cases h
noncomputable def forLoop (gs : List (Nat × (aI × Nat))) (tgt : AV -> AM Unit) (body : AM aN) : List AV -> AM aN :=
 List.rec (do pI gs; pure .next) fun x zz k => do
  pI gs
  tgt x
  let f <- body
  OM k f
theorem BT (gs : List (Nat × (aI × Nat))) (tgt : AV -> AM Unit) (body : AM aN) : forLoop gs tgt body [] = (do pI gs; pure .next) := rfl
theorem AX (gs : List (Nat × (aI × Nat))) (tgt : AV -> AM Unit) (body : AM aN) (x : AV) (xs : List AV) : forLoop gs tgt body (x :: xs) = (do pI gs; tgt x; let f <- body; OM (forLoop gs tgt body xs) f) := rfl
noncomputable def rF (it : AM kN) (tgt : AV -> AM Unit) (body : AM aN) : AM aN := do
 let ai <- it
 forLoop ai.gs tgt body ai.items
section
variable {G : a_} {sc : SC} {hd : Bool} {d : Nat}
noncomputable def nB (G : a_) (sc : SC) (d : Nat) (tgt : Expr) (m : AM kN) (e : Expr) : Prop :=
 ∀ (A : Around) (fr : List Env) (env : Env) (own μ : List Addr) (st : AS) (s : Shared) (ai : kN) (st' : AS), tG A fr true d -> fJ G sc fr env own μ st s -> m st = some (ai, st') ->
  ∀ (Q : Value -> Shared -> Prop) (E : Value -> Shared -> Prop),
   (∀ I s' bM fp wr jk P St xs vs, XT own fr μ st s bM st' s' -> fJ G sc fr env own bM st' s' -> AQ G A tgt bM st'.hp s.heap s' ai I fp wr jk P St xs vs -> Q (.ref I) s') ->
   wpAny G.M A (eval e env) (fun x aB => wpAny G.M A (pyIter x) Q E aB) E s
noncomputable def gA (f : AV -> AM Unit) : Prop := ∀ x st st', f x st = some ((), st') -> st'.hp = st.hp
theorem aY {x : String} : gA fun v => cD x v := by
 intro v st st' h; cases h; rfl
theorem aV {xs : List String} : gA (dR xs) := by
 have go : ∀ (xs : List String) (ys : List AV) (st st' : AS), kE xs ys st = some ((), st') -> st'.hp = st.hp := by
  intro xs
  induction xs with
  | nil => intro ys st st' h; cases ys with
   | nil => cases h; rfl
   | cons => cases h
  | cons x xs ih => intro ys st st' h; cases ys with
   | nil => cases h
   | cons y ys =>
    obtain ⟨u, aB, h1, h2⟩ := aF h
    cases h1
    exact (ih ys _ _ h2).trans rfl
 intro v st st' h
 unfold dR at h
 split at h
 ·exact go _ _ _ _ h
 ·cases h
theorem uJ {A : Around} {tgt : Expr} {fr : List Env} {own μ aD bY : List Addr} {hp : AH} {st₁ st₂ : AS} {lo : Heap} {s aB bQ : Shared} {ai : kN} {I : Addr} {fp wr jk : List Addr} {P : Nat -> Value -> Heap -> Heap -> Prop} {St : Nat -> Heap -> Prop} {xs : List AV} {vs : List Value} {i : Nat}
  (O : AQ G A tgt μ hp lo s ai I fp wr jk P St xs vs) (hfp : ∀ b ∈ fp, b ∉ own /\ b ∉ sP fr) (lV : ∀ (n : Nat) (a : Addr), μ[n]? = some a -> aD[n]? = some a) (lN : sY ai fp μ aD aB) (x : cN own fr aD st₁.hp aB bY st₂.hp bQ)
  (n9 : ∀ g ∈ ai.gs, st₁.hp[g.1]? = some g.2) (o0 : ∀ g ∈ ai.gs, st₂.hp[g.1]? = some g.2) (hst : St i aB.heap) : St i bQ.heap := by
 refine O.walk.frame i _ _ hst fun b hb o ho => ?_
 obtain ⟨h1, h2⟩ := hfp b hb
 rcases lN b hb with ⟨g, hgm, e⟩ | ⟨q, _⟩
 ·obtain ⟨c', g1, g2, g3⟩ := x.vers g.1 g.2 (n9 g hgm)
  rw [o0 g hgm] at g1; cases g1
  rw [(g3 rfl).2 b (lV _ _ e)]; exact ho
 ·obtain ⟨sl, k1, k2⟩ := x.keep b o ho q h1
  rw [k2 h2] at k1; exact k1
theorem sY.ext {ai : kN} {fr : List Env} {own fp μ aD bY : List Addr} {st₁ st₂ : AS} {aB bQ : Shared} (p : sY ai fp μ aD aB) (x : cN own fr aD st₁.hp aB bY st₂.hp bQ) : sY ai fp μ bY bQ := fun b hb => by
 rcases p b hb with q | ⟨q, o, ho⟩
 ·exact .inl q
 ·exact .inr ⟨x.mem ho q, x.alive b o ho⟩
theorem fS {it : AM kN} {f : AV -> AM Unit} {m : AM aN} {tgt e : Expr} {body : List Stmt} {pos : Pos} (SI : nB G sc d tgt it e) (ST : fY G sc d f tgt) (hT : gA f) (SB : gV G sc true d m body)
  (hfs : autoParam (∀ (env : Env) (x : Value), foldedSetIterable e env x = pure x) aR) : jY G sc true d (rF it f m) (.For tgt e body [] pos) := by
 intro A outer env own μ st s fl st' hA hf I hm Q E h hE
 refine Mine.hold fun gL bk => ?_
 obtain ⟨ai, st₀, h1, h2⟩ := aF hm
 refine bk ?_; clear bk gL
 refine wpAny_For (SI A (env :: outer) env own μ st s ai st₀ hA I h1 _ _ fun Ia jI eE fp wr jk P St xs vs i_ rX O => ?_) (hfs env)
 have hfp : ∀ b ∈ fp, b ∉ own /\ b ∉ sP (env :: outer) := fun b hb => ⟨fun hm => by
  obtain ⟨g1, g2, o, g3, g4⟩ := rX.e.ownp b hm
  exact (O.apart rX.h hb).1 o g1 g2 g3 g4, (O.apart rX.h hb).2⟩
 have hfp' : ∀ b ∈ fp, b ∉ sP (env :: outer) := fun b hb => (hfp b hb).2
 have fin : ∀ {aD : List Addr} {st₁ : AS} {aB bQ : Shared} {bY : List Addr} {ee : Addr} {kk : String} {sf : pM}, XT own (env :: outer) μ st s aD st₁ aB -> fl = .exc kk -> XT own (env :: outer) aD st₁ aB bY st' bQ -> fJ G sc (env :: outer) env own bY st' bQ -> tU G bY aB.heap ee (eK G kk) bQ.heap sf -> KE env sf ->
   notedBy G.M A env (cameBackBy G.M A env E) (.ref ee) bQ := by
  intro aD st₁ aB bQ bY ee kk sf aT e1 bJ bF F hs
  exact zE hA.frames hf I (I.trans aT bJ) bF (F.weaken aT.alive) hs fun dG cI cF TG => hE _ _ _ _ _ e1 cI cF TG (.inr (.inr rfl))
 refine KD (fun k aB => ∃ i aD st₁, k + i = ai.items.length + 1 /\ i <= ai.items.length /\ XT own (env :: outer) μ st s aD st₁ aB /\ fJ G sc (env :: outer) env own aD st₁ aB /\ (∀ (n : Nat) (a : Addr), eE[n]? = some a -> aD[n]? = some a) /\ sY ai fp eE aD aB /\
  ((∀ g ∈ ai.gs, st₁.hp[g.1]? = some g.2) -> St i aB.heap) /\ dX G aD aB.heap xs vs /\ forLoop ai.gs f m (ai.items.drop i) st₁ = some (fl, st')) ?_ (ai.items.length + 1)
  ⟨0, eE, st₀, by omega, Nat.zero_le _, i_, rX, fun zz zz e => e, fun b hb => (O.fpp b hb).imp id fun q => ⟨q.1, q.2.choose, q.2.choose_spec.1⟩, fun zz => O.st0, O.vals, by simpa using h2⟩
 rintro k aB zI2
 refine Mine.hold fun gL bk => ?_
 obtain ⟨i, aD, st₁, hk, hi, aT, aJ, lV, lN, hSt, hvs, hrun⟩ := zI2
 refine bk ?_; clear bk gL
 by_cases hlt : i < ai.items.length
 ·rw [List.drop_eq_getElem_cons hlt] at hrun
  rw [AX] at hrun
  refine Mine.hold fun gL bk => ?_
  obtain ⟨u, sg, hgd, hrun1⟩ := aF hrun
  obtain ⟨eg, hg⟩ := mK hgd
  rw [eg] at hrun1
  obtain ⟨u', st₂, htg, hrun2⟩ := aF hrun1
  refine bk ?_; clear bk gL
  refine O.walk.item i aB _ _ hlt (hSt hg) fun v h' tk hk1 hgo => ?_
  refine hgo _ _ fun h'' hP hst hk2 => ?_
  have hkk : ∀ b o, b ∉ wr -> aB.heap.get? b = some o -> h''.get? b = some o := fun b o hb e => hk2 b o hb (hk1 b o hb e)
  refine Mine.hold fun gL bk => ?_
  obtain ⟨bJ, bF, kept⟩ := oS (st := st) (tk := tk) O hfp' I.h aT lV lN aJ hg (hSt hg) hkk fun b hb => (O.kind _ _ hst b (O.jkw b hb)).1 hb
  have rV : sY ai fp eE aD { aB with heap := h'', toks := tk } := fun b hb => by
   rcases lN b hb with q | ⟨q, o, ho⟩
   ·exact .inl q
   ·by_cases hw : b ∈ wr
    ·rcases (O.kind _ _ hst b hw).2 with ⟨g, hgm, _, e⟩ | ⟨o', fs, e, _⟩
     ·exact .inl ⟨g, hgm, e⟩
     ·exact .inr ⟨q, o', e⟩
    ·exact .inr ⟨q, o, hkk b o hw ho⟩
  have wY : dX G aD h'' xs vs := hvs.mono (fun zz zz e => e) kept.still
  obtain ⟨y, hy, hr⟩ := O.item i v aB.heap h'' aD hlt hP wY fun a ha => by
   obtain ⟨n, hn⟩ := List.getElem?_of_mem ha
   have hl := (List.getElem?_eq_some_iff.mp hn).1
   rw [aJ.h.len] at hl
   obtain ⟨o, ho, _⟩ := aJ.h.obj n _ a (getElem?_eq_getElem hl) hn
   exact ⟨o, ho⟩
  rw [getElem?_eq_getElem hlt] at hy
  cases hy
  refine bk ?_; clear bk gL
  refine ST A (env :: outer) env own aD st₁ _ _ v st₂ hA bF hr htg _ _ fun dG eO cI cF => ?_
  have hhp := hT _ _ _ htg
  refine Mine.hold fun gL bk => ?_
  obtain ⟨fb, lE, hb, hrun3⟩ := aF hrun2
  refine bk ?_; clear bk gL
  have HC : St (i + 1) dG.heap := uJ O hfp lV rV cI hg (by rw [hhp]; exact hg) hst
  refine SB A outer env own eO st₂ dG fb lE hA hf cF hb _ _ (fun f' hK rY lH kK HD => ?_) fun ee kk hK rY sf e1 lH kK F hs => ?_
  ·have X := I.trans bJ (bF.trans cI lH)
   have again : forLoop ai.gs f m (ai.items.drop (i + 1)) lE = some (fl, st') -> ∃ m_1, m_1 < k /\ ∃ i aD st₁, m_1 + i = ai.items.length + 1 /\ i <= ai.items.length /\ XT own (env :: outer) μ st s aD st₁ hK /\ fJ G sc (env :: outer) env own aD st₁ hK /\ (∀ (n : Nat) (a : Addr), eE[n]? = some a -> aD[n]? = some a) /\ sY ai fp eE aD hK /\
     ((∀ g ∈ ai.gs, st₁.hp[g.1]? = some g.2) -> St i hK.heap) /\ dX G aD hK.heap xs vs /\ forLoop ai.gs f m (ai.items.drop i) st₁ = some (fl, st') := fun hr' => by
    have wZ := rV.ext cI
    exact ⟨k - 1, by omega, i + 1, rY, lE, by omega, hlt, X, kK, fun n a e => lH.mu (cI.mu (lV n a e)), wZ.ext lH, fun p0 => uJ O hfp (fun n a e => cI.mu (lV n a e)) wZ lH (by rw [hhp]; exact hg) p0 HC, cF.vrs lH (bF.vrs cI wY), hr'⟩
   cases HD with
   | next => exact again hrun3
   | cont => exact again hrun3
   | brk => cases hrun3; exact h _ _ _ X kK .next
   | ret r => cases hrun3; exact h _ _ _ X kK (.ret r)
  ·subst e1
   cases hrun3
   exact fin (I.trans bJ cI) rfl lH kK F hs
 ·have hin : i = ai.items.length := Nat.le_antisymm hi (Nat.le_of_not_lt hlt)
  refine Mine.hold fun gL bk => ?_
  subst hin
  rw [List.drop_length] at hrun
  rw [BT] at hrun
  obtain ⟨u, sg, hgd, hrun1⟩ := aF hrun
  obtain ⟨eg, hg⟩ := mK hgd
  rw [eg] at hrun1
  cases hrun1
  refine bk ?_; clear bk gL
  refine O.walk.done aB _ _ (hSt hg) fun h' tk hk1 hal => ?_
  refine Mine.hold fun gL bk => ?_
  obtain ⟨bJ, bF, kept⟩ := oS (st := st) (tk := tk) O hfp' I.h aT lV lN aJ hg (hSt hg) hk1 hal
  refine bk ?_; clear bk gL
  exact h _ _ _ bJ bF .next
end
theorem cN.more {own own' : List Addr} {fr : List Env} {μ bM : List Addr} {hp hp' : AH} {s s' : Shared} (x : cN own fr μ hp s bM hp' s') (h : ∀ a ∈ own, a ∈ own') : cN own' fr μ hp s bM hp' s' :=
 ⟨x.pre, x.same, x.alive, fun b o h1 h2 h3 => x.keep b o h1 h2 fun q => h3 (h b q), x.vers⟩
structure j_ (G : a_) (own μ : List Addr) (D : Addr) (h : Heap) (xs : List AV) : Prop where
 row : ∃ vs : List Value, h.PlainList D vs.toArray /\ dX G μ h xs vs
 nμ : D ∉ μ
 nown : D ∉ own
 low : G.h₀.get? D = none
noncomputable def compLoop (gs : List (Nat × (aI × Nat))) (tgt : AV -> AM Unit) (test : AM Bool) (body : AM (List AV)) : List AV -> AM (List AV) :=
 List.rec (do pI gs; pure []) fun x zz k => do
  pI gs
  tgt x
  let b <- test
  if b = true then do
   let ys <- body
   let zs <- k
   pure (ys ++ zs)
  else k
theorem zY (gs : List (Nat × (aI × Nat))) (tgt : AV -> AM Unit) (test : AM Bool) (body : AM (List AV)) : compLoop gs tgt test body [] = (do pI gs; pure []) := rfl
theorem xQ (gs : List (Nat × (aI × Nat))) (tgt : AV -> AM Unit) (test : AM Bool) (body : AM (List AV)) (x : AV) (xs : List AV) : compLoop gs tgt test body (x :: xs) = (do pI gs; tgt x; let b <- test; if b = true then (do let ys <- body; let zs <- compLoop gs tgt test body xs; pure (ys ++ zs)) else compLoop gs tgt test body xs) := rfl
section
variable {G : a_} {sc : SC} {d : Nat}
noncomputable def wQ (G : a_) (sc : SC) (d : Nat) (m : AM (List AV)) (t : Env -> Value -> Sem Unit) : Prop :=
 ∀ (A : Around) (fr : List Env) (env : Env) (own μ : List Addr) (st : AS) (s : Shared) (ys : List AV) (st' : AS) (D : Addr) (pre : List AV), tG A fr true d -> fJ G sc fr env own μ st s -> j_ G own μ D s.heap pre -> m st = some (ys, st') -> (pre ++ ys).length <= 1000000 ->
  ∀ (Q : Unit -> Shared -> Prop) (E : Value -> Shared -> Prop), (∀ s' bM, cN (D :: own) fr μ st.hp s bM st'.hp s' -> fJ G sc fr env own bM st' s' -> j_ G own bM D s'.heap (pre ++ ys) -> Q () s') -> wpAny G.M A (t env (.ref D)) Q E s
abbrev SM (ifs : List Expr) (env : Env) : Sem Bool := forIn ifs true fun c r => if r = true then do let ok <- isTrue c env (eval c env); pure (ForInStep.yield ok) else pure (ForInStep.yield r)
abbrev lZ (G : a_) (sc : SC) (d : Nat) (m : AM Bool) (ifs : List Expr) : Prop := TL G sc true d m (SM ifs) (fun zz zz a b => a = b)
theorem eI : lZ G sc d (pure true) [] := by
 intro A fr env own μ st s z st' hA I hm Q E h
 cases hm; exact wpAny_tests_nil (h _ _ _ cN.refl I rfl)
theorem jG {m : AM Bool} {c : Expr} (S : wK G sc true d m c) : lZ G sc d m [c] := by
 intro A fr env own μ st s z st' hA I hm Q E h
 exact wpAny_tests_one (S A fr env own μ st s z st' hA I hm Q E h)
theorem j_.ext {fr : List Env} {env : Env} {own μ bM : List Addr} {st st' : AS} {s s' : Shared} {D : Addr} {xs : List AV} (a : j_ G own μ D s.heap xs) (I : fJ G sc fr env own μ st s) (x : XT own fr μ st s bM st' s') : j_ G own bM D s'.heap xs := by
 refine Mine.hold fun gL bk => ?_
 obtain ⟨⟨vs, ⟨n, ho⟩, hr⟩, h1, h2, h3⟩ := a
 have hf : D ∉ sP fr := fun hm => by
  obtain ⟨e, he, hf⟩ := mem_filterMap.mp hm
  obtain ⟨_, L, o, hL, ho', ⟨es, n, q⟩, _⟩ := I.h.frs e he
  rw [hf] at hL; cases hL
  rw [ho] at ho'; cases ho'; cases q
 obtain ⟨sl, e, hs⟩ := x.keep D _ ho h1 h2
 refine bk ?_; clear bk gL
 rw [hs hf] at e
 exact ⟨⟨vs, ⟨n, e⟩, I.vrs x hr⟩, x.mem ho h1, h2, h3⟩
theorem j_.kept {own μ : List Addr} {h h' : Heap} {D : Addr} {xs : List AV} (a : j_ G own μ D h xs) (k : vO μ h h') : j_ G own μ D h' xs := by
 refine Mine.hold fun gL bk => ?_
 obtain ⟨⟨vs, ⟨n, ho⟩, hr⟩, h1, h2, h3⟩ := a
 refine bk ?_; clear bk gL
 exact ⟨⟨vs, ⟨n, k D _ ho (fun fs q => by cases q) h1⟩, hr.mono (fun zz zz e => e) k.still⟩, h1, h2, h3⟩
noncomputable def IW (elt : Expr) (env : Env) (acc : Value) : Sem Unit := do let _ <- call (.builtin "list.append") [acc, <- eval elt env]
noncomputable def fH (m : AM AV) : AM (List AV) := do
 let v <- m
 pure [v]
theorem BH {m : AM AV} {elt : Expr} (S : b_ G sc true d m elt) : wQ G sc d (fH m) (IW elt) := by
 intro A fr env own μ st s ys st' D pre hA I a hm hl Q E h
 refine wpAny_bind (aQ S hA I hm fun v st₁ w aB aD bP aT aJ bH => wpAny_bind ?_)
 refine Mine.hold fun gL bk => ?_
 cases bP
 obtain ⟨⟨vs, hp, hr⟩, h1, h2, h3⟩ := a.ext I aT
 refine bk ?_; clear bk gL
 have hlen := hr.length
 refine wpAny_list_append_plain hp (fun h' hp' hs => wpAny_pure ?_) (by rw [size_toArray, sizeLine_eq]; simp at hl; omega)
 obtain ⟨n, hD⟩ := id hp
 have notD : ∀ {b : Addr} {o : Obj}, aB.heap.get? b = some o -> (∀ q, o.data = .seq vs.toArray q -> False) -> h'.get? b = some o := fun {b o} e k => (hs.2 b fun q => by subst q; rw [hD] at e; cases e; exact k _ rfl).trans e
 have LE : ∀ {b : Addr}, b ∈ aD -> b ≠ D := fun hb q => h1 (q ▸ hb)
 have still : eU aD aD aB.heap h' := by
  rintro b o hb hc zI4 hmm
  obtain ⟨ws, nn, hd⟩ := zI4
  refine ⟨hmm, (hs.2 b fun q => ?_).trans hb⟩
  subst q; rw [hD] at hb; cases hb; simp at hc
 obtain ⟨n', hD'⟩ := id hp'
 have H' : bK G fr aD st'.hp { aB with heap := h' } := by
  refine ⟨fun b o e => (hs.2 b fun q => by subst q; rw [h3] at e; cases e).trans (aJ.h.base b o e), aJ.h.len, aJ.h.nod, fun n c b hc hb => ?_, aJ.h.low, fun e he => ?_⟩
  ·obtain ⟨o, g1, g2⟩ := aJ.h.obj n c b hc hb
   exact ⟨o, (hs.2 b (LE (mem_of_getElem? hb))).trans g1, g2.mono (fun zz zz e => e) still⟩
  ·obtain ⟨k, L, o, g1, g2, ⟨es, nn, g3⟩, g4, g5⟩ := aJ.h.frs e he
   exact ⟨k, L, o, g1, notD g2 (fun q e => by rw [g3] at e; cases e), ⟨es, nn, g3⟩, g4, g5⟩
 have e1 := aJ.e
 have hne : ∀ {b : Addr}, b ∈ own -> b ≠ D := fun hb q => h2 (q ▸ hb)
 have E' : nA G sc env own aD st'.env { aB with heap := h' } := by
  refine ⟨e1.ok, fun b hb => ?_, e1.lown, ?_, fun y u hy => ?_, fun y c hy => ?_, e1.cown, e1.cnot⟩
  ·obtain ⟨g1, g2, o, g3, g4⟩ := e1.ownp b hb
   exact ⟨g1, g2, o, (hs.2 b (hne hb)).trans g3, g4⟩
  ·obtain ⟨mm, hn, hmm⟩ := e1.loc
   refine ⟨mm, hn.sameBut hs (hne e1.lown), fun y u hy hk => ?_⟩
   obtain ⟨w', g1, g2⟩ := hmm y u hy hk
   exact ⟨w', g1, g2.mono (fun zz zz e => e) still⟩
  ·rcases e1.cel y u hy with q' | ⟨q', c, w', g1, g2, g3⟩
   ·exact .inl q'
   ·obtain ⟨oc, k1, k2⟩ := id g2
    exact .inr ⟨q', c, w', g1, ⟨oc, notD k1 (fun q e => by rw [k2] at e; cases e), k2⟩, g3.mono (fun zz zz e => e) still⟩
  ·obtain ⟨⟨w', oc, k1, k2⟩, g2, g3⟩ := e1.cells y c hy
   exact ⟨⟨w', oc, notD k1 (fun q e => by rw [k2] at e; cases e), k2⟩, g2, g3⟩
 refine h { aB with heap := h' } aD (cN.trans I.h.len (aT.more fun b hb => mem_cons_of_mem _ hb) ?_) ⟨H', E'⟩ ⟨⟨vs ++ [w], by simpa using hp', ((hr.mono (fun zz zz e => e) still).append (.cons (bH.mono (fun zz zz e => e) still) .nil))⟩, h1, h2, h3⟩
 refine ⟨⟨[], by simp, by simp⟩, ⟨h', aB.toks, rfl⟩, fun b o e => ?_, fun b o e hm hb => ⟨o.slots, (hs.2 b fun q => hb (q ▸ mem_cons_self)).trans e, fun zz => rfl⟩, fun n c hc => ⟨c, hc, Nat.le_refl _, fun zz => ⟨rfl, fun b hb => hs.2 b (LE (mem_of_getElem? hb))⟩⟩⟩
 by_cases q : b = D
 ·exact ⟨_, q ▸ hD'⟩
 ·exact ⟨_, (hs.2 b q).trans e⟩
noncomputable def iO (ipos : Pos) (tgt : Expr) (ifs : List Expr) (K : Env -> Value -> Sem Unit) (c : Code) (it acc : Value) (env : Env) : Sem Fin := do
 standAt ipos
 match <- pyNext it with
 | none => pure (.done .next)
 | some v =>
  letOwnedTupleGo tgt it v
  assign tgt env v
  let mut ok := true
  for c in ifs do
   if ok then ok <- isTrue c env (eval c env)
  if ok then
   K env acc
  again c
noncomputable def BA (elt : Expr) (gens : List Comprehension) (scope : Scope) (pos : Pos) (g : Comprehension) (depth : Nat) (env : Env) (acc : Value) : Sem Unit := do
 let x <- eval g.iter env
 standAt g.iter.pos
 let x <- foldedSetIterable g.iter env x
 let _ <- runOwn (.compStart (.ListComp elt gens scope pos) depth (<- holding [x] (pyIter x)) acc env) env
theorem BP {elt t i : Expr} {ifs : List Expr} {scope : Scope} {pos : Pos} (it acc : Value) (env : Env) : compTurn (.ListComp elt [⟨t, i, ifs, 0⟩] scope pos) 0 it acc env = iO i.pos t ifs (IW elt) (.compLoop (.ListComp elt [⟨t, i, ifs, 0⟩] scope pos) 0 it acc env) it acc env := by rfl
theorem yX {elt t i t' i' : Expr} {ifs ifs' : List Expr} {scope : Scope} {pos : Pos} (it acc : Value) (env : Env) : compTurn (.ListComp elt [⟨t, i, ifs, 0⟩, ⟨t', i', ifs', 0⟩] scope pos) 0 it acc env =
  iO i.pos t ifs (BA elt [⟨t, i, ifs, 0⟩, ⟨t', i', ifs', 0⟩] scope pos ⟨t', i', ifs', 0⟩ 1) (.compLoop (.ListComp elt [⟨t, i, ifs, 0⟩, ⟨t', i', ifs', 0⟩] scope pos) 0 it acc env) it acc env := by
 unfold compTurn iO BA
 simp only [List.getElem?_cons_zero, bne_self_eq_false, Bool.false_eq_true, if_false, Nat.zero_add, List.getElem?_cons_succ, bind_assoc, pure_bind]
 congr 1
theorem JG {elt t i t' i' : Expr} {ifs ifs' : List Expr} {scope : Scope} {pos : Pos} (it acc : Value) (env : Env) : compTurn (.ListComp elt [⟨t, i, ifs, 0⟩, ⟨t', i', ifs', 0⟩] scope pos) 1 it acc env =
  iO i'.pos t' ifs' (IW elt) (.compLoop (.ListComp elt [⟨t, i, ifs, 0⟩, ⟨t', i', ifs', 0⟩] scope pos) 1 it acc env) it acc env := by rfl
theorem nO {elt : Expr} {gens : List Comprehension} {scope : Scope} {pos ipos : Pos} {depth : Nat} {tgt : Expr} {ifs : List Expr} {K : Env -> Value -> Sem Unit} {f : AV -> AM Unit} {tst : AM Bool} {m : AM (List AV)}
  (ST : fY G sc d f tgt) (hT : gA f) (STs : lZ G sc d tst ifs) (SK : wQ G sc d m K)
  (hturn : ∀ (it acc : Value) (env : Env), compTurn (.ListComp elt gens scope pos) depth it acc env = iO ipos tgt ifs K (.compLoop (.ListComp elt gens scope pos) depth it acc env) it acc env)
  {A : Around} {fr : List Env} {env : Env} {own own₂ r0 eE : List Addr} {hps hpI : AH} {ss sI jI : Shared} {st₀ st' : AS} {ai : kN} {I D : Addr} {fp wr jk : List Addr} {P : Nat -> Value -> Heap -> Heap -> Prop} {St : Nat -> Heap -> Prop} {xs : List AV} {vs : List Value} {pre ys : List AV}
  (hA : tG A fr true d) (Hs : bK G fr r0 hps ss) (i_ : cN own₂ fr r0 hps ss eE st₀.hp jI) (hown : ∀ a ∈ D :: own, a ∈ own₂) (rX : fJ G sc fr env own eE st₀ jI)
  (O : AQ G A tgt eE hpI ss.heap sI ai I fp wr jk P St xs vs) (hfp : ∀ b ∈ fp, b ∉ D :: own /\ b ∉ sP fr) (hst : (∀ g ∈ ai.gs, st₀.hp[g.1]? = some g.2) -> St 0 jI.heap) (hvs : dX G eE jI.heap xs vs) (hpr : sY ai fp eE eE jI)
  (acc : j_ G own eE D jI.heap pre) (hm : compLoop ai.gs f tst m ai.items st₀ = some (ys, st')) (hl : (pre ++ ys).length <= 1000000)
  (Z : List Addr -> Shared -> Prop) (hZe : ∀ {μ bM : List Addr} {hp hp' : AH} {s s' : Shared}, bK G fr μ hp s -> DJ (D :: own) s -> cN (D :: own) fr μ hp s bM hp' s' -> Z μ s -> Z bM s') (hZk : ∀ {μ : List Addr} {s : Shared} {h' : Heap} {tk : Nat}, vO μ s.heap h' -> Z μ s -> Z μ { s with heap := h', toks := tk }) (hZ : Z eE jI)
  {R : Result -> Shared -> Prop} (hR : ∀ s' bM, cN own₂ fr r0 hps ss bM st'.hp s' -> fJ G sc fr env own bM st' s' -> j_ G own bM D s'.heap (pre ++ ys) -> Z bM s' -> R (.ok .next) s') :
  codeAny G.M A (.compLoop (.ListComp elt gens scope pos) depth (.ref I) (.ref D) env) R jI := by
 have hfp' : ∀ b ∈ fp, b ∉ sP fr := fun b hb => (hfp b hb).2
 have hfo : ∀ b ∈ fp, b ∉ own /\ b ∉ sP fr := fun b hb => ⟨fun q => (hfp b hb).1 (mem_cons_of_mem _ q), (hfp b hb).2⟩
 have ownD : ∀ {μ : List Addr} {st : AS} {s : Shared} {zs : List AV}, fJ G sc fr env own μ st s -> j_ G own μ D s.heap zs -> DJ (D :: own) s := fun {μ st s zs} I a b hb o ho => by
  rcases mem_cons.mp hb with q | q
  ·subst q
   obtain ⟨ws, ⟨n, hw⟩, _⟩ := a.row
   rw [ho] at hw; cases hw
   exact .inr (.inr ⟨rfl, _, _, rfl⟩)
  ·exact I.e.ownK b q o ho
 have up : ∀ {μ bM : List Addr} {hp hp' : AH} {s s' : Shared}, cN own fr μ hp s bM hp' s' -> cN (D :: own) fr μ hp s bM hp' s' := fun x => x.more fun b hb => mem_cons_of_mem _ hb
 refine codeAny_loop rfl (fun k aB => ∃ i aD st₁ zs zr, k + i = ai.items.length + 1 /\ i <= ai.items.length /\ cN own₂ fr r0 hps ss aD st₁.hp aB /\ fJ G sc fr env own aD st₁ aB /\ (∀ (n : Nat) (a : Addr), eE[n]? = some a -> aD[n]? = some a) /\ sY ai fp eE aD aB /\
  ((∀ g ∈ ai.gs, st₁.hp[g.1]? = some g.2) -> St i aB.heap) /\ dX G aD aB.heap xs vs /\ j_ G own aD D aB.heap zs /\ zs ++ zr = pre ++ ys /\ compLoop ai.gs f tst m (ai.items.drop i) st₁ = some (zr, st') /\ Z aD aB) ?_ (ai.items.length + 1)
  ⟨0, eE, st₀, pre, ys, by omega, Nat.zero_le _, i_, rX, fun zz zz e => e, hpr, hst, hvs, acc, rfl, by simpa using hm, hZ⟩
 rintro k aB zI2
 refine Mine.hold fun gL bk => ?_
 obtain ⟨i, aD, st₁, zs, zr, hk, hi, aT, aJ, lV, lN, hSt, W_, PG, hzz, hrun, UN⟩ := zI2
 refine bk ?_; clear bk gL
 show wpAny _ A ((compTurn (.ListComp elt gens scope pos) depth (.ref I) (.ref D) env).onRaise (fun x => do noteFrame x env; theTreesLotGoes x)) _ _ aB
 refine wpAny_noted ?_
 rw [hturn]
 unfold iO
 refine wpAny_bind (wpAny_standAt (wpAny_bind ?_))
 by_cases hlt : i < ai.items.length
 ·rw [List.drop_eq_getElem_cons hlt] at hrun
  rw [xQ] at hrun
  refine Mine.hold fun gL bk => ?_
  obtain ⟨u, sg, hgd, hrun1⟩ := aF hrun
  obtain ⟨eg, hg⟩ := mK hgd
  rw [eg] at hrun1
  obtain ⟨u', st₂, htg, hrun2⟩ := aF hrun1
  refine bk ?_; clear bk gL
  refine O.walk.item i aB _ _ hlt (hSt hg) fun v h' tk hk1 hgo => ?_
  refine wpAny_bind (hgo _ _ fun h'' hP hst' hk2 => ?_)
  have hkk : ∀ b o, b ∉ wr -> aB.heap.get? b = some o -> h''.get? b = some o := fun b o hb e => hk2 b o hb (hk1 b o hb e)
  refine Mine.hold fun gL bk => ?_
  obtain ⟨bJ, bF, kept⟩ := oS (st := st₁) (tk := tk) O hfp' Hs aT lV lN aJ hg (hSt hg) hkk fun b hb => (O.kind _ _ hst' b (O.jkw b hb)).1 hb
  have rV : sY ai fp eE aD { aB with heap := h'', toks := tk } := fun b hb => by
   rcases lN b hb with q | ⟨q, o, ho⟩
   ·exact .inl q
   ·by_cases hw : b ∈ wr
    ·rcases (O.kind _ _ hst' b hw).2 with ⟨g, hgm, _, e⟩ | ⟨o', fs, e, _⟩
     ·exact .inl ⟨g, hgm, e⟩
     ·exact .inr ⟨q, o', e⟩
    ·exact .inr ⟨q, o, hkk b o hw ho⟩
  have wY : dX G aD h'' xs vs := W_.mono (fun zz zz e => e) kept.still
  have PH := PG.kept kept
  have r5 := hZk (tk := tk) kept UN
  obtain ⟨y, hy, hr⟩ := O.item i v aB.heap h'' aD hlt hP wY fun a ha => by
   obtain ⟨n, hn⟩ := List.getElem?_of_mem ha
   have hl := (List.getElem?_eq_some_iff.mp hn).1
   rw [aJ.h.len] at hl
   obtain ⟨o, ho, _⟩ := aJ.h.obj n _ a (getElem?_eq_getElem hl) hn
   exact ⟨o, ho⟩
  rw [getElem?_eq_getElem hlt] at hy
  cases hy
  refine bk ?_; clear bk gL
  refine wpAny_bind (ST A fr env own aD st₁ _ _ v st₂ hA bF hr htg _ _ fun dG eO cI cF => wpAny_bind ?_)
  have hhp := hT _ _ _ htg
  have HC : St (i + 1) dG.heap := uJ (st₁ := st₁) (st₂ := st₂) O hfo lV rV cI hg (by rw [hhp]; exact hg) hst'
  refine Mine.hold fun gL bk => ?_
  obtain ⟨b, lE, hb, hrun3⟩ := aF hrun2
  refine bk ?_; clear bk gL
  refine STs A fr env own eO st₂ dG b lE hA cF hb _ _ fun b' hK rY lH kK HD => ?_
  subst HD
  have HE := PH.ext bF cI
  have HF := HE.ext cF lH
  have r6 := hZe bF.h (ownD bF PH) (up cI) r5
  have UO := hZe cF.h (ownD cF HE) (up lH) r6
  have wZ : sY ai fp eE eO dG := rV.ext (st₁ := st₁) (st₂ := st₂) cI
  have again : ∀ {pQ : AS} {jW : Shared} {pR : List Addr} {zs' zr' : List AV}, cN (D :: own) fr eO st₂.hp dG pR pQ.hp jW -> fJ G sc fr env own pR pQ jW -> j_ G own pR D jW.heap zs' -> zs' ++ zr' = pre ++ ys -> Z pR jW -> compLoop ai.gs f tst m (ai.items.drop (i + 1)) pQ = some (zr', st') ->
    ∃ m_1, m_1 < k /\ ∃ i aD st₁ zs zr, m_1 + i = ai.items.length + 1 /\ i <= ai.items.length /\ cN own₂ fr r0 hps ss aD st₁.hp jW /\ fJ G sc fr env own aD st₁ jW /\ (∀ (n : Nat) (a : Addr), eE[n]? = some a -> aD[n]? = some a) /\ sY ai fp eE aD jW /\
    ((∀ g ∈ ai.gs, st₁.hp[g.1]? = some g.2) -> St i jW.heap) /\ dX G aD jW.heap xs vs /\ j_ G own aD D jW.heap zs /\ zs ++ zr = pre ++ ys /\ compLoop ai.gs f tst m (ai.items.drop i) st₁ = some (zr, st') /\ Z aD jW := fun {pQ jW pR zs' zr'} pF rZ XA r7 r8 r9 => by
   refine ⟨k - 1, by omega, i + 1, pR, pQ, zs', zr', by omega, hlt, cN.trans Hs.len bJ (cN.trans bF.h.len ((up cI).more hown) (pF.more hown)), rZ, fun n a e => pF.mu (cI.mu (lV n a e)), wZ.ext (st₁ := st₂) (st₂ := pQ) pF, fun s0 => ?_, ?_, XA, r7, r9, r8⟩
   ·exact uJ (st₁ := st₂) (st₂ := pQ) O hfp (fun n a e => cI.mu (lV n a e)) wZ pF (by rw [hhp]; exact hg) s0 HC
   ·exact (bF.vrs (st₁ := st₂) cI wY).ext cF.h (ownD cF HE) pF
  cases b with
  | false =>
   simp only [Bool.false_eq_true, if_false] at hrun3 |-
   exact wpAny_pure ⟨rfl, again (up lH) kK HF hzz UO hrun3⟩
  | true =>
   simp only [if_true] at hrun3 |-
   refine Mine.hold fun gL bk => ?_
   obtain ⟨ye, pQ, hye, hrun4⟩ := aF hrun3
   obtain ⟨zr', M2, hzr, hfin⟩ := aF hrun4
   cases hfin
   refine bk ?_; clear bk gL
   refine wpAny_bind (SK A fr env own rY lE hK ye pQ D zs hA kK HF hye ?_ _ _ fun jW pR pF rZ XA => wpAny_pure ⟨rfl, ?_⟩)
   ·have := congrArg List.length hzz
    simp only [length_append] at this hl |-
    omega
   ·exact again (cN.trans cF.h.len (up lH) pF) rZ XA (by rw [append_assoc]; exact hzz) (hZe kK.h (ownD kK HF) pF UO) hzr
 ·have hin : i = ai.items.length := Nat.le_antisymm hi (Nat.le_of_not_lt hlt)
  refine Mine.hold fun gL bk => ?_
  subst hin
  rw [List.drop_length] at hrun
  rw [zY] at hrun
  obtain ⟨u, sg, hgd, hrun1⟩ := aF hrun
  obtain ⟨eg, hg⟩ := mK hgd
  rw [eg] at hrun1
  cases hrun1
  refine bk ?_; clear bk gL
  refine O.walk.done aB _ _ (hSt hg) fun h' tk hk1 hal => wpAny_pure ?_
  refine Mine.hold fun gL bk => ?_
  obtain ⟨bJ, bF, kept⟩ := oS (st := st') (tk := tk) O hfp' Hs aT lV lN aJ hg (hSt hg) hk1 hal
  refine bk ?_; clear bk gL
  exact hR _ _ bJ bF (hzz ▸ (by simpa using PG.kept kept)) (hZk kept UN)
end
noncomputable def jC (cells : List (PySem.Str × Addr)) : List (PySem.Str × NameKind) -> List (PySem.Str × Addr) -> List (PySem.Str × Addr) := List.rec (fun acc => acc) fun x zz ih acc => if x.2 == .free then ih ((x.1, (cells.lookup x.1).getD 0) :: acc) else ih acc
theorem lB (cells : List (PySem.Str × Addr)) (x : PySem.Str × NameKind) (r : List (PySem.Str × NameKind)) (acc : List (PySem.Str × Addr)) : jC cells (x :: r) acc = if x.2 == .free then jC cells r ((x.1, (cells.lookup x.1).getD 0) :: acc) else jC cells r acc := rfl
theorem KW {cells : List (PySem.Str × Addr)} {x : PySem.Str} {c : Addr} {names : List (PySem.Str × NameKind)} : ∀ {acc : List (PySem.Str × Addr)}, (x, c) ∈ jC cells names acc -> (x, c) ∈ acc \/ ((x, NameKind.free) ∈ names /\ c = (cells.lookup x).getD 0) := by
 induction names with
 | nil => exact fun h => .inl h
 | cons z r ih =>
  intro acc h
  rw [lB] at h
  split at h
  ·rename_i hk
   rcases ih h with q | ⟨q, e⟩
   ·rcases mem_cons.mp q with q | q
    ·obtain ⟨n, k⟩ := z
     cases q
     have : k = .free := by simpa using hk
     subst this
     exact .inr ⟨mem_cons_self, rfl⟩
    ·exact .inl q
   ·exact .inr ⟨mem_cons_of_mem _ q, e⟩
  ·rcases ih h with q | ⟨q, e⟩
   ·exact .inl q
   ·exact .inr ⟨mem_cons_of_mem _ q, e⟩
theorem JH {cells : List (PySem.Str × Addr)} {x : PySem.Str × Addr} {names : List (PySem.Str × NameKind)} : ∀ {acc : List (PySem.Str × Addr)}, x ∈ acc -> x ∈ jC cells names acc := by
 induction names with
 | nil => exact fun h => h
 | cons z r ih =>
  intro acc h
  rw [lB]
  split
  ·exact ih (mem_cons_of_mem _ h)
  ·exact ih h
theorem KR {cells : List (PySem.Str × Addr)} {x : PySem.Str} {names : List (PySem.Str × NameKind)} : ∀ {acc : List (PySem.Str × Addr)}, (x, NameKind.free) ∈ names -> ∃ c, (x, c) ∈ jC cells names acc := by
 induction names with
 | nil => exact fun h => absurd h not_mem_nil
 | cons z r ih =>
  intro acc h
  rw [lB]
  rcases mem_cons.mp h with q | q
  ·rw [<- q, if_pos (by rfl)]
   exact ⟨_, JH mem_cons_self⟩
  ·split
   ·exact ih q
   ·exact ih q
theorem CR {cells : List (PySem.Str × Addr)} {names : List (PySem.Str × NameKind)} : ∀ {acc : List (PySem.Str × Addr)}, (names.map (·.1)).Nodup -> (acc.map (·.1)).Nodup -> (∀ x ∈ names.map (·.1), x ∉ acc.map (·.1)) -> ((jC cells names acc).map (·.1)).Nodup := by
 induction names with
 | nil => exact fun zz h zz => h
 | cons z r ih =>
  intro acc h1 h2 h3
  rw [lB]
  rw [map_cons, nodup_cons] at h1
  rw [map_cons] at h3
  split
  ·refine ih h1.2 ?_ fun x hx hm => ?_
   ·rw [map_cons, nodup_cons]
    exact ⟨h3 _ mem_cons_self, h2⟩
   ·rw [map_cons] at hm
    rcases mem_cons.mp hm with q | q
    ·subst q; exact h1.1 hx
    ·exact h3 x (mem_cons_of_mem _ hx) q
  ·exact ih h1.2 h2 fun x hx => h3 x (mem_cons_of_mem _ hx)
theorem jK {α : Type} {x : PySem.Str} {c : α} : ∀ {l : List (PySem.Str × α)}, (x, c) ∈ l -> ∃ c', l.lookup x = some c'
 | (n, v) :: r, h => by
  rw [lookup_cons]
  cases hb : x == n with
  | true => exact ⟨v, rfl⟩
  | false =>
   rcases mem_cons.mp h with q | q
   ·cases q; simp at hb
   ·exact jK q
theorem eB {α : Type} {x : PySem.Str} {c : α} : ∀ {l : List (PySem.Str × α)}, (l.map (·.1)).Nodup -> (x, c) ∈ l -> l.lookup x = some c
 | (n, v) :: r, hn, h => by
  rw [map_cons, nodup_cons] at hn
  rw [lookup_cons]
  rcases mem_cons.mp h with q | q
  ·cases q; simp
  ·have : (x == n) = false := by
    cases hb : x == n with
    | false => rfl
    | true => exact absurd (mem_map.mpr ⟨_, q, beq_iff_eq.mp hb⟩) hn.1
   rw [this]
   exact eB hn.2 q
theorem cU : ∀ {names : List (PySem.Str × NameKind)} {n : Nat} {acc : List (PySem.Str × Addr)}, cellsFrom n names acc = cellsFrom n names [] ++ acc
 | [], n, acc => rfl
 | (x, k) :: r, n, acc => by
  unfold cellsFrom
  split
  ·rw [cU, cU (acc := [(x, n)])]; simp
  ·exact cU
theorem gF {x : PySem.Str} {c : Addr} : ∀ {names : List (PySem.Str × NameKind)} {n : Nat}, (x, c) ∈ cellsFrom n names [] -> (x, NameKind.cell) ∈ names
 | (y, k) :: r, n, h => by
  unfold cellsFrom at h
  split at h
  ·rename_i hk
   rw [cU] at h
   rcases mem_append.mp h with q | q
   ·exact mem_cons_of_mem _ (gF q)
   ·simp at q
    have : k = .cell := by simpa using hk
    rw [q.1, this]; exact mem_cons_self
  ·exact mem_cons_of_mem _ (gF h)
theorem fG {x : PySem.Str} : ∀ {names : List (PySem.Str × NameKind)} {n : Nat}, (x, NameKind.cell) ∈ names -> ∃ c, (x, c) ∈ cellsFrom n names []
 | (y, k) :: r, n, h => by
  unfold cellsFrom
  rcases mem_cons.mp h with q | q
  ·cases q
   rw [if_pos (by rfl), cU]
   exact ⟨n, List.mem_append_right _ (by simp)⟩
  ·split
   ·rw [cU]
    obtain ⟨c, hc⟩ := fG (n := n + 1) q
    exact ⟨c, mem_append_left _ hc⟩
   ·exact fG q
theorem xN {env : Env} {cs : Scope} (h : ∀ x ∈ cs.names, x.2 = NameKind.free -> ∃ c, env.cells.lookup x.1 = some c) : closureFor cs env = pure (jC env.cells cs.names []) := by
 unfold closureFor
 have go : ∀ (names : List (PySem.Str × NameKind)) (acc : List (PySem.Str × Addr)), (∀ x ∈ names, x.2 = NameKind.free -> ∃ c, env.cells.lookup x.1 = some c) ->
   (forIn names acc fun x r => if (x.2 == NameKind.free) = true then do let a <- cellOf env x.1; pure (ForInStep.yield ((x.1, a) :: r)) else pure (ForInStep.yield r) : Sem _) = pure (jC env.cells names acc) := by
  intro names
  induction names with
  | nil => intro acc _; rfl
  | cons x r ih =>
   intro acc hx
   obtain ⟨n, k⟩ := x
   rw [List.forIn_cons]
   rw [lB]
   by_cases hk : (k == NameKind.free) = true
   ·obtain ⟨c, hc⟩ := hx (n, k) mem_cons_self (by simpa using hk)
    simp only at hc
    rw [if_pos hk]
    simp only [hk, if_true, cellOf, hc, Option.getD_some, pure_bind]
    exact ih _ fun y hy => hx y (mem_cons_of_mem _ hy)
   ·rw [if_neg hk]
    simp only [hk, if_false, pure_bind, Bool.false_eq_true]
    exact ih _ fun y hy => hx y (mem_cons_of_mem _ hy)
 have := go cs.names [] h
 first
  | exact this
  | (simp only [bind_pure]; exact this)
structure sX (sc : SC) (cs : Scope) : Prop where
 kind : cs.kind = .function
 nodup : (cs.names.map (·.1)).Nodup
 frees : ∀ x, (x, NameKind.free) ∈ cs.names -> sc.scope.names.lookup x = some .cell \/ sc.scope.names.lookup x = some .free
noncomputable def zW : List PySem.Str -> Bool := List.rec true fun x r ih => !r.contains x && ih
theorem yK {l : List PySem.Str} (h : zW l = true) : l.Nodup := by
 induction l with
 | nil => exact nodup_nil
 | cons x r ih =>
  have h : (!r.contains x && zW r) = true := h
  simp only [Bool.and_eq_true, Bool.not_eq_true', List.contains_eq_mem, decide_eq_false_iff_not] at h
  exact nodup_cons.mpr ⟨h.1, ih h.2⟩
noncomputable def oQ (sc : SC) (cs : Scope) : Bool := cs.kind == .function && zW (cs.names.map (·.1)) && cs.names.all fun x => x.2 != NameKind.free || (sc.scope.names.lookup x.1 == some NameKind.cell || sc.scope.names.lookup x.1 == some NameKind.free)
theorem oM {sc : SC} {cs : Scope} (h : oQ sc cs = true) : sX sc cs := by
 simp only [oQ, Bool.and_eq_true, List.all_eq_true] at h
 obtain ⟨⟨h1, h2⟩, h3⟩ := h
 refine ⟨by simpa using h1, yK h2, fun x hx => ?_⟩
 have := h3 _ hx
 simpa using this
noncomputable def gS (sc : SC) (cs : Scope) : Scope := { cs with names := cs.names.map fun x => if (x.2 == NameKind.free && sc.scope.kind == .function && sc.scope.names.lookup x.1 == some NameKind.cell) = true then (x.1, NameKind.cell) else x }
noncomputable def dK (sc : SC) (cs : Scope) : SC := ⟨gS sc cs, (cs.names.filter (·.2 == NameKind.cell)).map (·.1)⟩
theorem uY {sc : SC} {cs : Scope} {env : Env} (h : env.scope = sc.scope) : relabel cs env = gS sc cs := by
 unfold relabel gS Env.kindOf
 rw [h]
noncomputable def fT (xs : List String) (ρ : List (String × AV)) : List (String × AV) := ρ.filter fun e => xs.contains e.1
theorem g_ {xs : List String} {x : String} {v : AV} : ∀ {ρ : List (String × AV)}, (fT xs ρ).lookup x = some v -> x ∈ xs /\ ρ.lookup x = some v
 | [], h => by simp [fT] at h
 | (y, w) :: r, h => by
  unfold fT at h
  rw [filter_cons] at h
  by_cases hy : x = y
  ·subst hy
   split at h
   ·rename_i hc
    simp at h; subst h
    exact ⟨by simpa using hc, by simp⟩
   ·rename_i hc
    have := (g_ (ρ := r) h).1
    simp at hc; exact absurd this hc
  ·have hb : (x == y) = false := by simp [hy]
   split at h
   ·rw [lookup_cons, hb] at h
    have := g_ (ρ := r) h
    rw [lookup_cons, hb]; exact this
   ·have := g_ (ρ := r) h
    rw [lookup_cons, hb]; exact this
section
variable {G : a_} {sc : SC} {d : Nat}
noncomputable def fW (cs : Scope) (C : Addr) (env : Env) : Env :=
 { scope := relabel cs env, locals := C, globals := env.globals, cells := cellsFrom (C + 1) cs.names (jC env.cells cs.names []), qual := env.qual, func := none, code := env.code, frame := env.frame, builtins := env.builtins }
noncomputable def fL (cs : Scope) (h : Heap) : Heap := pushCells (h.push { cls := .type "dict", data := .dict #[] }) cs.names
noncomputable def iU (cs : Scope) (C : Addr) : List Addr := C :: (cellsFrom (C + 1) cs.names []).map (·.2)
theorem GP {A : Around} {E : Value -> Shared -> Prop} {s : Shared} {cs : Scope} {env : Env} {Q : Env -> Shared -> Prop} (h : ∀ cenv, { cenv with scope := relabel cs env } = fW cs s.heap.objs.size env -> cenv.locals = s.heap.objs.size -> Q cenv { s with heap := fL cs s.heap }) :
  wpAny G.M A (newFunctionEnv cs env.globals (jC env.cells cs.names []) [] env.qual none .none (some env)) Q E s := by
 simp only [newFunctionEnv, Option.isSome_some, if_true]
 refine wpAny_bind (wpAny_alloc ?_)
 refine wpAny_bind (wpAny_layCells _ (fun name kind cells => by cases hkc : kind == NameKind.cell <;> simp [hkc]) _ _ _ _ ?_)
 rw [show ({ s with heap := s.heap.push { cls := .type "dict", data := .dict #[] } } : Shared).heap.objs.size = s.heap.objs.size + 1 from Heap.size_push ..]
 refine wpAny_bind ?_
 rw [List.forIn_nil]
 exact wpAny_pure (wpAny_pure (h _ rfl rfl))
theorem nZ {cs : Scope} {h : Heap} {b : Addr} {o : Obj} (e : h.get? b = some o) : (fL cs h).get? b = some o := pushCells_keeps _ _ b o (Heap.get?_push_of_some _ e)
theorem lS {cs : Scope} {h : Heap} {a : Addr} (ha : a ∈ iU cs h.objs.size) : h.get? a = none := by
 have ok := cellsFrom_ok cs.names (h.push { cls := .type "dict", data := .dict #[] }) (h.objs.size + 1) [] ⟨fun zz zz hm => (nomatch hm), List.Pairwise.nil⟩ (by rw [Heap.size_push]; exact Nat.le_refl _)
 rw [Heap.size_push] at ok
 rcases mem_cons.mp ha with q | q
 ·subst q; exact Heap.get?_none_of_le (Nat.le_refl _)
 ·obtain ⟨⟨n, c⟩, hc, rfl⟩ := mem_map.mp q
  exact Heap.get?_none_of_le (Nat.le_of_succ_le (ok.empty n c hc).2)
theorem ON {cs : Scope} {fr : List Env} {env : Env} {own μ : List Addr} {st : AS} {s : Shared} {frees : List String} (ck : sX sc cs) (hfr : ∀ x ∈ frees, (Str.ofString x, NameKind.free) ∈ cs.names) (I : fJ G sc fr env own μ st s) (tk : Nat) :
  fJ G (dK sc cs) fr (fW cs s.heap.objs.size env) (iU cs s.heap.objs.size) μ { st with env := fT frees st.env } { s with heap := fL cs s.heap, toks := tk } := by
 have ok := cellsFrom_ok cs.names (s.heap.push { cls := .type "dict", data := .dict #[] }) (s.heap.objs.size + 1) [] ⟨fun zz zz hm => (nomatch hm), List.Pairwise.nil⟩ (by rw [Heap.size_push]; exact Nat.le_refl _)
 rw [Heap.size_push] at ok
 have hk : ∀ b o, s.heap.get? b = some o -> (fL cs s.heap).get? b = some o := fun b o e => nZ e
 have hC : (fL cs s.heap).get? s.heap.objs.size = some { cls := .type "dict", data := .dict #[] } := pushCells_keeps _ _ _ _ (Heap.get?_push_size _ rfl)
 have low : ∀ {a : Addr}, s.heap.get? a = none -> a ∉ μ /\ G.h₀.get? a = none := fun {a} h => by
  refine ⟨fun hm => ?_, ?_⟩
  ·obtain ⟨n, hn⟩ := List.getElem?_of_mem hm
   have hl := (List.getElem?_eq_some_iff.mp hn).1
   rw [I.h.len] at hl
   obtain ⟨o, ho, _⟩ := I.h.obj n _ a (getElem?_eq_getElem hl) hn
   rw [h] at ho; cases ho
  cases e : G.h₀.get? a with
  | none => rfl
  | some o => have := I.h.base _ _ e; rw [h] at this; cases this
 have still : eU μ μ s.heap (fL cs s.heap) := eU.of_keeps hk
 have hes : env.scope = sc.scope := I.e.ok.scope
 have hfn : sc.scope.kind = .function := hes ▸ I.e.ok.fn
 have clo : ∀ {x : PySem.Str}, (x, NameKind.free) ∈ cs.names -> ∃ c, env.cells.lookup x = some c := fun {x} hx => by
  rcases ck.frees x hx with q | q
  ·exact I.e.ok.cellok x _ q (.inl rfl)
  ·exact I.e.ok.cellok x _ q (.inr rfl)
 have clm : ∀ {x : PySem.Str} {c : Addr}, (x, c) ∈ jC env.cells cs.names [] -> (x, NameKind.free) ∈ cs.names /\ env.cells.lookup x = some c := fun {x c} h => by
  rcases KW h with q | ⟨q, e⟩
  ·cases q
  ·obtain ⟨c', hc'⟩ := clo q
   rw [hc'] at e; simp at e; subst e
   exact ⟨q, hc'⟩
 have names_uniq : ∀ {x : PySem.Str} {k k' : NameKind}, (x, k) ∈ cs.names -> (x, k') ∈ cs.names -> k = k' := fun h h' => by
  have e1 := eB ck.nodup h
  have e2 := eB ck.nodup h'
  rw [e1] at e2; cases e2
 have cells_split : ∀ {x : PySem.Str} {c : Addr}, (x, c) ∈ (fW cs s.heap.objs.size env).cells -> ((x, NameKind.cell) ∈ cs.names /\ (x, c) ∈ cellsFrom (s.heap.objs.size + 1) cs.names []) \/ ((x, NameKind.free) ∈ cs.names /\ env.cells.lookup x = some c) := fun {x c} h => by
  have h : (x, c) ∈ cellsFrom (s.heap.objs.size + 1) cs.names (jC env.cells cs.names []) := h
  rw [cU] at h
  rcases mem_append.mp h with q | q
  ·exact .inl ⟨gF q, q⟩
  ·exact .inr (clm q)
 have look_free : ∀ {x : PySem.Str}, (x, NameKind.free) ∈ cs.names -> ∃ c, (fW cs s.heap.objs.size env).cells.lookup x = some c /\ env.cells.lookup x = some c := fun {x} hx => by
  obtain ⟨c, hc⟩ := KR (cells := env.cells) (acc := []) hx
  have : (x, c) ∈ (fW cs s.heap.objs.size env).cells := by
   show (x, c) ∈ cellsFrom (s.heap.objs.size + 1) cs.names (jC env.cells cs.names [])
   rw [cU]; exact List.mem_append_right _ hc
  obtain ⟨c', hc'⟩ := jK this
  rcases cells_split (mem_of_lookup hc') with ⟨q, _⟩ | ⟨_, q⟩
  ·cases names_uniq hx q
  ·exact ⟨c', hc', q⟩
 have look_cell : ∀ {x : PySem.Str}, (x, NameKind.cell) ∈ cs.names -> ∃ c, (fW cs s.heap.objs.size env).cells.lookup x = some c /\ (x, c) ∈ cellsFrom (s.heap.objs.size + 1) cs.names [] := fun {x} hx => by
  obtain ⟨c, hc⟩ := fG (n := s.heap.objs.size + 1) hx
  have : (x, c) ∈ (fW cs s.heap.objs.size env).cells := by
   show (x, c) ∈ cellsFrom (s.heap.objs.size + 1) cs.names (jC env.cells cs.names [])
   rw [cU]; exact mem_append_left _ hc
  obtain ⟨c', hc'⟩ := jK this
  rcases cells_split (mem_of_lookup hc') with ⟨_, q⟩ | ⟨q, _⟩
  ·exact ⟨c', hc', q⟩
  ·cases names_uniq hx q
 have kmem : ∀ {x : PySem.Str} {k : NameKind}, (x, k) ∈ (gS sc cs).names -> ((x, k) ∈ cs.names /\ ¬ (k = .free /\ sc.scope.names.lookup x = some .cell)) \/ (k = .cell /\ (x, NameKind.free) ∈ cs.names /\ sc.scope.names.lookup x = some .cell) := fun {x k} h => by
  obtain ⟨⟨y, k'⟩, hy, e⟩ := mem_map.mp h
  simp only [hfn] at e
  split at e
  ·rename_i hc
   cases e
   simp at hc
   rw [hc.1] at hy
   exact .inr ⟨rfl, hy, hc.2⟩
  ·rename_i hc
   cases e
   refine .inl ⟨hy, fun ⟨q1, q2⟩ => hc ?_⟩
   simp [q1, q2]
 have rnodup : ((gS sc cs).names.map (·.1)).Nodup := by
  have : (gS sc cs).names.map (·.1) = cs.names.map (·.1) := by
   unfold gS
   rw [map_map]
   refine List.map_congr_left fun x zz => ?_
   simp only [Function.comp]
   split <;> rfl
  rw [this]; exact ck.nodup
 have hkind : ∀ x, (fW cs s.heap.objs.size env).kindOf x = (gS sc cs).names.lookup x := fun x => by
  show (relabel cs env).names.lookup x = _
  rw [uY hes]
 have free_kind : ∀ {x : PySem.Str}, (x, NameKind.free) ∈ cs.names -> (gS sc cs).names.lookup x = some .cell \/ (gS sc cs).names.lookup x = some .free := fun {x} hx => by
  by_cases q : sc.scope.names.lookup x = some .cell
  ·refine .inl (eB rnodup (mem_map.mpr ⟨_, hx, ?_⟩))
   simp [q, hfn]
  ·refine .inr (eB rnodup (mem_map.mpr ⟨_, hx, ?_⟩))
   simp [q]
 have apart : (fW cs s.heap.objs.size env).cells.Pairwise fun x y => x.2 ≠ y.2 := by
  show (cellsFrom (s.heap.objs.size + 1) cs.names (jC env.cells cs.names [])).Pairwise _
  rw [cU, List.pairwise_append]
  refine ⟨ok.apart, ?_, fun x hx y hy e => ?_⟩
  ·have hn := CR (cells := env.cells) (acc := []) ck.nodup (by simp) (by simp)
   refine (List.pairwise_map.mp hn).imp_of_mem fun {x y} hx hy hne e => hne ?_
   obtain ⟨x1, x2⟩ := x
   obtain ⟨y1, y2⟩ := y
   have e1 := (clm hx).2
   have e2 := (clm hy).2
   simp only at e; subst e
   exact name_of_addr I.e.ok.apart (mem_of_lookup e1) (mem_of_lookup e2)
  ·have h1 := (ok.empty x.1 x.2 hx).2
   obtain ⟨⟨w, g1⟩, _⟩ := I.e.cells _ _ (clm hy).2
   have h2 := g1.lt
   rw [<- e] at h2
   exact Nat.lt_irrefl _ (Nat.lt_of_lt_of_le h2 (Nat.le_of_succ_le h1))
 refine ⟨⟨fun b o e => hk b o (I.h.base b o e), I.h.len, I.h.nod, fun n c a hc ha => ?_, I.h.low, fun e he => ?_⟩, ⟨⟨?_, ?_, I.e.ok.globals, I.e.ok.builtins, apart, fun x k hx hkk => ?_⟩, fun a ha => ?_, mem_cons_self, ?_, fun x v hx => ?_, fun x c hx => ?_, fun x hx => ?_, fun x c hx hn hm => ?_⟩⟩
 ·obtain ⟨o, g1, g2⟩ := I.h.obj n c a hc ha
  exact ⟨o, hk a o g1, g2.mono (fun zz zz e => e) still⟩
 ·obtain ⟨k, L, o, g1, g2, g3⟩ := I.h.frs e he
  exact ⟨k, L, o, g1, hk L o g2, g3⟩
 ·exact uY hes
 ·show (relabel cs env).kind = _
  exact ck.kind
 ·rcases kmem (mem_of_lookup hx) with ⟨q, _⟩ | ⟨q, q', _⟩
  ·rcases hkk with rfl | rfl
   ·obtain ⟨c, h1, _⟩ := look_cell q; exact ⟨c, h1⟩
   ·obtain ⟨c, h1, _⟩ := look_free q; exact ⟨c, h1⟩
  ·obtain ⟨c, h1, _⟩ := look_free q'; exact ⟨c, h1⟩
 ·obtain ⟨h1, h2⟩ := low (lS ha)
  refine ⟨h1, h2, ?_⟩
  rcases mem_cons.mp ha with q | q
  ·subst q; exact ⟨_, hC, .inl ⟨_, _, rfl⟩⟩
  ·obtain ⟨⟨n, c⟩, hc, rfl⟩ := mem_map.mp q
   obtain ⟨o, ho, hd⟩ := (ok.empty n c hc).1
   exact ⟨o, ho, .inr (.inl ⟨_, hd⟩)⟩
 ·refine ⟨_, (Heap.Ns.new s.heap (.type "dict")).keeps (pushCells_keeps _ _), fun x v hx hkk => ?_⟩
  obtain ⟨h1, _⟩ := g_ hx
  rw [hkind] at hkk
  rcases free_kind (hfr x h1) with q | q <;> (rw [q] at hkk; cases hkk)
 ·obtain ⟨h1, h2⟩ := g_ hx
  have hf := hfr x h1
  obtain ⟨c, hc1, hc2⟩ := look_free hf
  have hko : env.kindOf (Str.ofString x) = sc.scope.names.lookup (Str.ofString x) := by unfold Env.kindOf; rw [hes]
  refine .inr ⟨by rw [hkind]; exact free_kind hf, ?_⟩
  rcases I.e.cel x v h2 with q | ⟨_, c', w, g1, g2, g3⟩
  ·rw [hko] at q
   rcases ck.frees _ hf with q' | q' <;> (rw [q] at q'; cases q')
  ·rw [hc2] at g1; cases g1
   exact ⟨c, w, hc1, g2.keeps hk, g3.mono (fun zz zz e => e) still⟩
 ·rcases cells_split (mem_of_lookup hx) with ⟨_, q⟩ | ⟨_, q⟩
  ·obtain ⟨h1, h2⟩ := ok.empty _ _ q
   exact ⟨⟨_, h1⟩, (low (Heap.get?_none_of_le (Nat.le_of_succ_le h2))).1, fun e => by
    have e : c = s.heap.objs.size := e
    rw [e] at h2
    exact Nat.not_succ_le_self _ h2⟩
  ·obtain ⟨⟨w, g1⟩, g2, g3⟩ := I.e.cells _ _ q
   exact ⟨⟨w, g1.keeps hk⟩, g2, fun e => by
    have e : c = s.heap.objs.size := e
    have := g1.lt
    rw [e] at this
    exact Nat.lt_irrefl _ this⟩
 ·obtain ⟨⟨y, k⟩, hy, e⟩ := mem_map.mp hx
  obtain ⟨hy1, hy2⟩ := mem_filter.mp hy
  simp at hy2 e
  subst e; rw [hy2] at hy1
  obtain ⟨c, h1, h2⟩ := look_cell hy1
  exact ⟨c, h1, mem_cons_of_mem _ (mem_map.mpr ⟨_, h2, rfl⟩)⟩
 ·rcases cells_split (mem_of_lookup hx) with ⟨q, _⟩ | ⟨_, q⟩
  ·exact hn (mem_map.mpr ⟨(x, NameKind.cell), mem_filter.mpr ⟨q, by rfl⟩, rfl⟩)
  ·obtain ⟨⟨w, o, g1, _⟩, _⟩ := I.e.cells _ _ q
   rw [lS hm] at g1; cases g1
end
section
variable {prog : Program} {w : World} {A : Around} {R : Result -> Shared -> Prop} {s : Shared}
theorem vI {elt t i t' i' : Expr} {ifs ifs' : List Expr} {scope : Scope} {pos : Pos} {it acc : Value} {env : Env}
  (h0 : codeAny (model prog w) A (.compLoop (.ListComp elt [⟨t, i, ifs, 0⟩, ⟨t', i', ifs', 0⟩] scope pos) 1 it acc env) R s)
  (h : wpAny (model prog w) A (pyIter it) (fun it' s' => codeAny (model prog w) A (.compLoop (.ListComp elt [⟨t, i, ifs, 0⟩, ⟨t', i', ifs', 0⟩] scope pos) 1 it' acc env) R s')
   (notedBy (model prog w) A env fun x s' => R (.error x) s') s) :
  codeAny (model prog w) A (.compStart (.ListComp elt [⟨t, i, ifs, 0⟩, ⟨t', i', ifs', 0⟩] scope pos) 1 it acc env) R s := by
 refine codeAny_of_tree ?_
 show wpAny _ _ ((compStart (.ListComp elt [⟨t, i, ifs, 0⟩, ⟨t', i', ifs', 0⟩] scope pos) 1 it acc env).onRaise (fun x => do noteFrame x env; standAt theWindowsPlace)) _ _ s
 refine wpAny_notedAt ?_
 unfold compStart
 show wpAny _ _ (ask >>= _) _ _ s
 refine wpAny_bind (wpAny_askSetting (wpAny_ite ?_))
 split
 ·first
   | exact wpAny_bind (wpAny_pure (wpAny_pure (And.intro rfl h0)))
   | exact wpAny_pure (And.intro rfl h0)
 ·first
   | exact wpAny_bind (wpAny_rule (wpAny_bind (wpAny_standAt (wpAny_bind (wpAny_mono h (fun it' s' h' => wpAny_pure (And.intro rfl h')) fun zz zz x => x)))))
   | (refine wpAny_bind (wpAny_rule ?_); show wpAny _ _ (standAt i'.pos >>= _) _ _ s; exact wpAny_bind (wpAny_standAt (wpAny_bind (wpAny_mono h (fun it' s' h' => wpAny_pure (And.intro rfl h')) fun zz zz x => x))))
end
section
variable {G : a_} {sc : SC} {d : Nat}
noncomputable def pZ (it : AM kN) (f : AV -> AM Unit) (tst : AM Bool) (m : AM (List AV)) : AM (List AV) := do
 let ai <- it
 compLoop ai.gs f tst m ai.items
theorem VC {A : Around} {tgt : Expr} {fr : List Env} {env : Env} {own μ : List Addr} {hp : AH} {ρ : List (String × AV)} {lo : Heap} {s : Shared} {ai : kN} {I D : Addr} {fp wr jk : List Addr} {P : Nat -> Value -> Heap -> Heap -> Prop} {St : Nat -> Heap -> Prop} {xs pre : List AV} {vs : List Value}
  (O : AQ G A tgt μ hp lo s ai I fp wr jk P St xs vs) (H : bK G fr μ hp s) (e : nA G sc env own μ ρ s) (acc : j_ G own μ D s.heap pre) : ∀ b ∈ fp, b ∉ D :: own /\ b ∉ sP fr := fun b hb => ⟨fun hm => by
  rcases mem_cons.mp hm with q | q
  ·subst q
   obtain ⟨ws, ⟨n, hw⟩, _⟩ := acc.row
   exact (O.apart H hb).1 _ acc.nμ acc.low hw (.inr (.inr ⟨rfl, _, _, rfl⟩))
  ·obtain ⟨g1, g2, o, g3, g4⟩ := e.ownp b q
   exact (O.apart H hb).1 o g1 g2 g3 g4, (O.apart H hb).2⟩
theorem IQ {elt t i t' i' : Expr} {ifs ifs' : List Expr} {scope : Scope} {pos : Pos} {it : AM kN} {f : AV -> AM Unit} {tst : AM Bool} {m : AM (List AV)}
  (SI : nB G sc d t' it i') (ST : fY G sc d f t') (hT : gA f) (STs : lZ G sc d tst ifs') (SK : wQ G sc d m (IW elt))
  (hfs : autoParam (∀ (env : Env) (x : Value), foldedSetIterable i' env x = pure x) aR) :
  wQ G sc d (pZ it f tst m) (BA elt [⟨t, i, ifs, 0⟩, ⟨t', i', ifs', 0⟩] scope pos ⟨t', i', ifs', 0⟩ 1) := by
 intro A fr env own μ st s ys st' D pre hA I acc hm hl Q E h
 obtain ⟨ai, st₀, h1, h2⟩ := aF hm
 unfold BA
 dsimp only
 refine wpAny_bind ?_
 refine wpAny_mono (SI A fr env own μ st s ai st₀ hA I h1 (fun ita aB => codeAny G.M A (.compStart (.ListComp elt [⟨t, i, ifs, 0⟩, ⟨t', i', ifs', 0⟩] scope pos) 1 ita (.ref D) env) (fun r s' => match r with | .ok f => Q () s' | .error e => cameBackBy G.M A env E e s') aB) E fun Ia jI eE fp wr jk P St xs vs i_ rX O => ?_)
  (fun x aB fZ => wpAny_bind (wpAny_standAt (wpAny_bind (wpAny_of_eq (hfs env x) (wpAny_bind (wpAny_holding (wpAny_mono fZ (fun ita bQ xV => wpAny_bind (wpAny_runOwn (codeAny_mono xV fun r s' hr => by cases r with | ok f => exact wpAny_pure hr | error e => exact hr))) fun zz zz e => e))))))) fun zz zz e => e
 have hacc := acc.ext (st' := st₀) I i_
 have up : ∀ {μ bM : List Addr} {hp hp' : AH} {s s' : Shared}, cN own fr μ hp s bM hp' s' -> cN (D :: own) fr μ hp s bM hp' s' := fun x => x.more fun b hb => mem_cons_of_mem _ hb
 have loop : codeAny G.M A (.compLoop (.ListComp elt [⟨t, i, ifs, 0⟩, ⟨t', i', ifs', 0⟩] scope pos) 1 (.ref Ia) (.ref D) env) (fun r s' => match r with | .ok f => Q () s' | .error e => cameBackBy G.M A env E e s') jI :=
  nO (own₂ := D :: own) ST hT STs SK JG hA I.h (up i_) (fun zz q => q) rX O (VC O rX.h rX.e hacc) (fun zz => O.st0) O.vals
   (fun b hb => (O.fpp b hb).imp id fun q => ⟨q.1, q.2.choose, q.2.choose_spec.1⟩) hacc h2 hl (fun zz zz => True) (fun zz zz zz zz => trivial) (fun zz zz => trivial) trivial fun s' bM x' I' a' _ => h s' bM x' I' a'
 exact vI loop (O.walk.self 0 _ _ _ O.st0 loop)
theorem bK.adopt {fr : List Env} {μ : List Addr} {hp : AH} {s : Shared} {D : Addr} {xs : List AV} {vs : List Value} (H : bK G fr μ hp s) (hD : s.heap.PlainList D vs.toArray) (hr : dX G μ s.heap xs vs) (hn : D ∉ μ) (hl : G.h₀.get? D = none) :
  bK G fr (μ ++ [D]) (hp ++ [(.list xs, 0)]) s /\ eU μ (μ ++ [D]) s.heap s.heap := by
 obtain ⟨n, ho⟩ := hD
 have lV : ∀ (n : Nat) (b : Addr), μ[n]? = some b -> (μ ++ [D])[n]? = some b := fun n b e => by
  rw [getElem?_append_left (List.getElem?_eq_some_iff.mp e).1]; exact e
 have still : eU μ (μ ++ [D]) s.heap s.heap := by
  rintro a o ha hc _ hm
  refine ⟨fun q => ?_, ha⟩
  rcases mem_append.mp q with q | q
  ·exact hm q
  ·simp at q; subst q; rw [ho] at ha; cases ha; simp at hc
 refine ⟨⟨H.base, by simp [H.len], ?_, fun n' c b hc hb => ?_, fun b hb => ?_, fun e he => ?_⟩, still⟩
 ·rw [List.nodup_append]
  exact ⟨H.nod, by simp, fun b hb c hc e => hn (by simp at hc; rw [<- hc, <- e]; exact hb)⟩
 ·by_cases hlt : n' < hp.length
  ·rw [getElem?_append_left hlt] at hc
   rw [getElem?_append_left (by rw [H.len]; exact hlt)] at hb
   obtain ⟨o, h1, h2⟩ := H.obj n' c b hc hb
   exact ⟨o, h1, h2.mono lV still⟩
  ·have hge : hp.length <= n' := Nat.le_of_not_lt hlt
   rw [getElem?_append_right hge] at hc
   rw [getElem?_append_right (by rw [H.len]; exact hge), H.len] at hb
   have hz : n' - hp.length = 0 := by
    have := (List.getElem?_eq_some_iff.mp hc).1
    simp at this; omega
   rw [hz] at hc hb
   simp at hc hb
   subst hc hb
   exact ⟨_, ho, (OR.list hr).mono lV still⟩
 ·rcases mem_append.mp hb with q | q
  ·exact H.low b q
  ·simp at q; subst q; exact hl
 ·obtain ⟨k, L, o', h1, h2, ⟨es, m, h3⟩, h4, h5⟩ := H.frs e he
  refine ⟨k, L, o', h1, h2, ⟨es, m, h3⟩, fun hm => ?_, h5⟩
  rcases mem_append.mp hm with q | q
  ·exact h4 q
  ·simp at q; subst q; rw [ho] at h2; cases h2; cases h3
theorem nA.adopt {env : Env} {own μ : List Addr} {ρ : List (String × AV)} {s : Shared} {D : Addr} {vs : List Value} (e : nA G sc env own μ ρ s) (hD : s.heap.PlainList D vs.toArray) (hs : eU μ (μ ++ [D]) s.heap s.heap) (ho : D ∉ own) : nA G sc env own (μ ++ [D]) ρ s where
 ok := e.ok
 ownp := fun a ha => by
  obtain ⟨h1, h2⟩ := e.ownp a ha
  refine ⟨fun q => ?_, h2⟩
  rcases mem_append.mp q with q | q
  ·exact h1 q
  ·simp at q; subst q; exact ho ha
 lown := e.lown
 loc := by
  obtain ⟨m, hn, hm⟩ := e.loc
  refine ⟨m, hn, fun y v hy hk => ?_⟩
  obtain ⟨w, g1, g2⟩ := hm y v hy hk
  exact ⟨w, g1, g2.mono (fun n b e => by rw [getElem?_append_left (List.getElem?_eq_some_iff.mp e).1]; exact e) hs⟩
 cel := fun y v hy => by
  rcases e.cel y v hy with q | ⟨q, c, w, g1, g2, g3⟩
  ·exact .inl q
  ·exact .inr ⟨q, c, w, g1, g2, g3.mono (fun n b e => by rw [getElem?_append_left (List.getElem?_eq_some_iff.mp e).1]; exact e) hs⟩
 cells := fun y c hy => by
  obtain ⟨⟨w, o, g1, g1'⟩, g2, g3⟩ := e.cells y c hy
  refine ⟨⟨w, o, g1, g1'⟩, fun q => ?_, g3⟩
  rcases mem_append.mp q with q | q
  ·exact g2 q
  ·simp at q; subst q
   obtain ⟨n, hn⟩ := hD
   rw [hn] at g1; cases g1; cases g1'
 cown := e.cown
 cnot := e.cnot
theorem fJ.sameBut {fr : List Env} {env : Env} {own μ : List Addr} {st : AS} {s : Shared} {C : Addr} {h' : Heap} {m : PySem.Str -> Option Value} (I : fJ G sc fr env own μ st s) (hs : Heap.SameBut C s.heap h') (hn : s.heap.Ns C m) (h1 : C ∉ μ) (h2 : C ∉ own) (h3 : G.h₀.get? C = none) (h4 : C ∉ sP fr) :
  fJ G sc fr env own μ st { s with heap := h' } := by
 obtain ⟨oc, es, ep, hoc, hdc, _⟩ := hn
 have ne : ∀ {b : Addr} {o : Obj}, s.heap.get? b = some o -> (∀ es n, o.data ≠ .dict es n) -> h'.get? b = some o := fun {b o} e k => (hs.2 b fun q => by subst q; rw [hoc] at e; cases e; exact k _ _ hdc).trans e
 have still : eU μ μ s.heap h' := by
  rintro a o ha hc zI4 hm
  obtain ⟨ws, n, hd⟩ := zI4
  exact ⟨hm, ne ha fun es n q => by rw [hd] at q; cases q⟩
 have LE : ∀ {b : Addr}, b ∈ μ -> b ≠ C := fun hb q => h1 (q ▸ hb)
 have inown : ∀ {b : Addr}, b ∈ own -> b ≠ C := fun hb q => h2 (q ▸ hb)
 refine ⟨⟨fun b o e => (hs.2 b fun q => by subst q; rw [h3] at e; cases e).trans (I.h.base b o e), I.h.len, I.h.nod, fun n c b hc hb => ?_, I.h.low, fun e he => ?_⟩, ⟨I.e.ok, fun b hb => ?_, I.e.lown, ?_, fun y u hy => ?_, fun y c hy => ?_, I.e.cown, I.e.cnot⟩⟩
 ·obtain ⟨o, g1, g2⟩ := I.h.obj n c b hc hb
  exact ⟨o, (hs.2 b (LE (mem_of_getElem? hb))).trans g1, g2.mono (fun zz zz e => e) still⟩
 ·obtain ⟨k, L, o, g1, g2, g3⟩ := I.h.frs e he
  exact ⟨k, L, o, g1, (hs.2 L fun q => h4 (q ▸ mem_filterMap.mpr ⟨e, he, g1⟩)).trans g2, g3⟩
 ·obtain ⟨g1, g2, o, g3, g4⟩ := I.e.ownp b hb
  exact ⟨g1, g2, o, (hs.2 b (inown hb)).trans g3, g4⟩
 ·obtain ⟨mm, hn, hmm⟩ := I.e.loc
  refine ⟨mm, hn.sameBut hs (inown I.e.lown), fun y u hy hk => ?_⟩
  obtain ⟨w', g1, g2⟩ := hmm y u hy hk
  exact ⟨w', g1, g2.mono (fun zz zz e => e) still⟩
 ·rcases I.e.cel y u hy with q' | ⟨q', c, w', g1, ⟨oo, g2, g2'⟩, g3⟩
  ·exact .inl q'
  ·exact .inr ⟨q', c, w', g1, ⟨oo, ne g2 (fun es n q => by rw [g2'] at q; cases q), g2'⟩, g3.mono (fun zz zz e => e) still⟩
 ·obtain ⟨⟨w', oo, g1, g1'⟩, g2, g3⟩ := I.e.cells y c hy
  exact ⟨⟨w', oo, ne g1 (fun es n q => by rw [g1'] at q; cases q), g1'⟩, g2, g3⟩
noncomputable def q_ (e : List (String × AV)) (Q : AV -> AS -> Prop) : List AV -> AS -> Prop := fun ys st => ys.length <= 1000000 /\ Q (.ref st.hp.length) ⟨e, st.hp ++ [(.list ys, 0)]⟩
noncomputable def LR (frees : List String) (f : AV -> AM Unit) (tst : AM Bool) (m : AM (List AV)) (Q : AV -> AS -> Prop) : kN -> AS -> Prop := fun ai st => (compLoop ai.gs f tst m ai.items).wp (q_ st.env Q) ⟨fT frees st.env, st.hp⟩
noncomputable def IG (frees : List String) (it : AM kN) (f : AV -> AM Unit) (tst : AM Bool) (m : AM (List AV)) (st : AS) : Option (AV × AS) := match it st with
 | some (ai, st₁) => (match compLoop ai.gs f tst m ai.items { env := fT frees st₁.env, hp := st₁.hp } with
  | some (ys, st₂) => if ys.length <= 1000000 then some (.ref st₂.hp.length, { env := st₁.env, hp := st₂.hp ++ [(.list ys, 0)] }) else none
  | none => none)
 | none => none
noncomputable def fF (frees : List String) (it : AM kN) (f : AV -> AM Unit) (tst : AM Bool) (m : AM (List AV)) : AM AV := ⟨IG frees it f tst m, fun Q st => it.wp (LR frees f tst m Q) st, fun h => by
 obtain ⟨ai, aB, e, k⟩ := it.ok h
 obtain ⟨ys, bQ, e', k'⟩ := (compLoop ai.gs f tst m ai.items).ok k
 refine ⟨_, _, ?_, k'.2⟩
 unfold IG
 simp only [e, e', if_pos k'.1], fun h k => it.mono h fun zz zz h' => (compLoop _ f tst m _).mono h' fun zz zz q => ⟨q.1, k _ _ q.2⟩⟩
structure uH (G : a_) (sc : SC) (fr : List Env) (env : Env) (own μ : List Addr) (st : AS) (s : Shared) (bM : List Addr) (st' : AS) (D C : Addr) (s' : Shared) : Prop where
 x : XT own fr μ st s (bM ++ [D]) st' s'
 i : fJ G sc fr env own (bM ++ [D]) st' s'
 ns : ∃ m, s'.heap.Ns C m
 cμ : C ∉ bM ++ [D]
 cown : C ∉ own
 clow : G.h₀.get? C = none
 cfr : C ∉ sP fr
 cs : s.heap.get? C = none
theorem uH.sameBut {fr : List Env} {env : Env} {own μ bM : List Addr} {st st' : AS} {s s' : Shared} {D C : Addr} {h' : Heap} (e : uH G sc fr env own μ st s bM st' D C s') (hs : Heap.SameBut C s'.heap h') :
  XT own fr μ st s (bM ++ [D]) st' { s' with heap := h' } /\ fJ G sc fr env own (bM ++ [D]) st' { s' with heap := h' } := by
 obtain ⟨m, hn⟩ := e.ns
 have I' := e.i.sameBut hs hn e.cμ e.cown e.clow e.cfr
 refine ⟨⟨e.x.pre, ?_, fun b o h => ?_, fun b o h hm ho => ?_, fun n c hc => ?_⟩, I'⟩
 ·obtain ⟨h1, tk, q⟩ := e.x.same
  exact ⟨h', tk, by rw [q]⟩
 ·obtain ⟨o', h1⟩ := e.x.alive b o h
  exact ⟨o', (hs.2 b fun q => by subst q; rw [e.cs] at h; cases h).trans h1⟩
 ·obtain ⟨sl, h1, h2⟩ := e.x.keep b o h hm ho
  exact ⟨sl, (hs.2 b fun q => by subst q; rw [e.cs] at h; cases h).trans h1, h2⟩
 ·obtain ⟨c', h1, h2, h3⟩ := e.x.vers n c hc
  refine ⟨c', h1, h2, fun q => ?_⟩
  obtain ⟨r, k⟩ := h3 q
  refine ⟨r, fun a ha => (hs.2 a fun q => ?_).trans (k a ha)⟩
  subst q
  exact e.cμ (mem_of_getElem? (e.x.mu ha))
theorem yM {elt : Expr} {t i : Expr} {ifs : List Expr} {rest : List Comprehension} {cs : Scope} {pos : Pos} {frees : List String} {it : AM kN} {f : AV -> AM Unit} {tst : AM Bool} {m : AM (List AV)} {K : Env -> Value -> Sem Unit}
  (ck : sX sc cs) (hfr : ∀ x ∈ frees, (Str.ofString x, NameKind.free) ∈ cs.names) (SI : nB G sc d t it i) (ST : fY G (dK sc cs) d f t) (hT : gA f) (STs : lZ G (dK sc cs) d tst ifs) (SK : wQ G (dK sc cs) d m K)
  (hturn : ∀ (ita acc : Value) (env : Env), compTurn (.ListComp elt (⟨t, i, ifs, 0⟩ :: rest) cs pos) 0 ita acc env = iO i.pos t ifs K (.compLoop (.ListComp elt (⟨t, i, ifs, 0⟩ :: rest) cs pos) 0 ita acc env) ita acc env)
  {A : Around} {fr : List Env} {env : Env} {own μ : List Addr} {st st' : AS} {s : Shared} {v : AV} (hA : tG A fr true d) (I : fJ G sc fr env own μ st s) (hm : fF frees it f tst m st = some (v, st')) {RR : Value -> Addr -> Result -> Shared -> Prop} {E : Value -> Shared -> Prop}
  (hRR : ∀ D C s' bM, uH G sc fr env own μ st s bM st' D C s' -> VR G (bM ++ [D]) s'.heap v (.ref D) -> RR (.ref D) C (.ok .next) s') :
  wpAny G.M A (eval i env) (fun x aB => wpAny G.M A (pyIter x) (fun ita bQ => wpAny G.M A (newList []) (fun acc dG =>
   wpAny G.M A (newFunctionEnv cs env.globals (jC env.cells cs.names []) [] env.qual none .none (some env)) (fun cenv hK =>
    codeAny G.M A (.compStart (.ListComp elt (⟨t, i, ifs, 0⟩ :: rest) cs pos) 0 ita acc { cenv with scope := relabel cs env }) (RR acc cenv.locals) hK) E dG) E bQ) E aB) E s := by
 change IG frees it f tst m st = _ at hm
 unfold IG at hm
 split at hm
 ·rename_i ai st₁ h1
  split at hm
  ·rename_i ys st₂ h2
   split at hm
   ·rename_i hlen
    cases hm
    refine SI A fr env own μ st s ai st₁ hA I h1 _ _ fun Ia aB aD fp wr jk P St xs vs aT aJ O => ?_
    refine wpAny_newObj_type (hd := by size_fits) ?_
    generalize hH2 : aB.heap.push { cls := .type "list", dict := none, data := .seq ([] : List Value).toArray } = H2
    have kD : ∀ b o, aB.heap.get? b = some o -> H2.get? b = some o := fun b o e => hH2 ▸ Heap.get?_push_of_some _ e
    have hDn : aB.heap.get? aB.heap.objs.size = none := Heap.get?_none_of_le (Nat.le_refl _)
    have hDg : H2.get? aB.heap.objs.size = some { cls := .type "list", data := .seq ([] : List Value).toArray } := hH2 ▸ Heap.get?_push_size _ rfl
    have g2 := aJ.h.grow (h' := H2) (tk := aB.toks) kD
    have bF : fJ G sc fr env own aD st₁ { aB with heap := H2 } := aJ.heap g2.2 g2.1
    refine GP fun cenv hce hcl => ?_
    rw [hce, hcl]
    have cF := ON (frees := frees) ck hfr bF aB.toks
    dsimp only at cF |-
    have hCn : ∀ {a : Addr}, a ∈ iU cs H2.objs.size -> H2.get? a = none := fun h => lS h
    have hDC : aB.heap.objs.size ∉ iU cs H2.objs.size := fun q => by have := hCn q; rw [hDg] at this; cases this
    have back : ∀ {a : Addr}, H2.get? a = none -> aB.heap.get? a = none := fun {a} h => by
     cases e : aB.heap.get? a with
     | none => rfl
     | some o => rw [kD a o e] at h; cases h
    have back0 : ∀ {a : Addr}, aB.heap.get? a = none -> s.heap.get? a = none := fun {a} h => by
     cases e : s.heap.get? a with
     | none => rfl
     | some o => obtain ⟨o', e'⟩ := aT.alive a o e; rw [h] at e'; cases e'
    have kC : ∀ b o, H2.get? b = some o -> (fL cs H2).get? b = some o := fun b o e => nZ e
    have g3 := bF.h.grow (h' := fL cs H2) (tk := aB.toks) kC
    dsimp only at g3
    have hDlow : G.h₀.get? aB.heap.objs.size = none := by
     cases e : G.h₀.get? aB.heap.objs.size with
     | none => rfl
     | some o => have := aJ.h.base _ _ e; rw [hDn] at this; cases this
    have I7 : aB.heap.objs.size ∉ aD := fun hm => Nat.lt_irrefl _ (aJ.h.lt hm)
    have acc : j_ G (iU cs H2.objs.size) aD aB.heap.objs.size (fL cs H2) [] := ⟨⟨[], ⟨_, kC _ _ hDg⟩, .nil⟩, I7, hDC, hDlow⟩
    have xA : cN (aB.heap.objs.size :: iU cs H2.objs.size ++ own) fr μ st.hp s aD st₁.hp { aB with heap := fL cs H2 } :=
     cN.trans I.h.len (aT.more fun b hb => List.mem_append_right _ hb) (cN.trans aJ.h.len (g2.2.weaken) (g3.2.weaken))
    have kAll : ∀ b o, aB.heap.get? b = some o -> (fL cs H2).get? b = some o := fun b o e => kC b o (kD b o e)
    have hst : St 0 (fL cs H2) := O.walk.frame 0 _ _ O.st0 fun b zz o e => kAll b o e
    have ownOld : ∀ a ∈ own, a ∉ aB.heap.objs.size :: iU cs H2.objs.size := fun a ha hm => by
     obtain ⟨_, _, o, g3, _⟩ := aJ.e.ownp a ha
     rcases mem_cons.mp hm with q | q
     ·subst q; rw [hDn] at g3; cases g3
     ·rw [back (hCn q)] at g3; cases g3
    have cellsOld : ∀ y c, env.cells.lookup y = some c -> c ∉ aB.heap.objs.size :: iU cs H2.objs.size := fun y c hy hm => by
     obtain ⟨⟨w, o, g3, _⟩, _⟩ := aJ.e.cells y c hy
     rcases mem_cons.mp hm with q | q
     ·subst q; rw [hDn] at g3; cases g3
     ·rw [back (hCn q)] at g3; cases g3
    have hfp : ∀ b ∈ fp, b ∉ aB.heap.objs.size :: iU cs H2.objs.size /\ b ∉ sP fr := fun b hb => by
     refine ⟨fun hm => ?_, (O.apart aJ.h hb).2⟩
     have ex : ∃ o, aB.heap.get? b = some o := by
      rcases O.fpp b hb with ⟨g, hg, q⟩ | ⟨_, o, q, _⟩
      ·have hl := (List.getElem?_eq_some_iff.mp q).1
       rw [aJ.h.len] at hl
       obtain ⟨o, ho, _⟩ := aJ.h.obj _ _ b (getElem?_eq_getElem hl) q
       exact ⟨o, ho⟩
      ·exact ⟨o, q⟩
     obtain ⟨o, ho⟩ := ex
     rcases mem_cons.mp hm with q | q
     ·subst q; rw [hDn] at ho; cases ho
     ·rw [back (hCn q)] at ho; cases ho
    have loop : codeAny G.M A (.compLoop (.ListComp elt (⟨t, i, ifs, 0⟩ :: rest) cs pos) 0 (.ref Ia) (.ref aB.heap.objs.size) (fW cs H2.objs.size env)) (RR (.ref aB.heap.objs.size) H2.objs.size) { aB with heap := fL cs H2 } := by
     refine nO (st₀ := { st₁ with env := fT frees st₁.env }) (own₂ := aB.heap.objs.size :: iU cs H2.objs.size ++ own) ST hT STs SK hturn hA I.h xA (fun b hb => mem_append_left _ hb) cF O hfp (fun zz => hst) (O.vals.mono (fun zz zz e => e) (eU.of_keeps kAll))
      (fun b hb => (O.fpp b hb).imp id fun q => ⟨q.1, q.2.choose, kAll _ _ q.2.choose_spec.1⟩) acc h2 (by simpa using hlen) (fun bM s' => nA G sc env own bM st₁.env s') ?_ ?_ (bF.e.after (fr := fr) (own' := []) bF.h (by intro a ha; cases ha) g3.2 (by simp) (by simp) (by simp)) ?_
     ·intro O3 O6 hpa hpb sa sb Ha Ka xa Za
      exact Za.after Ha Ka xa (ownOld _ aJ.e.lown) ownOld cellsOld
     ·intro O3 sa ha tka ka Za
      exact Za.kept ka
     ·intro s' bM x' I' a' Z'
      obtain ⟨⟨ws, hw, hwr⟩, n1, n2, n3⟩ := a'
      simp only [nil_append] at hwr
      obtain ⟨HA, hstill⟩ := I'.h.adopt hw hwr n1 n3
      have hCown : H2.objs.size ∈ iU cs H2.objs.size := mem_cons_self
      obtain ⟨c1, c2, oc, c3, _⟩ := I'.e.ownp _ hCown
      obtain ⟨mm, hns, _⟩ := I'.e.loc
      refine hRR _ _ s' bM ⟨⟨?_, x'.same, x'.alive, fun b o hb hbm hbo => ?_, fun n c hc => ?_⟩, ⟨HA, Z'.adopt hw hstill fun q => ?_⟩, ⟨mm, hns⟩, fun q => ?_, fun q => ?_, c2, fun q => ?_, back0 (back (hCn hCown))⟩ ?_
      ·obtain ⟨ν, rfl, TF⟩ := x'.pre
       refine ⟨ν ++ [aB.heap.objs.size], by simp, fun a ha => ?_⟩
       rcases mem_append.mp ha with q | q
       ·exact TF a q
       ·simp at q; subst q; exact back0 hDn
      ·refine x'.keep b o hb hbm fun q => ?_
       rcases mem_append.mp q with q | q
       ·rcases mem_cons.mp q with q | q
        ·subst q; rw [back0 hDn] at hb; cases hb
        ·rw [back0 (back (hCn q))] at hb; cases hb
       ·exact hbo q
      ·obtain ⟨c', q1, q2, q3⟩ := x'.vers n c hc
       exact ⟨c', by rw [getElem?_append_left (List.getElem?_eq_some_iff.mp q1).1]; exact q1, q2, q3⟩
      ·exact ownOld _ q mem_cons_self
      ·rcases mem_append.mp q with q | q
       ·exact c1 q
       ·simp at q; exact hDC (q ▸ hCown)
      ·exact ownOld _ q (mem_cons_of_mem _ hCown)
      ·obtain ⟨e, he, hf⟩ := mem_filterMap.mp q
       obtain ⟨_, L, o, hL, ho, _⟩ := I.h.frs e he
       rw [hf] at hL; cases hL
       rw [back0 (back (hCn hCown))] at ho; cases ho
      ·exact gM I'.h.len
    exact codeAny_compStart_list loop (O.walk.self 0 _ _ _ hst loop)
   ·cases hm
  ·cases hm
 ·cases hm
theorem fJ.clos {fr : List Env} {env : Env} {own μ : List Addr} {st : AS} {s : Shared} {cs : Scope} (ck : sX sc cs) (I : fJ G sc fr env own μ st s) : closureFor cs env = pure (jC env.cells cs.names []) :=
 xN fun x hx hk => by
  obtain ⟨n, k⟩ := x
  simp only at hk; subst hk
  rcases ck.frees n hx with q | q
  ·exact I.e.ok.cellok n _ q (.inl rfl)
  ·exact I.e.ok.cellok n _ q (.inr rfl)
theorem vD {elt : Expr} {t i : Expr} {ifs : List Expr} {rest : List Comprehension} {cs : Scope} {pos : Pos} {frees : List String} {it : AM kN} {f : AV -> AM Unit} {tst : AM Bool} {m : AM (List AV)} {K : Env -> Value -> Sem Unit}
  (ck : sX sc cs) (hfr : ∀ x ∈ frees, (Str.ofString x, NameKind.free) ∈ cs.names) (SI : nB G sc d t it i) (ST : fY G (dK sc cs) d f t) (hT : gA f) (STs : lZ G (dK sc cs) d tst ifs) (SK : wQ G (dK sc cs) d m K)
  (hturn : ∀ (ita acc : Value) (env : Env), compTurn (.ListComp elt (⟨t, i, ifs, 0⟩ :: rest) cs pos) 0 ita acc env = iO i.pos t ifs K (.compLoop (.ListComp elt (⟨t, i, ifs, 0⟩ :: rest) cs pos) 0 ita acc env) ita acc env)
  (hfs : autoParam (∀ (env : Env) (x : Value), foldedSetIterable i env x = pure x) aR) :
  b_ G sc true d (fF frees it f tst m) (.ListComp elt (⟨t, i, ifs, 0⟩ :: rest) cs pos) := by
 intro A fr env own μ st s v st' hA I hm Q E h
 show wpAny _ _ (eval _ env) _ _ _
 rw [eval_ListComp]
 refine wpAny_comprehension_free (use := none) rfl (hfs env) (I.clos ck) ck.kind (fun x hx hl => ?_) (yM ck hfr SI ST hT STs SK hturn hA I hm fun D C s' bM e r => ?_)
 ·obtain ⟨n, k⟩ := x
  simp only at hl; subst hl
  exact eB ck.nodup hx
 ·obtain ⟨m', hn⟩ := e.ns
  refine ⟨m', hn, fun h' hs => ?_⟩
  obtain ⟨x', I'⟩ := e.sameBut hs
  refine h _ _ _ x' I' ?_
  cases r with
  | ref k => exact .ref k
  | tup h1 h2 h3 h4 h5 => exact absurd (List.mem_append_right _ (mem_singleton.mpr rfl)) h4
  | fn k => exact .fn k
  | script a b c d => exact .script a b c d
noncomputable def UA (sc : SC) (cs : Scope) (y : PySem.Str) (py pos : Pos) : Bool := sc.scope.names.lookup y == some NameKind.local && py.line == pos.line && !(cs.names.any fun x => x.1 == y && (x.2 == NameKind.local || x.2 == NameKind.cell))
theorem FK {elt : Expr} {gens : List Comprehension} {cs : Scope} {pos py : Pos} {y : PySem.Str} {line : Nat} {env : Env} (ok : HX sc env) : swapsWith (.ListComp elt gens cs pos) (some (.Name y py)) line env = pure (UA sc cs y py pos) := by
 have hb : env.blockKind = .function := by unfold Env.blockKind; rw [ok.fn]; rfl
 have hk : env.kindOf y = sc.scope.names.lookup y := by unfold Env.kindOf; rw [ok.scope]
 show pure (env.blockKind == .function && env.kindOf y == some .local && py.line == pos.line && !(cs.names.any fun x => x.1 == y && (x.2 == NameKind.local || x.2 == NameKind.cell))) = _
 rw [hb, hk]; rfl
theorem x_ {x : String} {elt : Expr} {t i : Expr} {ifs : List Expr} {rest : List Comprehension} {cs : Scope} {pos p spos : Pos} {frees : List String} {it : AM kN} {f : AV -> AM Unit} {tst : AM Bool} {m : AM (List AV)} {K : Env -> Value -> Sem Unit}
  (hx : d_ sc x) (ck : sX sc cs) (hfr : ∀ x ∈ frees, (Str.ofString x, NameKind.free) ∈ cs.names) (SI : nB G sc d t it i) (ST : fY G (dK sc cs) d f t) (hT : gA f) (STs : lZ G (dK sc cs) d tst ifs) (SK : wQ G (dK sc cs) d m K)
  (hturn : ∀ (ita acc : Value) (env : Env), compTurn (.ListComp elt (⟨t, i, ifs, 0⟩ :: rest) cs pos) 0 ita acc env = iO i.pos t ifs K (.compLoop (.ListComp elt (⟨t, i, ifs, 0⟩ :: rest) cs pos) 0 ita acc env) ita acc env)
  (hfs : autoParam (∀ (env : Env) (x : Value), foldedSetIterable i env x = pure x) aR) :
  jY G sc true d (dZ x (fF frees it f tst m)) (.Assign [.Name (Str.ofString x) p] (.ListComp elt (⟨t, i, ifs, 0⟩ :: rest) cs pos) spos) := by
 intro A outer env own μ st s fl st' hA hf I hm Q E h hE
 have sw := FK (elt := elt) (gens := ⟨t, i, ifs, 0⟩ :: rest) (cs := cs) (pos := pos) (py := p) (y := Str.ofString x) (line := spos.line) I.e.ok
 cases hsw : UA sc cs (Str.ofString x) p pos with
 | false =>
  rw [hsw] at sw
  refine wpAny_Assign_Name (aQ (vD ck hfr SI ST hT STs SK hturn hfs) hA I hm fun v st₁ w aB aD bP aT aJ bH => ?_) sw
  cases bP
  exact jS aJ bH hx fun bQ bJ bF => h _ _ _ (I.trans aT bJ) bF .next
 | true =>
  rw [hsw] at sw
  obtain ⟨v, st₁, hm1, hm2⟩ := aF hm
  cases hm2
  show wpAny _ _ (exec _ env) _ _ _
  rw [exec_Assign_Name_used _ _ _ _ sw]
  refine wpAny_bind (wpAny_standAt (wpAny_bind ?_))
  show wpAny _ A (do let _ <- comprehension (.ListComp elt (⟨t, i, ifs, 0⟩ :: rest) cs pos) cs env _ (newList []) false (eval i env) (some (assign (.Name (Str.ofString x) p) env))) _ _ s
  refine wpAny_bind (wpAny_mono (wpAny_comprehension_free (use := some (assign (.Name (Str.ofString x) p) env)) (Q := fun zz s' => Q .next s') rfl (hfs env) (I.clos ck) ck.kind (fun x hx hl => ?_)
   (yM ck hfr SI ST hT STs SK hturn hA I hm1 fun D C s' bM e r => ?_)) (fun zz s' hq => wpAny_pure (wpAny_pure hq)) fun zz zz e => e)
  ·obtain ⟨n, k⟩ := x
   simp only at hl; subst hl
   exact eB ck.nodup hx
  ·show wpAny _ A (assign (.Name (Str.ofString x) p) env (.ref D)) _ _ _
   refine wpAny_assign_Name (jS e.i r hx fun bQ bJ bF => ?_)
   obtain ⟨mm, hn⟩ := e.ns
   have pP : bQ.heap.Ns C mm := uU hn fun o ho => by
    obtain ⟨sl, g, _⟩ := bJ.keep C o ho e.cμ e.cown
    exact ⟨sl, g⟩
   refine ⟨mm, pP, fun h' hs => ?_⟩
   have mJ : uH G sc (env :: outer) env own μ st s bM { st₁ with env := put x v st₁.env } D C bQ := ⟨I.trans e.x bJ, bF, ⟨mm, pP⟩, e.cμ, e.cown, e.clow, e.cfr, e.cs⟩
   obtain ⟨x', I'⟩ := mJ.sameBut hs
   exact h _ _ _ x' I' .next
end
inductive aU : Expr -> Prop
 | name (x : PySem.Str) (p : Pos) : aU (.Name x p)
 | tup (es : List Expr) (k : Nat) (p : Pos) : aU (.Tuple es k p)
section
variable {G : a_} {A : Around}
theorem jD.ofWalks' {tgt : Expr} {I : Addr} {fp wr : List Addr} {n : Nat} {P : Nat -> Value -> Prop} {St : Nat -> Heap -> Prop} (W : Walks G.prog G.w A I fp wr n P St)
  (hgo : ∀ i v (s : Shared) (R : Unit -> Shared -> Prop) (E : Value -> Shared -> Prop), P i v -> St (i + 1) s.heap -> R () s -> wpAny G.M A (letOwnedTupleGo tgt (.ref I) v) R E s) : jD G A tgt I fp wr [] n (fun i v zz zz => P i v) St where
 sub := W.sub
 frame := W.frame
 item := fun i s Q E hi st hQ => W.item i s Q E hi st fun v h' tk hP hst hk => hQ v h' tk hk fun R E' hR => hgo i v _ R E' hP hst (hR h' hP hst fun zz zz zz e => e)
 done := fun s Q E hst hQ => W.done s Q E hst fun h' tk hk => hQ h' tk hk (by simp)
 self := W.self
theorem nW {tgt : Expr} {I : Addr} {o : Obj} {n : String} {v : Value} {s : Shared} {R : Unit -> Shared -> Prop} {E : Value -> Shared -> Prop} (ht : aU tgt) (ho : s.heap.get? I = some o) (hc : o.cls = .type n)
  (hn : ["enumerate", "zip", "dict_itemiterator", "dict_reverseitemiterator", "odict_iterator", "itertools.zip_longest", "itertools.pairwise"].contains n = false) (h : R () s) : wpAny G.M A (letOwnedTupleGo tgt (.ref I) v) R E s := by
 cases ht with
 | name => exact wpAny_pure h
 | tup es k p =>
  cases v with
  | ref T =>
   unfold letOwnedTupleGo
   refine wpAny_bind (wpAny_load ho ?_)
   rw [hc]
   cases o.data with
   | fields vs =>
    simp only [hn, Bool.false_and, Bool.false_eq_true, if_false]
    exact wpAny_pure h
   | _ => exact wpAny_pure h
  | _ => exact wpAny_pure h
end
section
variable {G : a_} {sc : SC} {hd : Bool} {d : Nat}
noncomputable def fA (v : AV) (hp : AH) : Option kN :=
 bE (bO v.tup? fun xs => some ⟨[], xs⟩) (bE (bL hp v fun r xs k => some ⟨[(r, (.list xs, k))], xs⟩) (bD hp v fun r es k => some ⟨[(r, (.dict es, k))], es.map fun e => .int e.1⟩))
noncomputable def iJ (m : AM AV) : AM kN := do
 let v <- m
 nQ (fA v)
theorem mX.length {μ : List Addr} {h : Heap} {xs : List (Int × AV)} {es : List (Int × Value)} (d : mX G μ h xs es) : xs.length = es.length := by
 induction d with
 | nil => rfl
 | cons _ _ ih => exact congrArg (· + 1) ih
theorem mX.get {μ : List Addr} {h : Heap} {xs : List (Int × AV)} {es : List (Int × Value)} (d : mX G μ h xs es) : ∀ {i : Nat} {k : Int} {v : Value}, es[i]? = some (k, v) -> ∃ x, xs[i]? = some (k, x) /\ VR G μ h x v := by
 induction d with
 | nil => intro i k v e; simp at e
 | cons h1 _ ih =>
  intro i k v e
  cases i with
  | zero => cases e; exact ⟨_, rfl, h1⟩
  | succ i => exact ih e
theorem mX.vals {μ : List Addr} {h : Heap} {xs : List (Int × AV)} {es : List (Int × Value)} (d : mX G μ h xs es) : dX G μ h (xs.map (·.2)) (es.map (·.2)) := by
 induction d with
 | nil => exact .nil
 | cons h1 _ ih => exact .cons h1 ih
theorem dX.get' {μ : List Addr} {h : Heap} {xs : List AV} {vs : List Value} (k : dX G μ h xs vs) : ∀ {i : Nat} {v : Value}, vs[i]? = some v -> ∃ x, xs[i]? = some x /\ VR G μ h x v :=
 k.ind (P := fun xs vs => ∀ {i : Nat} {v : Value}, vs[i]? = some v -> ∃ x, xs[i]? = some x /\ VR G μ h x v) (fun e => by simp at e) fun h1 zz ih i x e => by
  cases i with
  | zero => cases e; exact ⟨_, rfl, h1⟩
  | succ i => exact ih e
theorem EG {μ : List Addr} {h : Heap} {k : Int} {v : Value} (e : (intKind G.prog G.w).is k v = true) : VR G μ h (.int k) v := by
 obtain ⟨t, rfl⟩ := Value.isInt_shape e
 exact .int _ _
structure mC (G : a_) (μ : List Addr) (s : Shared) (I : Addr) : Prop where
 n : s.heap.get? I = none
 μ : I ∉ μ
 low : G.h₀.get? I = none
theorem bK.fresh {fr : List Env} {μ : List Addr} {hp : AH} {s : Shared} (H : bK G fr μ hp s) {I : Addr} (h : s.heap.get? I = none) : mC G μ s I := by
 refine ⟨h, fun hm => ?_, ?_⟩
 ·obtain ⟨n, hn⟩ := List.getElem?_of_mem hm
  have hl := (List.getElem?_eq_some_iff.mp hn).1
  rw [H.len] at hl
  obtain ⟨o, ho, _⟩ := H.obj n _ I (getElem?_eq_getElem hl) hn
  rw [h] at ho; cases ho
 ·cases e : G.h₀.get? I with
  | none => rfl
  | some o => have := H.base _ _ e; rw [h] at this; cases this
theorem cH {o : Obj} {fs : Array Value} (h : o.data = .fields fs) : ¬ vV o := fun k => k.noFields h
theorem nY {A : Around} {tgt : Expr} {μ : List Addr} {hp : AH} {lo : Heap} {s : Shared} {h' : Heap} {tk : Nat} {I : Addr} {src : List Addr} {ai : kN} {P : Nat -> Value -> Prop} {St : Nat -> Heap -> Prop} {xs : List AV} {vs : List Value} {oI : Obj} {fs : Array Value}
  (W : jD G A tgt I (I :: src) [I] [] ai.items.length (fun i v zz zz => P i v) St) (F : mC G μ s I) (hlo : ∀ b o, lo.get? b = some o -> ∃ o', s.heap.get? b = some o') (hI : h'.get? I = some oI) (hf : oI.data = .fields fs) (hst : St 0 h') (hg : ∀ g ∈ ai.gs, hp[g.1]? = some g.2)
  (hsrc : ∀ b ∈ src, (∃ g ∈ ai.gs, μ[g.1]? = some b) \/ (b ∉ μ /\ ∃ o, h'.get? b = some o /\ (¬ vV o \/ (G.h₀.get? b).isSome = true))) (hk : ∀ i h, St i h -> ∃ o fs, h.get? I = some o /\ o.data = .fields fs)
  (hj : ∀ g ∈ ai.gs, μ[g.1]? ≠ some I) (hv : dX G μ h' xs vs) (hit : ∀ i v h bM, i < ai.items.length -> P i v -> dX G bM h xs vs -> ∃ x, ai.items[i]? = some x /\ VR G bM h x v) :
  AQ G A tgt μ hp lo { s with heap := h', toks := tk } ai I (I :: src) [I] [] (fun i v zz zz => P i v) St xs vs where
 walk := W
 st0 := hst
 gsp := hg
 fpp := fun b hb => by
  rcases mem_cons.mp hb with q | q
  ·subst q; exact .inr ⟨F.μ, oI, hI, .inl (cH hf)⟩
  ·exact hsrc b q
 wrp := fun b hb => by
  simp at hb; subst hb
  refine ⟨?_, F.low, .inr F.μ⟩
  cases e : lo.get? b with
  | none => rfl
  | some o => obtain ⟨o', h⟩ := hlo _ _ e; rw [F.n] at h; cases h
 kind := fun i h hs b hb => by
  simp at hb; subst hb
  exact ⟨fun q => by simp at q, .inr (hk i h hs)⟩
 jkp := fun b hb ⟨g, hg, _, q⟩ => by
  simp at hb; subst hb
  exact absurd q (hj g hg)
 jkw := fun b hb => by simp at hb
 vals := hv
 item := fun i v fZ h bM hi hP hvs _ => hit i v h bM hi hP hvs
theorem eM {m : AM AV} {e tgt : Expr} (gx : GX G) (S : b_ G sc true d m e) (ht : aU tgt) : nB G sc d tgt (iJ m) e := by
 intro A fr env own μ st s ai st' hA I hm Q E h
 refine aQ S hA I hm fun v st₁ w aB aD bP aT aJ bH => ?_
 obtain ⟨rfl, hv⟩ := cV bP
 have hh := hA.hnd rfl
 have grow : ∀ {o : Obj}, o.isFreed = false -> bK G fr aD st'.hp { aB with heap := aB.heap.push o } /\ cN [] fr aD st'.hp aB aD st'.hp { aB with heap := aB.heap.push o } := fun {o} ho =>
  aJ.h.grow (tk := aB.toks) fun b o e => Heap.get?_push_of_some _ e
 have F : mC G aD aB aB.heap.objs.size := aJ.h.fresh (Heap.get?_none_of_le (Nat.le_refl _))
 have push : ∀ {o : Obj} {b : Addr} {o' : Obj}, aB.heap.get? b = some o' -> (aB.heap.push o).get? b = some o' := fun e => Heap.get?_push_of_some _ e
 refine dO hv (fun hv => aL hv fun ys e hv => ?_) fun hv => dO hv (fun hv => ?_) fun hv => ?_
 ·rw [AV.of_tup? e] at bH
  cases hv
  cases bH with
  | @tup _ vs a o n h1 h2 h3 hnm h4 =>
  have hT : aB.heap.IsTuple a vs.toArray := ⟨o, h1, h2, n, h3⟩
  refine wpAny_pyIter_tuple hT ?_
  have hne : a ≠ aB.heap.objs.size := fun q => by rw [q, F.n] at h1; cases h1
  have g := grow (o := { cls := .type "tuple_iterator", data := .fields #[.ref a, .int 0 0] }) rfl
  have hlen : ys.length = vs.toArray.size := by rw [h4.length]; simp
  have W := Walks.tuple (prog := G.prog) (w := G.w) hh aB.heap.objs.size a hne vs.toArray
  rw [<- hlen] at W
  have WG := jD.ofWalks' (tgt := tgt) W (fun i v s R E hP hst hR => by
    obtain ⟨⟨oi, h5, h6, _⟩, _⟩ := hst
    exact nW ht h5 h6 (by decide) hR)
  refine h aB.heap.objs.size _ aD _ _ _ _ _ _ _ (aT.trans I.h.len g.2.weaken) (aJ.heap g.2 g.1)
   (nY (ai := ⟨[], ys⟩) (h' := aB.heap.push { cls := .type "tuple_iterator", data := .fields #[.ref a, .int 0 0] }) (tk := aB.toks) WG F aT.alive (Heap.get?_push_size _ rfl) rfl ⟨⟨_, Heap.get?_push_size _ rfl, rfl, rfl⟩, hT.push _⟩ (by simp) (fun b hb => ?_) (fun i hh hs => ?_) (by simp) (h4.ext aJ.h (by intro a ha; cases ha) g.2) (fun i v hh' bM hi hP hvs => hvs.get' (by simpa using hP)))
  ·simp at hb; subst hb
   exact .inr ⟨hnm, o, push h1, .inl fun q => q.noTup h2 ⟨_, _, h3⟩⟩
  ·obtain ⟨⟨oi, h5, _, h7⟩, _⟩ := hs
   exact ⟨oi, _, h5, h7⟩
 ·revert h
  apply tM aJ.h bH hv; intro r ys k a vs n hr h1 g1 k1 hv h
  cases hv
  have hL : aB.heap.IsList a vs.toArray := ⟨_, g1, rfl, n, rfl⟩
  refine wpAny_pyIter_list hL ?_
  have hne : a ≠ aB.heap.objs.size := fun q => by rw [q, F.n] at g1; cases g1
  have g := grow (o := { cls := .type "list_iterator", data := .fields #[.ref a, .int 0 0] }) rfl
  have hlen : ys.length = vs.toArray.size := by rw [k1.length]; simp
  have W := Walks.list (prog := G.prog) (w := G.w) hh aB.heap.objs.size a hne vs.toArray
  rw [<- hlen] at W
  have WG := jD.ofWalks' (tgt := tgt) W (fun i v s R E hP hst hR => by
    obtain ⟨⟨oi, h5, h6, _⟩, _⟩ := hst
    exact nW ht h5 h6 (by decide) hR)
  refine h aB.heap.objs.size _ aD _ _ _ _ _ _ _ (aT.trans I.h.len g.2.weaken) (aJ.heap g.2 g.1)
   (nY (ai := ⟨[(r, (.list ys, k))], ys⟩) (h' := aB.heap.push { cls := .type "list_iterator", data := .fields #[.ref a, .int 0 0] }) (tk := aB.toks) WG F aT.alive (Heap.get?_push_size _ rfl) rfl ⟨⟨_, Heap.get?_push_size _ rfl, rfl, rfl⟩, hL.push _⟩ (by simpa using hr) (fun b hb => ?_) (fun i hh hs => ?_) (fun g hg q => ?_) (k1.ext aJ.h (by intro a ha; cases ha) g.2) (fun i v hh' bM hi hP hvs => hvs.get' (by simpa using hP)))
  ·simp at hb; subst hb
   exact .inl ⟨_, mem_cons_self, h1⟩
  ·obtain ⟨⟨oi, h5, _, h7⟩, _⟩ := hs
   exact ⟨oi, _, h5, h7⟩
  ·exact F.μ (mem_of_getElem? q)
 ·revert h
  apply TX aJ.h bH hv; intro r es k a kvs hr h1 hdo hkv hv h
  cases hv
  obtain ⟨ep, hdat⟩ := hdo.dictAt
  have hsys : (a == sysModules) = false := by
   cases hb : a == sysModules with
   | false => rfl
   | true =>
    have := beq_iff_eq.mp hb; subst this
    have := aJ.h.low _ (mem_of_getElem? h1)
    have h2 := gx.mods; rw [this] at h2; cases h2
  refine wpAny_pyIter_dict hsys hdat ?_
  have hne : a ≠ aB.heap.objs.size := fun q => by
   obtain ⟨o, ho, _⟩ := Heap.dictOf_iff.mp hdo
   rw [q, F.n] at ho; cases ho
  have g := grow (o := { cls := .type "dict_keyiterator", data := .fields #[.ref a, .int 0 0, .int kvs.length 0, .int ep 0] }) rfl
  have hlen : (es.map fun e => AV.int e.1).length = kvs.length := by rw [length_map, hkv.length]
  have W := Walks.dictKeys (prog := G.prog) (w := G.w) (knd := intKind G.prog G.w) hh aB.heap.objs.size a hne kvs ep
  have W' : Walks G.prog G.w A aB.heap.objs.size [aB.heap.objs.size, a] [aB.heap.objs.size] (es.map fun e => AV.int e.1).length (fun i v => ∃ k x, kvs[i]? = some (k, x) /\ (intKind G.prog G.w).is k v = true)
   (fun i h => h.IsKeyIter aB.heap.objs.size a i kvs.length ep /\ h.DictAt (intKind G.prog G.w) a kvs ep) := by rw [hlen]; exact W
  have WG := jD.ofWalks' (tgt := tgt) W' (fun i v s R E hP hst hR => by
    obtain ⟨⟨oi, h5, h6, _⟩, _⟩ := hst
    exact nW ht h5 h6 (by decide) hR)
  refine h aB.heap.objs.size _ aD _ _ _ _ _ (es.map (·.2)) _ (aT.trans I.h.len g.2.weaken) (aJ.heap g.2 g.1)
   (nY (ai := ⟨[(r, (.dict es, k))], es.map fun e => .int e.1⟩) (h' := aB.heap.push { cls := .type "dict_keyiterator", data := .fields #[.ref a, .int 0 0, .int kvs.length 0, .int ep 0] }) (tk := aB.toks) WG F aT.alive (Heap.get?_push_size _ rfl) rfl ⟨⟨_, Heap.get?_push_size _ rfl, rfl, rfl⟩, hdat.push _⟩ (by simpa using hr) (fun b hb => ?_) (fun i hh hs => ?_) (fun g hg q => ?_) (hkv.vals.ext aJ.h (by intro a ha; cases ha) g.2) (fun i v hh' bM hi hP hvs => ?_))
  ·simp at hb; subst hb
   exact .inl ⟨_, mem_cons_self, h1⟩
  ·obtain ⟨⟨oi, h5, _, h7⟩, _⟩ := hs
   exact ⟨oi, _, h5, h7⟩
  ·exact F.μ (mem_of_getElem? q)
  ·obtain ⟨key, x, e1, e2⟩ := hP
   obtain ⟨y, hy, _⟩ := hkv.get e1
   exact ⟨.int key, by rw [getElem?_map, hy]; rfl, EG e2⟩
end
section
variable {G : a_} {sc : SC} {hd : Bool} {d : Nat}
structure MR (es : List Expr) : Prop where
 plain : ∀ (env : Env) (pos : Pos), (backTo pos (starEach es env)).any (·.1) = false
 ev : ∀ (M : Model) (A : Around) (E : Value -> Shared -> Prop) (Q : Args -> Shared -> Prop) (s : Shared) (env : Env) (pos : Pos) (f : Value),
  wpAny M A (spliced (backTo pos (starEach es env))) (fun vs s' => Q ⟨vs, []⟩ s') E s -> wpAny M A (evalArgs f true (backTo pos (starEach es env)) []) Q E s
structure bX (G : a_) (sc : SC) (hd : Bool) (d : Nat) (m : AM (List AV)) (es : List Expr) : Prop where
 sim : JJ G sc hd d m es
 less : MR es
theorem aM : bX G sc hd d (pure []) [] where
 sim := cA
 less := ⟨fun zz zz => rfl, fun M A E Q s env pos f h => by
  unfold evalArgs
  show wpAny M A (spliced [] >>= _) Q E s
  refine wpAny_bind (wpAny_mono h (fun vs s' h' => ?_) fun zz zz x => x)
  refine wpAny_bind (wpAny_pure ?_)
  refine wpAny_holding ?_
  exact wpAny_bind (wpAny_pure (wpAny_bind (wpAny_pure (wpAny_pure h'))))⟩
theorem aC {m : AM AV} {k : AM (List AV)} {e : Expr} {es : List Expr} (S : b_ G sc hd d m e) (T : bX G sc hd d k es) (he : autoParam (∀ env, starEach (e :: es) env = (false, eval e env) :: starEach es env) aR) : bX G sc hd d (aO m k) (e :: es) where
 sim := bB S T.sim he
 less := ⟨fun env pos => by
  rw [he]
  show (false || (backTo pos (starEach es env)).any (·.1)) = false
  rw [T.less.plain]; rfl, fun M A E Q s env pos f h => by
  rw [he] at h |-
  exact Calls.evalArgs_plain h⟩
noncomputable def rB (G : a_) (w : Value) : Prop := ∀ (A : Around) (E : Value -> Shared -> Prop) (Q : Value -> Shared -> Prop) (s : Shared) (pos : Pos) (first : List Value) (trees : List (Bool × Sem Value)), trees.any (·.1) = false ->
 wpAny G.M A (evalArgs w true trees []) (fun x aB => G.h₀.StaysIn aB.heap /\ wpAny G.M A (call w (first ++ x.pos) x.kw) Q E aB) E s -> wpAny G.M A (callWith pos w first trees []) Q E s
theorem cY {n : String} : rB G (.type n) := fun A E Q s pos first trees hp h => PySem.callWith_type hp (wpAny_mono h (fun x aB h => h.2) fun zz zz e => e)
theorem cG {n : String} : rB G (.builtin n) := fun A E Q s pos first trees hp h => Calls.callWith_builtin hp (wpAny_mono h (fun x aB h => h.2) fun zz zz e => e)
noncomputable def cO (G : a_) (hd : Bool) (d : Nat) (w : Value) (m : List AV -> dM AV) : Prop := ∀ args, SX G hd d (m args) (fun μ h tr => ∃ vs, dX G μ h args vs /\ tr = call w vs) (VR G)
noncomputable def dF (m : List AV -> dM AV) (args : AM (List AV)) : AM AV := do
 let vs <- args
 fB (m vs)
noncomputable def cZ (G : a_) (x : String) (w : Value) : Prop := G.mg (Str.ofString x) = some w \/ (G.mg (Str.ofString x) = none /\ G.mb (Str.ofString x) = some w)
theorem mF {A : Around} {fr : List Env} {env : Env} {own μ : List Addr} {st st₁ : AS} {s : Shared} {x : String} {p pos : Pos} {w : Value} {m : AM (List AV)} {vs : List AV} {es : List Expr} (gk : GOk G) (hx : sc.scope.names.lookup (Str.ofString x) = some .globalImplicit) (hw : cZ G x w) (hc : rB G w)
  (SA : bX G sc hd d m es) (hA : tG A fr hd d) (I : fJ G sc fr env own μ st s) (hm : m st = some (vs, st₁)) {Q : Value -> Shared -> Prop} {E : Value -> Shared -> Prop}
  (k : ∀ ws aB aD, XT own fr μ st s aD st₁ aB -> fJ G sc fr env own aD st₁ aB -> dX G aD aB.heap vs ws -> wpAny G.M A (call w ws) Q E aB) (hdb : autoParam ((Str.ofString x == ("__debug__" : PySem.Str)) = false) aR) :
  wpAny G.M A (eval (.Call (.Name (Str.ofString x) p) es [] pos) env) Q E s := by
 refine wpAny_Call_NameR (wpAny_Name (fV gk I.h I.e.ok hx hw ?_) hdb)
 refine hc A E Q s pos [] _ (SA.less.plain env pos) (SA.less.ev _ _ _ _ _ env pos _ ?_)
 exact SA.sim pos A fr env own μ st s vs st₁ hA I hm _ _ fun ws aB aD aT aJ bH => ⟨aJ.h.base, k ws aB aD aT aJ bH⟩
theorem cM {x : String} {p pos : Pos} {w : Value} {f : List AV -> dM AV} {m : AM (List AV)} {es : List Expr} (gk : GOk G) (hx : sc.scope.names.lookup (Str.ofString x) = some .globalImplicit) (hw : cZ G x w) (hc : rB G w) (SC : cO G hd d w f)
  (SA : bX G sc hd d m es) (hdb : autoParam ((Str.ofString x == ("__debug__" : PySem.Str)) = false) aR) : b_ G sc hd d (dF f m) (.Call (.Name (Str.ofString x) p) es [] pos) := by
 intro A fr env own μ st s z st' hA I hm Q E h
 obtain ⟨vs, st₁, h1, h2⟩ := aF hm
 refine mF gk hx hw hc SA hA I h1 (fun ws aB aD aT aJ bH => ?_) hdb
 exact (SC vs).use hA aJ ⟨ws, bH, rfl⟩ h2 fun b bQ bY bJ bF dE => h _ _ _ (I.trans aT bJ) bF dE
noncomputable def hX (vs : List AV) : Option kN :=
 bE (BU vs fun v => bI v fun n => bG (n.natAbs < 4611686018427387904) (some ⟨[], (List.range n.toNat).map fun (i : Nat) => .int i⟩)) (PV vs fun v w => bI v fun a => bI w fun b => bG (a.natAbs < 4611686018427387904 /\ b.natAbs < 4611686018427387904) (some ⟨[], (List.range (b - a).toNat).map fun (i : Nat) => .int (a + (i : Int))⟩))
noncomputable def iV (m : AM (List AV)) : AM kN := do
 let vs <- m
 nQ fun zz => hX vs
theorem wI {A : Around} {tgt : Expr} {μ : List Addr} {hp : AH} {lo : Heap} {s : Shared} {h' : Heap} {tk : Nat} {I : Addr} {a : Int} {n : Nat} (hh : A.handled = none) (ht : aU tgt) (F : mC G μ s I) (hlo : ∀ b o, lo.get? b = some o -> ∃ o', s.heap.get? b = some o')
  (hI : IsRangeIter h' I a n 1) : ∃ P St, AQ G A tgt μ hp lo { s with heap := h', toks := tk } ⟨[], (List.range n).map fun (i : Nat) => .int (a + (i : Int))⟩ I [I] [I] [] P St [] [] := by
 have W := Walks.range (prog := G.prog) (w := G.w) hh I a 1 n
 have hl : n = ((List.range n).map fun (i : Nat) => AV.int (a + (i : Int))).length := by simp
 have W' : Walks G.prog G.w A I [I] [I] ((List.range n).map fun (i : Nat) => AV.int (a + (i : Int))).length (fun i v => ∃ t, v = .int (a + i * 1) t) (fun i h => IsRangeIter h I (a + (i : Nat) * 1) ((n : Int) - (i : Nat)) 1) := by rw [<- hl]; exact W
 have WG := jD.ofWalks' (tgt := tgt) W' (fun i v s R E hP hst hR => nW ht hst rfl (by decide) hR)
 refine ⟨_, _, nY (ai := ⟨[], (List.range n).map fun (i : Nat) => .int (a + (i : Int))⟩) (src := []) WG F hlo hI rfl (by simpa using hI) (by simp) (by simp) (fun i h hs => ⟨_, _, hs, rfl⟩) (by simp) .nil fun i v h bM hi hP _ => ?_⟩
 obtain ⟨t, rfl⟩ := hP
 have hi' : i < n := by simpa using hi
 exact ⟨.int (a + i), by simp [hi'], by rw [Int.mul_one]; exact .int _ _⟩
theorem eV {x : String} {p pos : Pos} {m : AM (List AV)} {es : List Expr} {tgt : Expr} (gk : GOk G) (hx : sc.scope.names.lookup (Str.ofString x) = some .globalImplicit) (hw : cZ G x (.type "range")) (ht : aU tgt)
  (SA : bX G sc true d m es) (hdb : autoParam ((Str.ofString x == ("__debug__" : PySem.Str)) = false) aR) : nB G sc d tgt (iV m) (.Call (.Name (Str.ofString x) p) es [] pos) := by
 intro A fr env own μ st s ai st' hA I hm Q E h
 obtain ⟨vs, st₁, h1, h2⟩ := aF hm
 obtain ⟨rfl, hv⟩ := cV h2
 refine mF gk hx hw cY SA hA I h1 (fun ws aB aD aT aJ bH => ?_) hdb
 have hh := hA.hnd rfl
 refine dO hv (fun hv => ?_) fun hv => ?_
 ·revert h
  apply EM bH hv; intro v w PI hv
  apply xH PI hv; intro n t hv h
  refine bA hv fun hn hv => ?_
  ·cases hv
   refine call_range_1 ?_
   refine wpAny_pyIter_range (IsRange.new ..) (small_one (by decide) (by decide) (by omega) (by omega)) ?_
   have tD := aJ.h.grow (h' := aB.heap.push { cls := .type "range", data := .fields #[.int 0 aB.toks, .int n t, .int 1 (aB.toks + 1)] }) (tk := aB.toks + 1 + 1) fun b o e => Heap.get?_push_of_some _ e
   have bF := aJ.heap tD.2 tD.1
   have tE := bF.h.grow (h' := (aB.heap.push { cls := .type "range", data := .fields #[.int 0 aB.toks, .int n t, .int 1 (aB.toks + 1)] }).push { cls := .type "range_iterator", data := .fields #[rawInt 0, rawInt (Builtin.Range.rangeSize 0 n 1), rawInt 1] }) (tk := aB.toks + 1 + 1) fun b o e => Heap.get?_push_of_some _ e
   have hsz : Builtin.Range.rangeSize 0 n 1 = (n.toNat : Int) := by rw [rangeSize_one]; split <;> omega
   obtain ⟨P, St, O⟩ := wI (G := G) (A := A) (tgt := tgt) (hp := st'.hp) (lo := s.heap) (a := 0) (n := n.toNat) (tk := aB.toks + 1 + 1) hh ht (bF.h.fresh (Heap.get?_none_of_le (Nat.le_refl _))) (fun b o e => by
    obtain ⟨o', e'⟩ := aT.alive b o e
    exact ⟨o', Heap.get?_push_of_some _ e'⟩) (by rw [<- hsz]; exact Heap.get?_push_size _ rfl)
   have e0 : ((List.range n.toNat).map fun (i : Nat) => AV.int (0 + (i : Int))) = (List.range n.toNat).map fun (i : Nat) => AV.int i := by simp
   rw [e0] at O
   exact h _ _ aD _ _ _ _ _ _ _ (aT.trans I.h.len (cN.trans aJ.h.len tD.2.weaken tE.2.weaken)) (bF.heap tE.2 tE.1) O
 ·revert h
  apply TP bH hv; intro v v' w w' PI I8 hv
  apply xH PI hv; intro a t hv
  apply xH I8 hv; intro b u hv h
  refine bA hv fun hn hv => ?_
  ·cases hv
   refine call_range_2 ?_
   refine wpAny_pyIter_range (IsRange.new ..) (small_one (by omega) (by omega) (by omega) (by omega)) ?_
   have tD := aJ.h.grow (h' := aB.heap.push { cls := .type "range", data := .fields #[.int a t, .int b u, .int 1 aB.toks] }) (tk := aB.toks + 1) fun b o e => Heap.get?_push_of_some _ e
   have bF := aJ.heap tD.2 tD.1
   have tE := bF.h.grow (h' := (aB.heap.push { cls := .type "range", data := .fields #[.int a t, .int b u, .int 1 aB.toks] }).push { cls := .type "range_iterator", data := .fields #[rawInt a, rawInt (Builtin.Range.rangeSize a b 1), rawInt 1] }) (tk := aB.toks + 1) fun b o e => Heap.get?_push_of_some _ e
   have hsz : Builtin.Range.rangeSize a b 1 = ((b - a).toNat : Int) := by rw [rangeSize_one]; split <;> omega
   obtain ⟨P, St, O⟩ := wI (G := G) (A := A) (tgt := tgt) (hp := st'.hp) (lo := s.heap) (a := a) (n := (b - a).toNat) (tk := aB.toks + 1) hh ht (bF.h.fresh (Heap.get?_none_of_le (Nat.le_refl _))) (fun b o e => by
    obtain ⟨o', e'⟩ := aT.alive b o e
    exact ⟨o', Heap.get?_push_of_some _ e'⟩) (by rw [<- hsz]; exact Heap.get?_push_size _ rfl)
   exact h _ _ aD _ _ _ _ _ _ _ (aT.trans I.h.len (cN.trans aJ.h.len tD.2.weaken tE.2.weaken)) (bF.heap tE.2 tE.1) O
noncomputable def AB (hp : AH) (vs : List AV) : Option kN := BU vs fun v => bL hp v fun r xs k => some ⟨[(r, (.list xs, k))], xs.zipIdx.map fun x => .tup [.int x.2, x.1]⟩
noncomputable def ID (m : AM (List AV)) : AM kN := do
 let vs <- m
 nQ fun hp => AB hp vs
theorem yW {x : String} {p pos tp : Pos} {m : AM (List AV)} {es ts : List Expr} {kk : Nat} (gk : GOk G) (hx : sc.scope.names.lookup (Str.ofString x) = some .globalImplicit) (hw : cZ G x (.type "enumerate"))
  (SA : bX G sc true d m es) (hdb : autoParam ((Str.ofString x == ("__debug__" : PySem.Str)) = false) aR) : nB G sc d (.Tuple ts kk tp) (ID m) (.Call (.Name (Str.ofString x) p) es [] pos) := by
 intro A fr env own μ st s ai st' hA I hm Q E h
 obtain ⟨vs, st₁, h1, h2⟩ := aF hm
 obtain ⟨rfl, hv⟩ := cV h2
 refine mF gk hx hw cY SA hA I h1 (fun ws aB aD aT aJ bH => ?_) hdb
 have hh := hA.hnd rfl
 revert h
 apply EM bH hv; intro v w PI hv
 apply tM aJ.h PI hv; intro r ys k a ws n hr ha g1 k1 hv h
 ··cases hv
   have hL : aB.heap.IsList a ws.toArray := ⟨_, g1, rfl, n, rfl⟩
   refine call_enumerate_list hL fun h' hE hit hsz hkp => ?_
   refine wpAny_pyIter_enum hE ?_
   have gr := aJ.h.grow (h' := h') (tk := aB.toks) hkp
   have Fe : mC G aD aB (aB.heap.objs.size + 1) := aJ.h.fresh (Heap.get?_none_of_le (Nat.le_succ _))
   have Fi : mC G aD aB aB.heap.objs.size := aJ.h.fresh (Heap.get?_none_of_le (Nat.le_refl _))
   have ne1 : a ≠ aB.heap.objs.size + 1 := fun q => by rw [q, Fe.n] at g1; cases g1
   have ne2 : a ≠ aB.heap.objs.size := fun q => by rw [q, Fi.n] at g1; cases g1
   have hne : aB.heap.objs.size + 1 ≠ aB.heap.objs.size := Nat.succ_ne_self _
   have W := WalksT.enumerate (prog := G.prog) (w := G.w) hh (aB.heap.objs.size + 1) aB.heap.objs.size a hne ne1 ne2 ws.toArray
   have hlen : (ys.zipIdx.map fun x => AV.tup [.int x.2, x.1]).length = ws.toArray.size := by simp [k1.length]
   have WG := jD.ofWalksT (es := ts) (kk := kk) (pos := tp) W
   rw [<- hlen] at WG
   refine h _ _ aD _ _ _ _ _ _ _ (aT.trans I.h.len gr.2.weaken) (aJ.heap gr.2 gr.1) ⟨WG, ⟨⟨_, hE⟩, hit, hL.at fun o e => hkp _ o e⟩, by simpa using hr, fun b hb => ?_, fun b hb => ?_, fun i fZ hs b hb => ⟨fun q => by simp at q, .inr ?_⟩, fun b hb ⟨g, hg, _, q⟩ => ?_, fun b hb => by simp at hb, k1.ext aJ.h (by intro a ha; cases ha) gr.2, fun i v fZ PJ bM hi hP hvs hal => ?_⟩
   ·simp at hb
    rcases hb with rfl | rfl | rfl
    ·exact .inr ⟨Fe.μ, _, hE, .inl (cH rfl)⟩
    ·obtain ⟨o, q1, q2, q3⟩ := hit
     exact .inr ⟨Fi.μ, _, q1, .inl (cH q3)⟩
    ·exact .inl ⟨_, mem_cons_self, ha⟩
   ·have low : ∀ {c : Addr}, aB.heap.get? c = none -> s.heap.get? c = none := fun {c} hc => by
     cases e : s.heap.get? c with
     | none => rfl
     | some o => obtain ⟨o', e'⟩ := aT.alive _ _ e; rw [hc] at e'; cases e'
    simp at hb
    rcases hb with rfl | rfl
    ·exact ⟨low Fe.n, Fe.low, .inr Fe.μ⟩
    ·exact ⟨low Fi.n, Fi.low, .inr Fi.μ⟩
   ·obtain ⟨⟨old, q1⟩, ⟨o, q2, q3, q4⟩, _⟩ := hs
    simp at hb
    rcases hb with rfl | rfl
    ·exact ⟨_, _, q1, rfl⟩
    ·exact ⟨_, _, q2, q4⟩
   ·simp at hg; subst hg
    simp at hb
    rcases hb with rfl | rfl
    ·exact absurd (mem_of_getElem? q) Fe.μ
    ·exact absurd (mem_of_getElem? q) Fi.μ
   ·obtain ⟨T, vals, rfl, hT, ⟨o, q1, q2, q3, q4⟩, t, y, q5, q6⟩ := hP
    obtain ⟨z, hz, hr⟩ := hvs.get' (i := i) (v := y) (by simpa using q5)
    refine ⟨.tup [.int i, z], by simp [List.getElem?_zipIdx, hz], .tup (vs := [.int i t, y]) q1 q2 (by rw [q4, q6]) (fun hm => ?_) (.cons (.int _ _) (.cons hr .nil))⟩
    obtain ⟨o', ho'⟩ := hal T hm
    rw [hT] at ho'; cases ho'
end
section
variable {G : a_} {hd : Bool} {d : Nat} {fr : List Env} {μ : List Addr} {hp : AH} {s : Shared}
theorem nU {vs : Array Value} {n : Nat} (f : Array Value -> Array Value) : ∃ n', Obj.mapSeq f ⟨.type "list", none, .seq vs n, #[]⟩ = ⟨.type "list", none, .seq (f vs) n', #[]⟩ := ⟨_, rfl⟩
theorem bK.still_put (H : bK G fr μ hp s) {h' : Heap} {a : Addr} (ha : a ∈ μ) (hk : ∀ b o, b ≠ a -> s.heap.get? b = some o -> h'.get? b = some o) : eU μ μ s.heap h' := fun b o e zz zz hm => ⟨hm, hk b o (fun q => hm (q ▸ ha)) e⟩
theorem kZ (H : bK G fr μ hp s) {r k n : Nat} {a : Addr} {xs ys : List AV} {vs ws : List Value} (hr : hp[r]? = some (.list xs, k)) (ha : μ[r]? = some a) (hg : s.heap.get? a = some ⟨.type "list", none, .seq vs.toArray n, #[]⟩)
  {f : Array Value -> Array Value} (hf : f vs.toArray = ws.toArray) (hy : dX G μ s.heap ys ws) (tk : Nat) :
  bK G fr μ (hp.set r (.list ys, k + 1)) { s with heap := s.heap.update a (Obj.mapSeq f), toks := tk } /\ cN [] fr μ hp s μ (hp.set r (.list ys, k + 1)) { s with heap := s.heap.update a (Obj.mapSeq f), toks := tk } := by
 obtain ⟨n', hn⟩ := nU (vs := vs.toArray) (n := n) f
 have hk : ∀ b o, b ≠ a -> s.heap.get? b = some o -> (s.heap.update a (Obj.mapSeq f)).get? b = some o := fun b o hb e => (Heap.get?_update_other _ _ (Ne.symm hb)).trans e
 refine H.put (c := (.list xs, k)) hr ha hk (Heap.get?_update_self _ hg (by rw [hn]; rfl)) ?_
 rw [hn, hf]
 exact .list (hy.mono (fun zz zz e => e) (H.still_put (mem_of_getElem? ha) hk))
noncomputable def tZ : List AV -> dM AV := fun args hp => BU args fun o => bE (bL hp o fun zz xs zz => bG (xs.length <= 1000000) (some (.int xs.length, hp))) (bO o.tup? fun xs => bG (xs.length <= 1000000) (some (.int xs.length, hp)))
theorem rI : cO G hd d (.builtin "len") tZ := by
 rintro args A fr μ hp s z hp' tr hA H zI11 hm Q E h
 obtain ⟨vs, rs, rfl⟩ := zI11
 apply EM rs hm; intro o w ro hm
 refine dO hm (fun hm => ?_) fun hm => aL hm fun xs e hm => bA hm fun hl hm => ?_
 ·apply tM H ro hm; intro r xs k a ws n hr ha g1 k1 hm
  refine bA hm fun hl hm => ?_
  cases hm
  refine Calls.call_len_list ⟨_, g1, rfl, n, rfl⟩ (by rw [size_toArray, <- k1.length]; omega) ?_
  rw [size_toArray, <- k1.length]
  exact h _ _ μ (cN.tok _) (H.tok _) (.int _ _)
 ·cases hm
  rw [AV.of_tup? e] at ro
  obtain ⟨_, _, _, _, rfl, h1, h2, h3, h4, h5⟩ := ro.of_tup
  refine PyProof.Rows.len_tuple ⟨_, h1, h2, _, h3⟩ (by rw [size_toArray, <- h5.length]; omega) ?_
  rw [size_toArray, <- h5.length]
  exact h _ _ μ (cN.tok _) (H.tok _) (.int _ _)
noncomputable def OO : List AV -> dM AV := fun args hp => BU args fun v => bI v fun i => some (.int i, hp)
theorem O_ : cO G hd d (.type "int") OO := by
 rintro args A fr μ hp s z hp' tr hA H zI11 hm Q E h
 obtain ⟨vs, rs, rfl⟩ := zI11
 apply EM rs hm; intro v w rv hm
 apply xH rv hm; intro i t hm
 cases hm
 exact call_int_int (h _ _ μ cN.refl H (.int _ _))
noncomputable def sQ : List AV -> Option (List Int) := List.rec (some []) fun x zz ih => bO x.int? fun i => ih.map (i :: ·)
theorem iE (ns : List Int) : sQ (ns.map .int) = some ns := by
 induction ns with
 | nil => rfl
 | cons n r ih => exact congrArg (Option.map (n :: ·)) ih
theorem oK {xs : List AV} : ∀ {ns : List Int}, sQ xs = some ns -> xs = ns.map .int := by
 induction xs with
 | nil => intro ns h; cases h; rfl
 | cons x r ih =>
  intro ns h
  refine aL h fun i e h => ?_
  obtain ⟨ms, h1, rfl⟩ := Option.map_eq_some_iff.mp h
  rw [AV.of_int? e, ih h1]; rfl
theorem dX.ints {h : Heap} : ∀ {ns : List Int} {vs : List Value}, dX G μ h (ns.map .int) vs -> IntsAre vs ns
 | [], vs, k => by
  obtain rfl := k.of_nil
  exact .nil
 | n :: r, vs, k => by
  obtain ⟨w, ws, rfl, k1, k2⟩ := k.of_cons
  obtain ⟨t, rfl⟩ := k1.of_int
  exact .cons _ _ k2.ints
theorem dX.ofInts {h : Heap} {ns : List Int} {vs : List Value} (k : IntsAre vs ns) : dX G μ h (ns.map .int) vs := by
 induction k with
 | nil => exact .nil
 | cons _ _ _ ih => exact .cons (.int _ _) ih
noncomputable def BB : List AV -> dM AV := fun args hp => BU args fun o => bL hp o fun zz xs zz => bO (sQ xs) fun ns => some (.int ns.sum, hp)
theorem wM : cO G true d (.builtin "sum") BB := by
 rintro args A fr μ hp s z hp' tr hA H zI11 hm Q E h
 obtain ⟨vs, rs, rfl⟩ := zI11
 apply EM rs hm; intro o w ro hm
 apply tM H ro hm; intro r xs k a ws n hr ha g1 k1 hm
 refine aL hm fun ns hns hm => ?_
 cases hm
 rw [oK hns] at k1
 have hi := k1.ints
 obtain ⟨xs', hxs⟩ := hi.allInts.items
 refine sum_intListG (xs := xs') (hA.hnd rfl) (by rw [<- hxs]; exact ⟨_, g1, rfl, n, rfl⟩) fun h' tk t' hk => ?_
 have g := H.grow (h' := h') (tk := tk) hk
 have e : preSum (numAt xs') xs'.size = ns.sum := by
  rw [preSum_eq, List.take_of_length_le (by simp)]
  have := hi.numsOf
  rw [show ws = ws.toArray.toList from rfl, hxs, nums_intItems] at this
  rw [this]
 rw [e]
 exact h _ _ μ g.2 g.1 (.int _ _)
noncomputable def n_ : List AV -> dM AV := fun args hp => BU args fun o => bL hp o fun zz xs zz => bG (xs.length <= 1000000) (some (.tup xs, hp))
theorem GG : cO G hd d (.type "tuple") n_ := by
 rintro args A fr μ hp s z hp' tr hA H zI11 hm Q E h
 obtain ⟨vs, rs, rfl⟩ := zI11
 apply EM rs hm; intro o w ro hm
 apply tM H ro hm; intro r xs k a ws n hr ha g1 k1 hm
 refine bA hm fun hl hm => ?_
 cases hm
 refine call_tuple_list ⟨_, g1, rfl, n, rfl⟩ (fun h' hk => ?_) (by rw [size_toArray, <- k1.length, sizeLine_eq]; omega)
 have g1 := H.grow (h' := h') (tk := s.toks) hk
 have g2 := g1.1.grow (h' := h'.push { cls := .type "tuple", data := .seq ws.toArray }) (tk := s.toks) fun b o e => Heap.get?_push_of_some _ e
 have k2 := (k1.ext H (by intro a ha; cases ha) g1.2).ext g1.1 (by intro a ha; cases ha) g2.2
 exact h _ _ μ (cN.trans H.len g1.2 g2.2) g2.1 (.tup (Heap.get?_push_size _ rfl) rfl rfl (fun hm => absurd (g1.1.lt hm) (Nat.lt_irrefl _)) k2)
noncomputable def rH (x : Int) : List Int -> List Int := List.rec [x] fun y r ih => if x <= y then x :: y :: r else y :: ih
theorem qT (x y : Int) (r : List Int) : rH x (y :: r) = if x <= y then x :: y :: r else y :: rH x r := rfl
noncomputable def pK : List Int -> List Int := List.rec [] fun x zz ih => rH x ih
theorem rT (x : Int) (l : List Int) : (rH x l).Perm (x :: l) := by
 induction l with
 | nil => exact List.Perm.refl _
 | cons y r ih =>
  rw [qT]
  split
  ·exact List.Perm.refl _
  ·exact (ih.cons y).trans (List.Perm.swap x y r)
theorem kU (l : List Int) : (pK l).Perm l := by
 induction l with
 | nil => exact List.Perm.refl _
 | cons x r ih => exact (rT x _).trans (ih.cons x)
theorem vN (x : Int) {l : List Int} (h : l.Pairwise (· <= ·)) : (rH x l).Pairwise (· <= ·) := by
 induction l with
 | nil => exact List.pairwise_singleton _ _
 | cons y r ih =>
  obtain ⟨h1, h2⟩ := pairwise_cons.mp h
  rw [qT]
  split
  ·rename_i hxy
   refine pairwise_cons.mpr ⟨fun z hz => ?_, h⟩
   rcases mem_cons.mp hz with rfl | hz
   ·exact hxy
   ·exact Int.le_trans hxy (h1 z hz)
  ·rename_i hxy
   refine pairwise_cons.mpr ⟨fun z hz => ?_, ih h2⟩
   rcases mem_cons.mp ((rT x r).mem_iff.mp hz) with rfl | hz
   ·omega
   ·exact h1 z hz
theorem mQ (l : List Int) : (pK l).Pairwise (· <= ·) := by
 induction l with
 | nil => exact List.Pairwise.nil
 | cons x r ih => exact vN x ih
theorem DU {l m : List Int} (hp : l.Perm m) (hl : l.Pairwise (· <= ·)) (hm : m.Pairwise (· <= ·)) : l = m :=
 hp.eq_of_pairwise (fun a b zz zz h1 h2 => Int.le_antisymm h1 h2) hl hm
noncomputable def lM : List AV -> dM AV := fun args hp => BU args fun o => bL hp o fun zz xs zz => bO (sQ xs) fun ns => bG (ns.length < 64) (gJ (.list ((pK ns).map .int)) hp)
theorem tW : cO G hd d (.builtin "sorted") lM := by
 rintro args A fr μ hp s z hp' tr hA H zI11 hm Q E h
 obtain ⟨vs, rs, rfl⟩ := zI11
 apply EM rs hm; intro o w ro hm
 apply tM H ro hm; intro r xs k a ws n hr ha g1 k1 hm
 refine aL hm fun ns hns hm => bA hm fun hlt hm => ?_
 cases hm
 rw [oK hns] at k1
 have hi := k1.ints
 refine sorted_ints ⟨_, g1, rfl, n, rfl⟩ hi (by rw [<- k1.length, length_map]; exact hlt) fun out ns' a1 a2 a3 => ?_
 have e : ns' = pK ns := DU (a2.trans (kU ns).symm) a3 (mQ ns)
 subst e
 obtain ⟨c, hc⟩ := sortedAll_at s.heap ws out
 have g := H.alloc (tk := s.toks) (fun b o => sortedAll_old) (Heap.get?_none_of_le (Nat.le_succ _)) hc (x := .list ((pK ns).map .int)) (by
  have := OR.list (n := c) (dX.ofInts (G := G) (μ := μ) (h := s.heap) a1)
  rw [Array.toArray_toList] at this; exact this)
 exact h _ _ _ g.2 g.1 (gM H.len)
noncomputable def DG : List AV -> dM AV := fun args hp => v8 args (gJ (.iset []) hp)
theorem KL : cO G hd d (.type "set") DG := by
 rintro args A fr μ hp s z hp' tr hA H zI11 hm Q E h
 obtain ⟨vs, rs, rfl⟩ := zI11
 revert h
 apply K6 rs hm; intro hm h
 ·cases hm
  refine call_set_0 fun led => ?_
  have g := H.alloc (h' := s.heap.push { cls := .type "set", dict := none, data := .set #[] 0 (.fresh 0 0 led) }) (tk := s.toks) (fun b o e => Heap.get?_push_of_some _ e) (Heap.get?_none_of_le (Nat.le_refl _)) (Heap.get?_push_size _ rfl) (x := .iset [])
   (.iset ⟨rfl, rfl, rfl⟩ rfl (by intro e he; simp at he) (by intro k; simp) (by decide) (by cases led <;> rfl) rfl)
  exact h _ _ _ g.2 g.1 (gM H.len)
end
noncomputable def xL (es : List (Int × AV)) (k : Int) : Option AV := (es.find? fun e => e.1 = k).map (·.2)
noncomputable def DV (es : List (Int × AV)) (k : Int) (v : AV) : List (Int × AV) := if es.any (fun e => e.1 = k) then es.map (fun e => if e.1 = k then (e.1, v) else e) else es ++ [(k, v)]
noncomputable def KN (es : List (Int × AV)) (k : Int) : List (Int × AV) := es.filter fun e => decide (e.1 ≠ k)
section
variable {G : a_} {μ : List Addr} {h : Heap}
theorem mX.find {k : Int} {xs : List (Int × AV)} {es : List (Int × Value)} (d : mX G μ h xs es) : (∀ x, xL xs k = some x -> ∃ v, valueAt es k = some v /\ VR G μ h x v) /\ (xL xs k = none -> valueAt es k = none) := by
 induction d with
 | nil => exact ⟨fun x e => (by cases e), fun zz => rfl⟩
 | @cons k' i_ EI xs es h1 _ ih =>
  cases hk : decide (k' = k) with
  | true =>
   have e1 : xL ((k', i_) :: xs) k = some i_ := by simp [xL, of_decide_eq_true hk]
   have e2 : valueAt ((k', EI) :: es) k = some EI := by simp [valueAt, of_decide_eq_true hk]
   rw [e1, e2]
   exact ⟨fun x e => ⟨EI, rfl, by cases e; exact h1⟩, fun e => by cases e⟩
  | false =>
   have e1 : xL ((k', i_) :: xs) k = xL xs k := by simp [xL, of_decide_eq_false hk]
   have e2 : valueAt ((k', EI) :: es) k = valueAt es k := by simp [valueAt, of_decide_eq_false hk]
   rw [e1, e2]; exact ih
theorem mX.anyK {k : Int} {xs : List (Int × AV)} {es : List (Int × Value)} (d : mX G μ h xs es) : xs.any (fun e => e.1 = k) = es.any (fun e => e.1 = k) := by
 induction d with
 | nil => rfl
 | cons _ _ ih => exact congrArg (_ || ·) ih
theorem mX.mapK {k : Int} {x : AV} {v : Value} (r : VR G μ h x v) {xs : List (Int × AV)} {es : List (Int × Value)} (d : mX G μ h xs es) : mX G μ h (xs.map fun e => if e.1 = k then (e.1, x) else e) (es.map fun e => if e.1 = k then (e.1, v) else e) := by
 induction d with
 | nil => exact .nil
 | @cons k' _ _ _ _ h1 _ ih =>
  simp only [map_cons]
  by_cases hk : k' = k
  ·rw [if_pos hk, if_pos hk]; exact .cons r ih
  ·rw [if_neg hk, if_neg hk]; exact .cons h1 ih
theorem mX.snoc {k : Int} {x : AV} {v : Value} (r : VR G μ h x v) {xs : List (Int × AV)} {es : List (Int × Value)} (d : mX G μ h xs es) : mX G μ h (xs ++ [(k, x)]) (es ++ [(k, v)]) := by
 induction d with
 | nil => exact .cons r .nil
 | cons h1 _ ih => exact .cons h1 ih
theorem mX.set {k : Int} {x : AV} {v : Value} {xs : List (Int × AV)} {es : List (Int × Value)} (d : mX G μ h xs es) (r : VR G μ h x v) : mX G μ h (DV xs k x) (stored es k v) := by
 unfold DV stored
 rw [d.anyK]
 split
 ·exact d.mapK r
 ·exact d.snoc r
theorem mX.del {k : Int} : ∀ {xs : List (Int × AV)} {es : List (Int × Value)}, mX G μ h xs es -> mX G μ h (KN xs k) (without es k)
 | _, _, .nil => .nil
 | _, _, .cons (k := k') h1 h2 => by
  have ih := mX.del (k := k) h2
  unfold KN without at ih |-
  by_cases hk : k' = k
  ·simp only [filter_cons, hk, ne_eq, not_true, decide_false, Bool.false_eq_true, if_false]; exact ih
  ·simp only [filter_cons, hk, ne_eq, not_false_iff, decide_true, if_true]; exact .cons h1 ih
end
section
variable {G : a_} {hd : Bool} {d : Nat} {fr : List Env} {μ : List Addr} {hp : AH} {s : Shared}
theorem CD (H : bK G fr μ hp s) {r k : Nat} {a : Addr} {es es' : List (Int × AV)} {kvs : List (Int × Value)} {h' : Heap} (hr : hp[r]? = some (.dict es, k)) (ha : μ[r]? = some a) (hs : Heap.SameBut a s.heap h') (hd : h'.DictOf (intKind G.prog G.w) a kvs) (hy : mX G μ s.heap es' kvs) (tk : Nat) :
  bK G fr μ (hp.set r (.dict es', k + 1)) { s with heap := h', toks := tk } /\ cN [] fr μ hp s μ (hp.set r (.dict es', k + 1)) { s with heap := h', toks := tk } := by
 obtain ⟨o, ho, hod⟩ := Heap.dictOf_iff.mp hd
 have hk : ∀ b o, b ≠ a -> s.heap.get? b = some o -> h'.get? b = some o := fun b o hb e => (hs.2 b hb).trans e
 refine H.put (c := (.dict es, k)) hr ha hk ho ?_
 exact .dict hod (hy.mono (fun zz zz e => e) (H.still_put (mem_of_getElem? ha) hk))
theorem bK.dict (H : bK G fr μ hp s) {r k : Nat} {a : Addr} {es : List (Int × AV)} (hr : hp[r]? = some (.dict es, k)) (ha : μ[r]? = some a) : ∃ kvs, s.heap.DictOf (intKind G.prog G.w) a kvs /\ mX G μ s.heap es kvs := by
 obtain ⟨o, ho, hor⟩ := H.at ha hr
 obtain ⟨kvs, h1, h2⟩ := hor.of_dict
 exact ⟨kvs, Heap.dictOf_iff.mpr ⟨o, ho, h1⟩, h2⟩
theorem bK.sys (gx : GX G) (H : bK G fr μ hp s) {a : Addr} (ha : a ∈ μ) : (a == sysModules) = false := by
 cases hb : a == sysModules with
 | false => rfl
 | true =>
  have := beq_iff_eq.mp hb; subst this
  have := H.low _ ha
  have h2 := gx.mods; rw [this] at h2; cases h2
noncomputable def aI.ty? : aI -> Option String := aI.rec (fun zz => some "list") (fun zz => some "dict") (fun zz => some "set") (fun zz => none) (fun zz zz => none) (fun zz zz zz => none) (fun zz zz => none) (fun zz zz => none) (fun zz => none) (fun zz zz => none) (fun zz zz => none) none
noncomputable def lW (v : AV) (hp : AH) : Option String := bO v.ref? fun r => bO hp[r]? fun c => c.1.ty?
theorem RK (H : bK G fr μ hp s) {v : AV} {w : Value} {T : String} (h : lW v hp = some T) (r : VR G μ s.heap v w) : s.TypeIs w T /\ ∀ a, w = .ref a -> ∃ ob, s.heap.get? a = some ob /\ ob.dict = none := by
 refine aL h fun r' e h => aL h fun c hr h => ?_
 rw [AV.of_ref? e] at r
 obtain ⟨a, rfl, ha⟩ := r.of_ref
 obtain ⟨x, k⟩ := c
 cases x with
 | list xs =>
  cases h
  obtain ⟨vs, n, g, _⟩ := H.list hr ha
  exact ⟨⟨_, g, rfl⟩, fun a e => by cases e; exact ⟨_, g, rfl⟩⟩
 | dict es =>
  cases h
  obtain ⟨kvs, g, _⟩ := H.dict hr ha
  exact ⟨g.typeIs, g.mapOf.noDict⟩
 | iset ks =>
  cases h
  obtain ⟨o, ho, hor⟩ := H.at ha hr
  obtain ⟨_, _, _, a1, _⟩ := hor.of_iset
  exact ⟨⟨o, ho, a1.1⟩, fun a e => by cases e; exact ⟨o, ho, a1.2.1⟩⟩
 | _ => cases h
noncomputable def JQ (T : String) (v : AV) : AM Unit := nQ fun hp => if lW v hp = some T then some () else none
noncomputable def eY (T : String) (f : List AV -> dM AV) (qM : AM AV) (args : AM (List AV)) : AM AV := do
 let o <- qM
 JQ T o
 let vs <- args
 fB (f (o :: vs))
variable {sc : SC}
theorem IM {A : Around} {env : Env} {own : List Addr} {st st₁ st₂ : AS} {T id name : String} {qM : AM AV} {m : AM (List AV)} {o : Expr} {es : List Expr} {apos pos : Pos} {ov : AV} {vs : List AV} (pa : PlainAttrs T) (slot : Slot T name id) (hty : typeOf (.builtin id) = pure (.type "method_descriptor"))
  (hline : (apos.endLine == pos.line) = true) (hbase : ∀ env : Env, attributeBase o (Str.ofString name) env (eval o env) = eval o env) (hlen : es.length < 30) (PK : b_ G sc hd d qM o) (SA : bX G sc hd d m es) (hA : tG A fr hd d) (I : fJ G sc fr env own μ st s)
  (h0 : qM st = some (ov, st₁)) (h1 : lW ov st₁.hp = some T) (h2 : m st₁ = some (vs, st₂)) {Q : Value -> Shared -> Prop} {E : Value -> Shared -> Prop}
  (k : ∀ w ws bQ bY, XT own fr μ st s bY st₂ bQ -> fJ G sc fr env own bY st₂ bQ -> VR G bY bQ.heap ov w -> dX G bY bQ.heap vs ws -> wpAny G.M A (call (.builtin id) (w :: ws)) Q E bQ) :
  wpAny G.M A (eval (.Call (.Attribute o (Str.ofString name) apos) es [] pos) env) Q E s := by
 refine wpAny_Call_method_late (hbase env) ?_ hline rfl (PK A fr env own μ st s ov st₁ hA I h0 _ _ fun w aB aD aT aJ bH => ?_)
 ·have e1 : ∀ l : List (Bool × Sem Value), l.any (·.1) = false -> l.all (fun x => !x.1) = true := fun l h => by
   simp only [List.any_eq_false, List.all_eq_true] at h |-
   intro x hx; simpa using h x hx
  simp only [Bool.and_eq_true, decide_eq_true_eq]
  exact ⟨⟨e1 _ (SA.less.plain env pos), rfl⟩, by simpa using hlen⟩
 ·obtain ⟨t1, t2⟩ := RK aJ.h h1 bH
  refine ⟨T, id, pa, slot, hty, t1, t2, ?_⟩
  refine cG (G := G) A E Q aB pos [w] _ (SA.less.plain env pos) (SA.less.ev _ _ _ _ _ env pos _ ?_)
  exact SA.sim pos A fr env own aD st₁ aB vs st₂ hA aJ h2 _ _ fun ws bQ bY bJ bF dE => ⟨bF.h.base, k w ws bQ bY (I.trans aT bJ) bF (aJ.vr bJ bH) dE⟩
theorem GH {T : String} {f : List AV -> dM AV} {qM : AM AV} {m : AM (List AV)} {st st' : AS} {z : AV} (hm : eY T f qM m st = some (z, st')) : ∃ ov st₁ vs st₂, qM st = some (ov, st₁) /\ lW ov st₁.hp = some T /\ m st₁ = some (vs, st₂) /\ fB (f (ov :: vs)) st₂ = some (z, st') := by
 obtain ⟨ov, st₁, h0, hm1⟩ := aF hm
 obtain ⟨u, oD, h1, hm2⟩ := aF hm1
 obtain ⟨rfl, hc⟩ := cV h1
 split at hc
 ·rename_i hT
  obtain ⟨vs, st₂, h2, h3⟩ := aF hm2
  exact ⟨ov, _, vs, st₂, h0, hT, h2, h3⟩
 ·cases hc
theorem cJ {T id name : String} {f : List AV -> dM AV} {qM : AM AV} {m : AM (List AV)} {o : Expr} {es : List Expr} {apos pos : Pos} (pa : PlainAttrs T) (slot : Slot T name id) (hty : typeOf (.builtin id) = pure (.type "method_descriptor")) (SC : cO G hd d (.builtin id) f)
  (PK : b_ G sc hd d qM o) (SA : bX G sc hd d m es) (hline : autoParam ((apos.endLine == pos.line) = true) aR) (hbase : autoParam (∀ env : Env, attributeBase o (Str.ofString name) env (eval o env) = eval o env) aR) (hlen : es.length < 30 := by decide) :
  b_ G sc hd d (eY T f qM m) (.Call (.Attribute o (Str.ofString name) apos) es [] pos) := by
 intro A fr env own μ st s z st' hA I hm Q E h
 obtain ⟨ov, st₁, vs, st₂, h0, h1, h2, h3⟩ := GH hm
 refine IM pa slot hty hline hbase hlen PK SA hA I h0 h1 h2 fun w ws bQ bY bJ bF bH dE => ?_
 exact (SC (ov :: vs)).use hA bF ⟨w :: ws, .cons bH dE, rfl⟩ h3 fun b dG eO cI cF iY => h _ _ _ (I.trans bJ cI) cF iY
noncomputable def cW : List AV -> dM AV := fun args hp => PV args fun o x => bL hp o fun r xs k => bG (xs.length <= 1000000) (some (.none, hp.set r (.list (xs ++ [x]), k + 1)))
theorem dH : cO G hd d (.builtin "list.append") cW := by
 rintro args A fr μ hp s z hp' tr hA H zI11 hm Q E h
 obtain ⟨vs, rs, rfl⟩ := zI11
 apply TP rs hm; intro o x w v ro dE hm
 apply tM H ro hm; intro r xs k a ws n hr ha g1 k1 hm
 refine bA hm fun hl hm => ?_
 cases hm
 refine call_meets F.slot_list_append ⟨_, g1, rfl⟩ F.entry_list_append (F.args_list_append_2 _ _) (list_append a ws.toArray n v (by rw [size_toArray, <- k1.length, sizeLine_eq]; omega)) ⟨g1, ?_⟩
 have g := kZ H hr ha g1 (f := fun xs => xs.push v) (ws := ws ++ [v]) (by simp) (k1.append (.cons dE .nil)) s.toks
 exact h _ _ μ g.2 g.1 .none
noncomputable def uX : List AV -> dM AV := fun args hp => BU args fun o => bL hp o fun r xs k => bG (xs.length <= 1000000) (bO xs.getLast? fun y => some (y, hp.set r (.list xs.dropLast, k + 1)))
theorem dX.dropLast {h : Heap} {xs : List AV} {vs : List Value} (k : dX G μ h xs vs) : dX G μ h xs.dropLast vs.dropLast :=
 k.ind (P := fun xs vs => dX G μ h xs.dropLast vs.dropLast) .nil fun h1 k ih => by
  cases k with
  | nil => exact .nil
  | cons _ _ => exact .cons h1 ih
theorem uR : cO G hd d (.builtin "list.pop") uX := by
 rintro args A fr μ hp s z hp' tr hA H zI11 hm Q E h
 obtain ⟨vs, rs, rfl⟩ := zI11
 apply EM rs hm; intro o w ro hm
 apply tM H ro hm; intro r xs k a ws n hr ha g1 k1 hm
 refine bA hm fun hl hm => ?_
 refine aL hm fun y hy hm => ?_
 cases hm
 rw [List.getLast?_eq_getElem?] at hy
 obtain ⟨v, hv, rv⟩ := k1.get hy
 rw [k1.length] at hv
 have hz : ws.toArray.size <= sizeLine := by rw [size_toArray, <- k1.length, sizeLine_eq]; omega
 refine call_meets F.slot_list_pop ⟨_, g1, rfl⟩ F.entry_list_pop (F.args_list_pop_1 _) (MeetsSeq.list_pop_last a ws.toArray n v (by simpa using hv) hz) ⟨g1, ?_⟩
 have g := kZ H hr ha g1 (f := fun xs => xs.eraseIdxIfInBounds (ws.toArray.size - 1)) (ws := ws.dropLast) (by
  apply Array.toList_inj.mp
  simp [Array.toList_eraseIdxIfInBounds, List.eraseIdx_length_sub_one]) k1.dropLast s.toks
 exact h _ _ μ g.2 g.1 (rv.ext H (by intro a ha; cases ha) g.2)
noncomputable def wR : List AV -> dM AV := fun args hp => BU args fun o => bL hp o fun r xs k => bG (xs.length <= 1000000) (some (.none, hp.set r (.list [], k + 1)))
theorem FX : cO G hd d (.builtin "list.clear") wR := by
 rintro args A fr μ hp s z hp' tr hA H zI11 hm Q E h
 obtain ⟨vs, rs, rfl⟩ := zI11
 apply EM rs hm; intro o w ro hm
 apply tM H ro hm; intro r xs k a ws n hr ha g1 k1 hm
 refine bA hm fun hl hm => ?_
 cases hm
 refine call_meets F.slot_list_clear ⟨_, g1, rfl⟩ F.entry_list_clear (F.args_list_clear_1 _) (AutoSeq1.list_clear_list_0 a ws.toArray n (by rw [size_toArray, <- k1.length, sizeLine_eq]; omega)) ⟨g1, ?_⟩
 have g := kZ H hr ha g1 (f := fun zz => #[]) (ws := []) (by rfl) .nil s.toks
 exact h _ _ μ g.2 g.1 .none
noncomputable def AE : List AV -> dM AV := fun args hp => PV args fun o i => bI i fun k => bD hp o fun zz es zz => some ((xL es k).getD .none, hp)
theorem CY (gx : GX G) : cO G hd d (.builtin "dict.get") AE := by
 rintro args A fr μ hp s z hp' tr hA H zI11 hm Q E h
 obtain ⟨vs, rs, rfl⟩ := zI11
 apply TP rs hm; intro o i w u ro ri hm
 apply xH ri hm; intro k t hm
 apply TX H ro hm; intro r es ver a kvs hr ha hd hk hm
 ··cases hm
   refine call_meetsIn F.slot_dict_get hd.typeIs F.entry_dict_get (F.args_dict_get_2 _ _) (meets_dict_get (intKind G.prog G.w) _ (k := k) (by simp [intKind, Value.isInt]) (H.sys gx (mem_of_getElem? ha))) ⟨_, hd.mapOf, ?_⟩
   obtain ⟨f1, f2⟩ := hk.find (k := k)
   cases e : xL es k with
   | none => rw [f2 e]; rw [e] at h; exact h _ _ μ (cN.tok _) (H.tok _) .none
   | some x =>
    obtain ⟨v, e2, rv⟩ := f1 x e
    rw [e2]; rw [e] at h; exact h _ _ μ (cN.tok _) (H.tok _) rv
noncomputable def JP : List AV -> dM AV := fun args hp => PV args fun o i => bI i fun k => bS hp o fun r ks ver => bG (ks.length < 1000) (some (.none, hp.set r (.iset (if ks.contains k then ks else ks ++ [k]), ver + 1)))
theorem NF : cO G hd d (.builtin "set.add") JP := by
 rintro args A fr μ hp s z hp' tr hA H zI11 hm Q E h
 obtain ⟨vs, rs, rfl⟩ := zI11
 apply TP rs hm; intro o i w u ro ri hm
 apply xH ri hm; intro k t hm
 apply L6 H ro hm; intro r ks ver a o hr ha ho hor hm
 refine bA hm fun hl hm => ?_
 ···cases hm
    obtain ⟨es, ep, t, a1, a2, a3, a4, a5, a6, a7⟩ := hor.of_iset
    have hb : (1000 : Nat) < scanBound := by decide
    refine call_set_add (knd := intKind G.prog G.w) (k := k) (S := fun k => ks.contains k) (n := es.size) (by simp [intKind, Value.isInt]) (wT _ _) ⟨o, _, _, _, ho, a1, a2, a3, a4, a5, a6, rfl⟩ (by rw [a7]; omega) fun h' hs hS => ?_
    obtain ⟨o', es', ep', t', b1, b2, b3, b4, b5, b6, b7, b8⟩ := hS
    have hk : ∀ b o, b ≠ _ -> s.heap.get? b = some o -> h'.get? b = some o := fun b o hb e => (hs.2 b hb).trans e
    have g := H.put (tk := s.toks + 1) (c := (.iset ks, ver)) (x := .iset (if ks.contains k then ks else ks ++ [k])) hr ha hk b1 (.iset b2 b3 b4 (fun k' => ?_) b6 b7 ?_)
    ·exact h _ _ μ g.2 g.1 .none
    ·rw [<- b5 k']
     by_cases hc : ks.contains k = true
     ·rw [if_pos hc]
      simp only [Bool.or_eq_true, decide_eq_true_eq]
      exact ⟨fun q => .inl q, fun q => q.elim id fun e => by subst e; exact hc⟩
     ·rw [if_neg hc]
      simp only [List.contains_eq_mem, mem_append, mem_singleton, Bool.or_eq_true, decide_eq_true_eq]
    ·rw [b8]
     by_cases hc : ks.contains k = true
     ·rw [if_pos hc, if_pos hc]; exact a7
     ·rw [if_neg hc, if_neg hc, a7]; simp
end
noncomputable def idxOf (k : Int) (n : Nat) : Option Nat := if 0 <= k then (if k < n /\ n <= 1000000 then some k.toNat else none) else (if -(n : Int) <= k /\ n <= 1000000 then some (k + n).toNat else none)
noncomputable def oX (o i : AV) (hp : AH) : Option AV := bI i fun k => bE (bL hp o fun zz xs zz => bO (idxOf k xs.length) fun j => xs[j]?) (bE (bD hp o fun zz es zz => xL es k) (bO o.tup? fun xs => bG (0 <= k /\ k < 1000000) xs[k.toNat]?))
section
variable {G : a_} {sc : SC} {hd : Bool} {d : Nat} {fr : List Env} {μ : List Addr} {hp : AH} {s : Shared}
theorem OL {A : Around} {Q : Value -> Shared -> Prop} {E : Value -> Shared -> Prop} (H : bK G fr μ hp s) {o i v : AV} {ov iv : Value} (ro : VR G μ s.heap o ov) (ri : VR G μ s.heap i iv) (h : oX o i hp = some v) (k : ∀ w tk, VR G μ s.heap v w -> Q w { s with toks := tk }) :
  (∃ T id, s.TypeIs ov T /\ typeLookup (.type T) "__getitem__" = pure (some (.builtin id))) /\ wpAny G.M A (getItem ov iv) Q E s := by
 apply xH ri h; intro n t h
 refine dO h (fun h => ?_) fun h => dO h (fun h => ?_) fun h => aL h fun xs e h => bA h fun hn h => ?_
 ·apply tM H ro h; intro r xs ver a vs n' hr ha g1 k1 h
  have hl : s.heap.IsList _ vs.toArray := ⟨_, g1, rfl, n', rfl⟩
  refine ⟨⟨"list", _, hl.typeIs, slot_list_getitem.lookup⟩, ?_⟩
  refine aL h fun j hj h => ?_
  refine Mine.hold fun gL bk => ?_
  obtain ⟨w, hw, rw'⟩ := k1.get h
  refine bk ?_; clear bk gL
  unfold idxOf at hj
  split at hj
  ·rename_i h0
   split at hj
   ·rename_i h1
    cases hj
    exact wpAny_getItem_list hl h0 (by omega) (by simpa using hw) (k w s.toks rw')
   ·cases hj
  ·rename_i h0
   split at hj
   ·rename_i h1
    cases hj
    refine wpAny_getItem_list_neg hl (by omega) (by rw [size_toArray, <- k1.length]; exact h1.1) (by omega) ?_ (k w s.toks rw')
    rw [size_toArray, <- k1.length]
    simpa using hw
   ·cases hj
 ·apply TX H ro h; intro r es ver a kvs hr ha hd hk h
  refine ⟨⟨"dict", _, hd.typeIs, slot_dict_getitem.lookup⟩, ?_⟩
  obtain ⟨w, hw, rw'⟩ := (hk.find (k := n)).1 v h
  exact wpAny_getItem_of (knd := intKind G.prog G.w) (k := n) (by simp [intKind, Value.isInt]) hd.mapOf hw (k w _ rw')
 ·rw [AV.of_tup? e] at ro
  refine Mine.hold fun gL bk => ?_
  obtain ⟨_, _, _, _, rfl, h1, h2, h3, h4, h5⟩ := ro.of_tup
  obtain ⟨w, hw, rw'⟩ := h5.get h
  refine bk ?_; clear bk gL
  have ht : IsTup s.heap _ _ := ⟨_, h1, h2, _, h3⟩
  refine ⟨⟨"tuple", _, ht.typeIs, slot_tuple_getitem.lookup⟩, ?_⟩
  have hlt := (List.getElem?_eq_some_iff.mp h).1
  refine PyProof.Rows.getItem_tuple ht (by omega) (by omega) (seqIndex_of hn.1 ?_) (by simpa using hw) (k w s.toks rw')
  rw [size_toArray, <- h5.length]; omega
noncomputable def iA (m k : AM AV) : AM AV := do
 let o <- m
 let i <- k
 nQ (oX o i)
theorem dD {m k : AM AV} {value slice : Expr} {pos : Pos} (qK : b_ G sc hd d m value) (qL : b_ G sc hd d k slice) (hsl : autoParam (∀ o i, subscripted slice false o i = operate [o, i] (getItem o i)) aR) : b_ G sc hd d (iA m k) (.Subscript value slice pos) := by
 intro A fr env own μ st s z st' hA I hm Q E h
 refine PyProof.Rows.Subscript_ (aQ qK hA I hm fun o st₁ ov aB aD bP aT aJ bH => aQ qL hA aJ bP fun i st₂ iv bQ bY e_ bJ bF dE => ?_)
 refine Mine.hold fun gL bk => ?_
 obtain ⟨rfl, hv⟩ := cV e_
 obtain ⟨⟨T, id, t1, t2⟩, hg⟩ := OL (A := A) (Q := Q) (E := E) bF.h (aJ.vr bJ bH) dE hv fun w tk rw' => h _ _ _ (I.trans aT (aJ.trans bJ (cN.tok tk))) (bF.tok tk) rw'
 refine bk ?_; clear bk gL
 exact tail_any t1 t2 hg (hsl _ _)
noncomputable def pickL {α : Type} (xs : List α) (lo hi st : Option Int) : List α :=
 (sliceRange (sliceBounds lo hi st xs.length).1 (sliceBounds lo hi st xs.length).2.1 (sliceBounds lo hi st xs.length).2.2).filterMap (xs[·]?)
theorem dX.pickI {h : Heap} {xs : List AV} {vs : List Value} (r : dX G μ h xs vs) : ∀ l : List Nat, dX G μ h (l.filterMap (xs[·]?)) (l.filterMap (vs[·]?))
 | [] => .nil
 | i :: l => by
  rw [List.filterMap_cons, List.filterMap_cons]
  cases e : xs[i]? with
  | none =>
   have : vs[i]? = none := by
    rw [List.getElem?_eq_none_iff] at e |-
    rw [<- r.length]; exact e
   rw [this]; exact r.pickI l
  | some x =>
   refine Mine.hold fun gL bk => ?_
   obtain ⟨v, hv, rv⟩ := r.get e
   refine bk ?_; clear bk gL
   rw [hv]; exact .cons rv (r.pickI l)
theorem dX.pickL {h : Heap} {xs : List AV} {vs : List Value} (r : dX G μ h xs vs) (lo hi st : Option Int) : dX G μ h (pickL xs lo hi st) (slicePick vs.toArray lo hi st).toList := by
 unfold Mine.pickL slicePick
 rw [r.length]
 have := r.pickI (sliceRange (sliceBounds lo hi st vs.length).1 (sliceBounds lo hi st vs.length).2.1 (sliceBounds lo hi st vs.length).2.2)
 simpa using this
noncomputable def BG (v : AV) : Option (Option Int) := v.casesOn (some none) (fun zz => none) (fun i => some (some i)) (fun zz => none) (fun zz => none) (fun zz => none) (fun zz => none) (fun zz => none) (fun zz => none) fun zz => none
theorem fO : BG .none = some none := rfl
theorem gG (i : Int) : BG (.int i) = some (some i) := rfl
abbrev MW (G : a_) (sc : SC) (hd : Bool) (d : Nat) (m : AM (Option Int)) (e : Option Expr) : Prop := TL G sc hd d m (fun env => evalPart e env) (fun zz zz a b => IsPart b a)
noncomputable def nP (m : AM AV) : AM (Option Int) := do
 let v <- m
 nQ fun zz => BG v
theorem dY : MW G sc hd d (pure none) none := by
 intro A fr env own μ st s z st' hA I hm Q E h
 cases hm
 show wpAny _ _ (pure Value.none) _ _ _
 exact wpAny_pure (h _ _ _ cN.refl I .none)
theorem gK {m : AM AV} {e : Expr} (S : b_ G sc hd d m e) : MW G sc hd d (nP m) (some e) := by
 intro A fr env own μ st s z st' hA I hm Q E h
 show wpAny _ _ (eval e env) _ _ _
 refine aQ S hA I hm fun v st₁ w aB aD bP aT aJ bH => ?_
 obtain ⟨rfl, hv⟩ := cV bP
 cases bH with
 | none => cases hv; exact h _ _ _ aT aJ .none
 | int i t => cases hv; exact h _ _ _ aT aJ (.int _ _)
 | _ => cases hv
noncomputable def AV.script? (v : AV) : _root_.Option (List Int) := v.casesOn Option.none (fun zz => Option.none) (fun zz => Option.none) (fun zz => Option.none) (fun zz => Option.none) (fun zz => Option.none) (fun zz => Option.none) (fun zz => Option.none) (fun zz => Option.none) (fun x => Option.some x)
theorem AV.of_script? {x : AV} {y : List Int} (h : x.script? = _root_.Option.some y) : x = .script y := by
 cases x with
 | script => cases h; rfl
 | _ => cases h
noncomputable def jE (o : AV) (lo hi st : Option Int) : dM AV := fun hp => bG (st ≠ some 0) (bE (bL hp o fun zz xs zz => bG (xs.length <= 1000000) (gJ (.list (pickL xs lo hi st)) hp)) (bO o.script? fun ns => bG (ns.length <= 1000000) (gJ (.list (pickL (ns.map .int) lo hi st)) hp)))
noncomputable def lU (m : AM AV) (lo hi st : AM (Option Int)) : AM AV := do
 let o <- m
 let a <- lo
 let b <- hi
 let c <- st
 fB (jE o a b c)
theorem iI {m : AM AV} {ml mu ms : AM (Option Int)} {value : Expr} {lo hi st : Option Expr} {sp pos : Pos} (S : b_ G sc hd d m value) (Sl : MW G sc hd d ml lo) (Su : MW G sc hd d mu hi) (Ss : MW G sc hd d ms st)
  (hsl : ∀ o i, ∃ ops, subscripted (.Slice lo hi st sp) false o i = operate ops (getItem o i) := by exact fun zz zz => ⟨_, rfl⟩) : b_ G sc hd d (lU m ml mu ms) (.Subscript value (.Slice lo hi st sp) pos) := by
 intro A fr env own μ st₀ s z st' hA I hm Q E h
 refine PyProof.Rows.Subscript_ (aQ S hA I hm fun o st₁ ov aB aD bP aT aJ bH => wpAny_Slice (aQ Sl hA aJ bP fun a st₂ av bQ bY e_ bJ bF dE => aQ Su hA bF e_ fun b oC bv dG eO oE cI cF iY => aQ Ss hA cF oE fun c lE cv hK rY w_ lH kK HD => ?_))
 have xB := cF.vr lH (bF.vr cI (aJ.vr bJ bH))
 refine Mine.hold fun gL bk => ?_
 obtain ⟨hp', h4, rfl⟩ := cR w_
 refine bk ?_; clear bk gL
 refine bA h4 fun hst h4 => ?_
 have gs := kK.h.grow (h' := hK.heap.push { cls := .type "slice", data := .fields #[av, bv, cv] }) (tk := hK.toks) fun b o e => Heap.get?_push_of_some _ e
 have rZ := kK.heap gs.2 gs.1
 have fin : ∀ {xs : List AV} {vs : List Value} {l : Addr}, dX G rY hK.heap xs vs -> (hK.heap.push { cls := .type "slice", data := .fields #[av, bv, cv] }).IsList l vs.toArray -> vs.length <= 1000000 -> gJ (.list (pickL xs a b c)) lE.hp = some (z, hp') ->
   wpAny G.M A (PyProof.Rows.subscriptTail value (.Slice lo hi st sp) (.ref l) (.ref hK.heap.objs.size)) Q E { hK with heap := hK.heap.push { cls := .type "slice", data := .fields #[av, bv, cv] } } := by
  intro xs vs l k hl hz e
  cases e
  obtain ⟨ops, hops⟩ := hsl (.ref l) (.ref hK.heap.objs.size)
  refine tail_any hl.typeIs slot_list_getitem.lookup (wpAny_getItem_list_slice hl ⟨_, Heap.get?_push_size _ rfl, rfl, rfl⟩ dE iY HD hst ?_ (by rw [size_toArray, sizeLine_eq]; omega)) hops
  have g := vM (tk := hK.toks) (n := 0) rZ.h ((k.ext kK.h (by intro a ha; cases ha) gs.2).pickL a b c)
  rw [Array.toArray_toList] at g
  exact h _ _ _ (I.trans aT (aJ.trans bJ (bF.trans cI (cF.trans lH (cN.trans kK.h.len gs.2.weaken g.2.weaken))))) (rZ.heap g.2 g.1) (gM rZ.h.len)
 refine dO h4 (fun h4 => ?_) fun h4 => aL h4 fun ns e h4 => bA h4 fun hz h4 => ?_
 ·apply tM kK.h xB h4; intro r xs ver a vs n hr ha g1 k1 h4
  refine bA h4 fun hz h4 => ?_
  exact fin k1 ⟨_, Heap.get?_push_of_some _ g1, rfl, n, rfl⟩ (by rw [<- k1.length]; exact hz) h4
 ·rw [AV.of_script? e] at xB
  obtain ⟨a, o, n, vs, rfl, h1, h2, h3, h5⟩ := xB.toM
  exact fin (dX.ofInts h5) ⟨_, Heap.get?_push_of_some _ (kK.h.base _ _ h1), h2, _, h3⟩ (by rw [<- (dX.ofInts (G := G) (μ := rY) (h := hK.heap) h5).length, length_map]; exact hz) h4
noncomputable def gX (o i v : AV) : dM Unit := fun hp => bI i fun k => bD hp o fun r es ver => bG (es.length <= 1000000) (some ((), hp.set r (.dict (DV es k v), ver + 1)))
theorem vG {A : Around} {Q : Unit -> Shared -> Prop} {E : Value -> Shared -> Prop} {hp' : AH} (H : bK G fr μ hp s) {o i v : AV} {ov iv vv : Value} (ro : VR G μ s.heap o ov) (ri : VR G μ s.heap i iv) (rv : VR G μ s.heap v vv) (h : gX o i v hp = some ((), hp'))
  (k : ∀ s', cN [] fr μ hp s μ hp' s' -> bK G fr μ hp' s' -> Q () s') : wpAny G.M A (setItem ov iv vv) Q E s := by
 apply xH ri h; intro n t h
 apply TX H ro h; intro r es ver a kvs hr ha hd hk h
 refine bA h fun hz h => ?_
 cases h
 refine wpAny_setItem_pairs (knd := intKind G.prog G.w) (k := n) (by simp [intKind, Value.isInt]) hd (fun h' hd' hs => ?_) (by rw [<- hk.length, sizeLine_eq]; omega)
 have g := CD H hr ha hs hd' (hk.set rv) (s.toks + 1)
 exact k _ g.2 g.1
noncomputable def wC (mo mi mv : AM AV) : AM aN := do
 let v <- mv
 let o <- mo
 let i <- mi
 fB (gX o i v)
 pure .next
theorem AJ {mo mi mv : AM AV} {o i value : Expr} {p pos : Pos} (Sv : b_ G sc hd d mv value) (So : b_ G sc hd d mo o) (Si : b_ G sc hd d mi i) (hs : autoParam (swapsWith value (some (.Subscript o i p)) pos.line = fun zz => pure false) aR) :
  jY G sc hd d (wC mo mi mv) (.Assign [.Subscript o i p] value pos) := by
 intro A outer env own μ st s fl st' hA hf I hm Q E h hE
 refine wpAny_Assign_Subscript (aQ Sv hA I hm fun v st₁ vv aB aD bP aT aJ bH => aQ So hA aJ bP fun o st₂ ov bQ bY e_ bJ bF dE => aQ Si hA bF e_ fun i oC iv dG eO oE cI cF iY => ?_) (by rw [hs])
 refine Mine.hold fun gL bk => ?_
 obtain ⟨u, lE, h1, h2⟩ := aF oE
 cases h2
 obtain ⟨hp', h3, rfl⟩ := cR h1
 refine bk ?_; clear bk gL
 refine vG cF.h (bF.vr cI dE) iY (bF.vr cI (aJ.vr bJ bH)) h3 fun s' x' H' => ?_
 exact h _ _ _ (I.trans aT (aJ.trans bJ (bF.trans cI x'.weaken))) (cF.heap x' H') .next
noncomputable def mH (o i : AV) : dM Unit := fun hp => bI i fun k => bD hp o fun r es ver => bG (es.length <= 1000000 /\ (xL es k).isSome = true) (some ((), hp.set r (.dict (KN es k), ver + 1)))
noncomputable def QQ (mo mi : AM AV) : AM aN := do
 let o <- mo
 let i <- mi
 fB (mH o i)
 pure .next
theorem MY {mo mi : AM AV} {o i : Expr} {p pos : Pos} (So : b_ G sc hd d mo o) (Si : b_ G sc hd d mi i) : jY G sc hd d (QQ mo mi) (.Delete [.Subscript o i p] pos) := by
 intro A outer env own μ st s fl st' hA hf I hm Q E h hE
 refine wpAny_Delete (wpAny_deleteEach_cons (wpAny_delete_Subscript (aQ So hA I hm fun o st₂ ov bQ bY e_ bJ bF dE => aQ Si hA bF e_ fun i oC iv dG eO oE cI cF iY => ?_)))
 refine Mine.hold fun gL bk => ?_
 obtain ⟨u, lE, h1, h2⟩ := aF oE
 cases h2
 obtain ⟨hp', h3, rfl⟩ := cR h1
 refine bk ?_; clear bk gL
 have s5 := bF.vr cI dE
 apply xH iY h3; intro n t h3
 apply TX cF.h s5 h3; intro r es ver a kvs hr ha hdd hk h3
 refine bA h3 fun hz h3 => ?_
 cases h3
 have hl : (valueAt kvs n).isSome = true := by
  cases e : xL es n with
  | none => rw [e] at hz; cases hz.2
  | some x =>
   obtain ⟨v, hv, _⟩ := (hk.find (k := n)).1 x e
   rw [hv]; rfl
 unfold delItem
 try with_reducible refine wpAny_holding ?_
 refine wpAny_bind (wpAny_sequenceKey hdd.typeIs (by decide) ?_)
 refine wpAny_bind (wpAny_callSpecial?_slot (name := Str.ofString "__delitem__") hdd.typeIs PySem.F.slot_dict_delitem
  (call_meetsIn PySem.F.slot_dict_delitem hdd.typeIs PySem.F.entry_dict_delitem (PySem.F.args_dict_delitem_2 _ _) (meets_dict_delitem_pairs (intKind G.prog G.w) _ (k := n) (by simp [intKind, Value.isInt])) ⟨kvs, hdd, (by rw [<- hk.length, sizeLine_eq]; omega), hl, fun h' hmm hs => ?_⟩))
 have g := CD cF.h hr ha hs hmm hk.del (dG.toks + 1)
 refine wpAny_pure ?_
 exact wpAny_deleteEach_nil (h _ _ _ (I.trans bJ (bF.trans cI g.2.weaken)) (cF.heap g.2 g.1) .next)
noncomputable def BD (x : String) (m : AM AV) : AM AV := do
 let v <- m
 cD x v
 pure v
theorem yD {x : String} {m : AM AV} {e : Expr} {p pos : Pos} (S : b_ G sc hd d m e) (hx : d_ sc x) : b_ G sc hd d (BD x m) (.NamedExpr (.Name (Str.ofString x) p) e pos) := by
 intro A fr env own μ st s z st' hA I hm Q E h
 refine wpAny_NamedExpr (aQ S hA I hm fun v st₁ w aB aD bP aT aJ bH => ?_)
 cases bP
 exact wpAny_assign_Name (jS aJ bH hx fun bQ bJ bF => h _ _ _ (I.trans aT bJ) bF (aJ.vr (st₁ := { st₁ with env := put x z st₁.env }) bJ bH))
noncomputable def mU (mo mi : AM AV) (x : String) (mv : AM AV) : AM aN := do
 let v <- mv
 let o <- mo
 let i <- mi
 fB (gX o i v)
 cD x v
 pure .next
theorem mM {A : Around} {s : Shared} {o i : Expr} {p : Pos} {env : Env} {v : Value} {Q : Unit -> Shared -> Prop} {E : Value -> Shared -> Prop}
  (h : wpAny G.M A (eval o env) (fun ov aB => wpAny G.M A (eval i env) (fun iv bQ => wpAny G.M A (setItem ov iv v) Q E bQ) E aB) E s) : wpAny G.M A (assign (.Subscript o i p) env v) Q E s := fun Γ p I9 => by
 simp only [assign_Subscript, Sem.wp_bind', Sem.wp_holding, Sem.wp_cmd_standAt, Sem.wp_release, Sem.wp_pure']
 exact Sem.wp_mono G.M Γ _ (fun ov xW aB fZ => Sem.wp_mono G.M Γ _ (fun iv BN bQ xV => xV Γ _ I9) (fun zz zz zz h' => h') _ _ (fZ Γ xW I9)) (fun zz zz zz h' => h') _ _ (h Γ _ I9)
theorem sE {x : String} {mo mi mv : AM AV} {o i value : Expr} {p px pos : Pos} (Sv : b_ G sc hd d mv value) (So : b_ G sc hd d mo o) (Si : b_ G sc hd d mi i) (hx : d_ sc x)
  (hw : autoParam (∀ env : Env, swappedStores [.Subscript o i p, .Name (Str.ofString x) px] value env = pure none) aR) :
  jY G sc hd d (mU mo mi x mv) (.Assign [.Subscript o i p, .Name (Str.ofString x) px] value pos) := by
 intro A outer env own μ st s fl st' hA hf I hm Q E h hE
 refine wpAny_Assign_two (aQ Sv hA I hm fun v st₁ vv aB aD bP aT aJ bH => mM (aQ So hA aJ bP fun o st₂ ov bQ bY e_ bJ bF dE => aQ Si hA bF e_ fun i oC iv dG eO oE cI cF iY => ?_)) rfl (hw env)
 refine Mine.hold fun gL bk => ?_
 obtain ⟨u, lE, h1, h2⟩ := aF oE
 cases h2
 obtain ⟨hp', h3, rfl⟩ := cR h1
 refine bk ?_; clear bk gL
 have rv := bF.vr cI (aJ.vr bJ bH)
 refine vG cF.h (bF.vr cI dE) iY rv h3 fun s' x' H' => ?_
 have kK := cF.heap x' H'
 refine wpAny_assign_Name (jS kK (cF.vr (st₁ := { oC with hp := hp' }) x'.weaken rv) hx fun s'' x'' I'' => ?_)
 exact h _ _ _ (I.trans aT (aJ.trans bJ (bF.trans cI (cN.trans cF.h.len x'.weaken x'')))) I'' .next
end
noncomputable def HG (h : Heap) (L : Addr) (as : List Addr) : List (Addr × Obj) := as.filterMap fun a => if a = L then none else (h.get? a).map fun o => (a, o)
theorem kM {h : Heap} {L : Addr} {as : List Addr} {b : Addr} {o : Obj} : (b, o) ∈ HG h L as ↔ b ∈ as /\ b ≠ L /\ h.get? b = some o := by
 unfold HG
 simp only [mem_filterMap]
 constructor
 ·rintro zI0
  refine Mine.hold fun gL bk => ?_
  obtain ⟨a, ha, e⟩ := zI0
  refine bk ?_; clear bk gL
  split at e
  ·cases e
  ·rename_i hne
   refine Mine.hold fun gL bk => ?_
   obtain ⟨o', ho', e'⟩ := Option.map_eq_some_iff.mp e
   cases e'
   refine bk ?_; clear bk gL
   exact ⟨ha, hne, ho'⟩
 ·rintro zI0
  refine Mine.hold fun gL bk => ?_
  obtain ⟨ha, hne, ho⟩ := zI0
  refine bk ?_; clear bk gL
  exact ⟨b, ha, by rw [if_neg hne, ho]; rfl⟩
noncomputable def IA (h : Heap) (L x : Addr) : List (Addr × Obj) := HG h L ((List.range h.objs.size).filter (· < x))
noncomputable def zO (h : Heap) (L x : Addr) : List (Addr × Obj) := HG h L ((List.range h.objs.size).filter (x < ·))
theorem MH {h : Heap} {L x : Addr} : ∀ p ∈ IA h L x, p.1 ≠ x := fun p hp e => by
 obtain ⟨b, o⟩ := p
 have h1 := (mem_filter.mp (kM.mp hp).1).2
 simp only at e; subst e
 exact Nat.lt_irrefl _ (of_decide_eq_true h1)
theorem HQ {h : Heap} {L x : Addr} : ∀ p ∈ zO h L x, p.1 ≠ x := fun p hp e => by
 obtain ⟨b, o⟩ := p
 have h1 := (mem_filter.mp (kM.mp hp).1).2
 simp only at e; subst e
 exact Nat.lt_irrefl _ (of_decide_eq_true h1)
theorem rM (a : Addr) : ({} : Heap).get? a = none := Heap.get?_none_of_le (Nat.zero_le _)
theorem DE {h : Heap} {L x : Addr} {ox : Obj} (hx : h.get? x = some ox) (hne : x ≠ L) : News {} L h (IA h L x ++ (x, ox) :: zO h L x) := fun p hp => by
 obtain ⟨b, o⟩ := p
 rcases mem_append.mp hp with q | q
 ·obtain ⟨_, h2, h3⟩ := kM.mp q
  exact ⟨h3, h2, rM _⟩
 ·rcases mem_cons.mp q with q | q
  ·cases q; exact ⟨hx, hne, rM _⟩
  ·obtain ⟨_, h2, h3⟩ := kM.mp q
   exact ⟨h3, h2, rM _⟩
theorem DH {h h' : Heap} {L x : Addr} {ox' : Obj} (N : News {} L h' (IA h L x ++ (x, ox') :: zO h L x)) {b : Addr} {o : Obj} (hL : b ≠ L) (hx : b ≠ x) (hb : h.get? b = some o) : h'.get? b = some o := by
 have hs := Heap.lt_size hb
 rcases Nat.lt_or_gt_of_ne hx with q | q
 ·exact (N (b, o) (mem_append_left _ (kM.mpr ⟨mem_filter.mpr ⟨mem_range.mpr hs, decide_eq_true q⟩, hL, hb⟩))).1
 ·exact (N (b, o) (List.mem_append_right _ (mem_cons_of_mem _ (kM.mpr ⟨mem_filter.mpr ⟨mem_range.mpr hs, decide_eq_true q⟩, hL, hb⟩)))).1
theorem OX {h h' : Heap} {L x : Addr} {ox' : Obj} (N : News {} L h' (IA h L x ++ (x, ox') :: zO h L x)) : h'.get? x = some ox' := (N (x, ox') (List.mem_append_right _ mem_cons_self)).1
theorem LN {h : Heap} {L : Addr} {m : PySem.Str -> Option Value} (hn : h.Ns L m) : Fr {} L h m := ⟨hn, fun b o e => (by rw [rM] at e; cases e), Nat.zero_le _⟩
section
variable {G : a_} {sc : SC} {hd : Bool} {d : Nat}
theorem wN {fr : List Env} {env : Env} {own μ : List Addr} {st : AS} {s : Shared} {n : Nat} {c : aI × Nat} {a : Addr} {x : aI} {o' : Obj} {h' : Heap} {tk : Nat} {m : PySem.Str -> Option Value} (I : fJ G sc fr env own μ st s) (hc : st.hp[n]? = some c) (ha : μ[n]? = some a)
  (hm : ∀ x v, st.env.lookup x = some v -> env.kindOf (Str.ofString x) = some .local -> ∃ w, m (Str.ofString x) = some w /\ VR G μ s.heap v w)
  (hns : h'.Ns env.locals m) (hk : ∀ b o, b ≠ env.locals -> b ≠ a -> s.heap.get? b = some o -> h'.get? b = some o) (ho : h'.get? a = some o') (hor : eU μ μ s.heap h' -> OR G μ h' x o') :
  XT own fr μ st s μ { st with hp := st.hp.set n (x, c.2 + 1) } { s with heap := h', toks := tk } /\ fJ G sc fr env own μ { st with hp := st.hp.set n (x, c.2 + 1) } { s with heap := h', toks := tk } := by
 have ham : a ∈ μ := mem_of_getElem? ha
 have hlt : n < st.hp.length := (List.getElem?_eq_some_iff.mp hc).1
 refine Mine.hold fun gL bk => ?_
 obtain ⟨l1, l2, oL, l3, l4⟩ := I.e.ownp _ I.e.lown
 have hLa : env.locals ≠ a := fun q => l1 (q ▸ ham)
 obtain ⟨oL', es', ep', hL', hLd, _⟩ := id hns
 obtain ⟨oa, hoa, _⟩ := I.h.obj n c a hc ha
 refine bk ?_; clear bk gL
 have still : eU μ μ s.heap h' := fun b o e hcl hd hmm => ⟨hmm, hk b o (fun q => by
  subst q; rw [l3] at e; cases e; exact l4.noTup hcl hd) (fun q => hmm (q ▸ ham)) e⟩
 refine ⟨⟨⟨[], by simp, by simp⟩, ⟨h', tk, rfl⟩, fun b o e => ?_, fun b o e hb hbo => ⟨o.slots, hk b o (fun q => hbo (q ▸ I.e.lown)) (fun q => hb (q ▸ ham)) e, fun zz => rfl⟩, fun j c' hc' => ?_⟩, ⟨⟨fun b o e => ?_, by simp [I.h.len], I.h.nod, fun j c' b hc' hb => ?_, I.h.low, fun e he => ?_⟩, ⟨I.e.ok, fun b hb => ?_, I.e.lown, ⟨m, hns, fun y v hy hkk => ?_⟩, fun y v hy => ?_, fun y cc hy => ?_, I.e.cown, I.e.cnot⟩⟩⟩
 ·by_cases q : b = env.locals
  ·exact ⟨_, q ▸ hL'⟩
  ·by_cases q' : b = a
   ·exact ⟨_, q' ▸ ho⟩
   ·exact ⟨_, hk b o q q' e⟩
 ·by_cases hj : j = n
  ·subst hj
   rw [hc] at hc'; cases hc'
   exact ⟨_, List.getElem?_set_self hlt, Nat.le_succ _, fun e => absurd e (Nat.ne_of_lt (Nat.lt_succ_self _))⟩
  ·refine ⟨c', by simp only; rw [List.getElem?_set_ne (Ne.symm hj)]; exact hc', Nat.le_refl _, fun zz => ⟨rfl, fun b hb => ?_⟩⟩
   refine Mine.hold fun gL bk => ?_
   obtain ⟨o', h1, _⟩ := I.h.obj j c' b hc' hb
   refine bk ?_; clear bk gL
   exact (hk b o' (fun z => l1 (z ▸ mem_of_getElem? hb)) (fun z => hj (I.h.inj (z ▸ hb) ha)) h1).trans h1.symm
 ·exact hk b o (fun z => by subst z; rw [l2] at e; cases e) (fun z => by subst z; rw [I.h.low _ ham] at e; cases e) (I.h.base b o e)
 ·by_cases hj : j = n
  ·subst hj
   simp only [List.getElem?_set_self hlt] at hc'
   refine Mine.hold fun gL bk => ?_
   cases hc'
   rw [ha] at hb; cases hb
   refine bk ?_; clear bk gL
   exact ⟨o', ho, hor still⟩
  ·simp only [List.getElem?_set_ne (Ne.symm hj)] at hc'
   refine Mine.hold fun gL bk => ?_
   obtain ⟨o', h1, h2⟩ := I.h.obj j c' b hc' hb
   refine bk ?_; clear bk gL
   exact ⟨o', hk b o' (fun z => l1 (z ▸ mem_of_getElem? hb)) (fun z => hj (I.h.inj (z ▸ hb) ha)) h1, h2.mono (fun zz zz e => e) still⟩
 ·obtain ⟨k, L, o', h1, h2, h3, h4, h5⟩ := I.h.frs e he
  by_cases q : L = env.locals
  ·subst q
   exact ⟨k, _, oL', h1, hL', ⟨_, _, hLd⟩, h4, h5⟩
  ·exact ⟨k, L, o', h1, hk L o' q (fun z => h4 (z ▸ ham)) h2, h3, h4, h5⟩
 ·obtain ⟨g1, g2, o, g3, g4⟩ := I.e.ownp b hb
  refine ⟨g1, g2, ?_⟩
  by_cases q : b = env.locals
  ·exact ⟨_, q ▸ hL', .inl ⟨_, _, hLd⟩⟩
  ·exact ⟨o, hk b o q (fun z => g1 (z ▸ ham)) g3, g4⟩
 ·obtain ⟨w, g1, g2⟩ := hm y v hy hkk
  exact ⟨w, g1, g2.mono (fun zz zz e => e) still⟩
 ·rcases I.e.cel y v hy with q | ⟨q, cc, w, g1, ⟨oo, g2, g2'⟩, g3⟩
  ·exact .inl q
  ·exact .inr ⟨q, cc, w, g1, ⟨oo, hk cc oo (I.e.cells _ _ g1).2.2 (fun z => (I.e.cells _ _ g1).2.1 (z ▸ ham)) g2, g2'⟩, g3.mono (fun zz zz e => e) still⟩
 ·obtain ⟨⟨w, oo, g1, g1'⟩, g2, g3⟩ := I.e.cells y cc hy
  exact ⟨⟨w, oo, hk cc oo g3 (fun z => g2 (z ▸ ham)) g1, g1'⟩, g2, g3⟩
structure CL (K : Frag) (C : Addr) (name : String) : Prop where
 hg : plainGet K C (Str.ofString name) = true
 hh : hasDictIn K C = true
 ha : ∃ attr, findIn K (.ref C) (Str.ofString name) = some attr /\ noGet K attr = true
 hs : findIn K (.ref C) "__setattr__" = some (some (.builtin "object.__setattr__"))
 hp : plainOver K C = true
 ht : takerIn K C (Str.ofString name) = some none
structure CE (K : Frag) (C : Addr) (name : String) (i : Nat) : Prop where
 hg : plainGet K C (Str.ofString name) = true
 hc : isClsIn K C = true
 hs : findIn K (.ref C) "__setattr__" = some (some (.builtin "object.__setattr__"))
 hp : plainOver K C = true
 hz : i < 1000
 at_ : ∃ p, findIn K (.ref C) (Str.ofString name) = some (some (.ref p)) /\ specialIn K (.ref p) "__get__" = some (some (.builtin "member_descriptor.__get__")) /\ takesIn K (.ref p) = some true /\ slotIn K p C = some i /\
  takerIn K C (Str.ofString name) = some (some (.ref p)) /\ typeIn K (.ref p) = some (.type "member_descriptor")
noncomputable def uG (v : AV) : Bool := v.casesOn true (fun zz => true) (fun zz => true) (fun zz => true) (fun zz => true) (fun zz => true) (fun zz => true) (fun x => (withoutEnding? x "#data").isNone) (fun zz => true) fun zz => true
theorem vK {μ : List Addr} {h : Heap} {v : AV} {w : Value} (r : VR G μ h v w) (e : uG v = true) : handedIn w = true := by
 cases r with
 | bi x => exact e
 | _ => rfl
theorem EK.look {μ : List Addr} {h : Heap} {name : String} {xs : List (String × AV)} {es : List DictEntry} (k : EK G μ h xs es) : (∀ v, xs.lookup name = some v -> ∃ w, getL (Str.ofString name) es = some (some w) /\ VR G μ h v w) /\ (xs.lookup name = none -> getL (Str.ofString name) es = some none) := by
 induction k with
 | nil => exact ⟨fun v e => (by cases e), fun zz => rfl⟩
 | @cons k t i_ EI xs es h1 h2 ih =>
  by_cases hk : name = k
  ·subst hk
   have e1 : ((name, i_) :: xs).lookup name = some i_ := by simp
   rw [e1]
   exact ⟨fun v e => ⟨EI, by simp [getL, Value.isStr], by cases e; exact h1⟩, fun e => by cases e⟩
  ·have hb : (name == k) = false := by simp [hk]
   have hne : Str.ofString k ≠ Str.ofString name := fun e => hk (kA e).symm
   have e1 : getL (Str.ofString name) (⟨PyData.keyHash G.w.params (Str.ofString k), .str (Str.ofString k) t, EI⟩ :: es) = getL (Str.ofString name) es := by
    unfold getL
    have : Value.isStr (.str (Str.ofString k) t) (Str.ofString name) = false := by simp [Value.isStr, hne]
    simp only [List.find?_cons, this, List.any_cons]
    rfl
   rw [e1, lookup_cons, hb]
   exact ih
theorem EK.put {μ : List Addr} {h : Heap} {name : String} {v : AV} {w : Value} {t : Tok} (r : VR G μ h v w) {xs : List (String × AV)} {es : List DictEntry} (k : EK G μ h xs es) : EK G μ h (Mine.put name v xs) (putL (Str.ofString name) (PyData.keyHash G.w.params (Str.ofString name)) (.str (Str.ofString name) t) w es) := by
 induction k with
 | nil => exact .cons r .nil
 | @cons k t' i_ EI xs es h1 h2 ih =>
  rw [Mine.fN]; unfold putL
  by_cases hk : k = name
  ·subst hk
   rw [if_pos rfl]
   have : Value.isStr (.str (Str.ofString k) t') (Str.ofString k) = true := by simp [Value.isStr]
   simp only [this, if_true]
   exact .cons r h2
  ·rw [if_neg hk]
   have : Value.isStr (.str (Str.ofString k) t') (Str.ofString name) = false := by
    simp only [Value.isStr, beq_eq_false_iff_ne, ne_eq]
    exact fun e => hk (kA e)
   simp only [this, Bool.false_eq_true, if_false]
   exact .cons h1 ih
theorem EK.length {μ : List Addr} {h : Heap} {xs : List (String × AV)} {es : List DictEntry} (k : EK G μ h xs es) : xs.length = es.length := by
 induction k with
 | nil => rfl
 | cons _ _ ih => exact congrArg (· + 1) ih
theorem rD.length {μ : List Addr} {h : Heap} {xs : List (Option AV)} {es : List (Option Value)} (k : rD G μ h xs es) : xs.length = es.length := by
 induction k with
 | nil => rfl
 | none _ ih => exact congrArg (· + 1) ih
 | some _ _ ih => exact congrArg (· + 1) ih
theorem rD.get {μ : List Addr} {h : Heap} {xs : List (Option AV)} {es : List (Option Value)} (k : rD G μ h xs es) : ∀ {i : Nat} {x : AV}, (xs[i]?).join = Option.some x -> ∃ v, (es[i]?).join = Option.some v /\ VR G μ h x v := by
 induction k with
 | nil => intro i x e; simp at e
 | none _ ih =>
  intro i x e
  cases i with
  | zero => simp at e
  | succ i => exact ih e
 | some h1 _ ih =>
  intro i x e
  cases i with
  | zero => cases e; exact ⟨_, rfl, h1⟩
  | succ i => exact ih e
noncomputable def sput (xs : List (Option AV)) (i : Nat) (v : AV) : List (Option AV) := (xs ++ List.replicate (i + 1 - xs.length) none).set i (some v)
theorem rD.append {μ : List Addr} {h : Heap} {xs ys : List (Option AV)} {es fs : List (Option Value)} (k : rD G μ h xs es) (k' : rD G μ h ys fs) : rD G μ h (xs ++ ys) (es ++ fs) := by
 induction k with
 | nil => exact k'
 | none _ ih => exact .none ih
 | some h1 _ ih => exact .some h1 ih
theorem rD.nones {μ : List Addr} {h : Heap} : ∀ n : Nat, rD G μ h (List.replicate n Option.none) (List.replicate n Option.none)
 | 0 => .nil
 | n + 1 => .none (rD.nones n)
theorem rD.set {μ : List Addr} {h : Heap} {v : AV} {w : Value} (r : VR G μ h v w) {xs : List (Option AV)} {es : List (Option Value)} (k : rD G μ h xs es) : ∀ i : Nat, rD G μ h (xs.set i (Option.some v)) (es.set i (Option.some w)) := by
 induction k with
 | nil => exact fun zz => .nil
 | none k ih =>
  intro i
  cases i with
  | zero => exact .some r k
  | succ i => exact .none (ih i)
 | some h1 k ih =>
  intro i
  cases i with
  | zero => exact .some r k
  | succ i => exact .some h1 (ih i)
theorem rD.sput {μ : List Addr} {h : Heap} {v : AV} {w : Value} {xs : List (Option AV)} {es : List (Option Value)} (k : rD G μ h xs es) (r : VR G μ h v w) (i : Nat) : rD G μ h (Mine.sput xs i v) ((es.toArray ++ Array.replicate (i + 1 - es.toArray.size) Option.none).setIfInBounds i (Option.some w)).toList := by
 have := (k.append (rD.nones (G := G) (μ := μ) (h := h) (i + 1 - es.length))).set r i
 unfold Mine.sput
 rw [k.length]
 simpa using this
structure zF (G : a_) (K : Frag) (ix : String -> String -> Option (Option Nat)) : Prop where
 k : K.In G.h₀
 dict : ∀ c name C, G.addr c = some C -> ix c name = some none -> CL K C name
 slot : ∀ c name C i, G.addr c = some C -> ix c name = some (some i) -> CE K C name i
theorem bK.ex {fr : List Env} {μ : List Addr} {hp : AH} {s : Shared} (H : bK G fr μ hp s) {a : Addr} (ha : a ∈ μ) : ∃ o, s.heap.get? a = some o := by
 refine Mine.hold fun gL bk => ?_
 obtain ⟨n, hn⟩ := List.getElem?_of_mem ha
 have hl := (List.getElem?_eq_some_iff.mp hn).1
 rw [H.len] at hl
 obtain ⟨o, ho, _⟩ := H.obj n _ a (getElem?_eq_getElem hl) hn
 refine bk ?_; clear bk gL
 exact ⟨o, ho⟩
noncomputable def gE (ix : String -> String -> Option (Option Nat)) (name : String) (o : AV) (hp : AH) : Option AV :=
 bC hp o fun zz x zz => bO (bE (bO x.inst? fun p => bG (ix p.1 name = some none) (bO hp[p.2]? fun c => bO c.1.attrs? fun fs => fs.lookup name)) (bO x.sinst? fun p => bO (ix p.1 name).join fun i => (p.2.2[i]?).join)) fun v => bG (uG v = true) (some v)
theorem IR {fr : List Env} {μ : List Addr} {hp : AH} {s : Shared} {A : Around} {K : Frag} {ix : String -> String -> Option (Option Nat)} {name : String} {o v : AV} {ov : Value} {Q : Value -> Shared -> Prop} {E : Value -> Shared -> Prop} (At : zF G K ix) (H : bK G fr μ hp s) (ro : VR G μ s.heap o ov) (hm : gE ix name o hp = some v)
  (h : ∀ w tk, VR G μ s.heap v w -> Q w { s with toks := tk }) : wpAny G.M A (getAttr ov (Str.ofString name) true) Q E s := by
 have X : K.In s.heap := At.k.keeps H.base
 apply M_ H ro hm; intro r x ver a ob hr ha hob hor hm
 refine aL hm fun u hu hm => bA hm fun hh hm => ?_
 cases hm
 refine dO hu (fun hu => aL hu fun p e1 hu => bA hu fun hix hu => aL hu fun c hfs hu => aL hu fun fs e2 hu => ?_) fun hu => aL hu fun p e1 hu => aL hu fun i hix hu => ?_
 ·rw [aI.of_inst? e1] at hor
  refine Mine.hold fun gL bk => ?_
  obtain ⟨_, _, rfl, hC, hdx⟩ := hor.of_inst
  obtain ⟨od, hod, hodr⟩ := H.obj _ _ _ hfs hdx
  rw [aI.of_attrs? e2] at hodr
  obtain ⟨_, _, rfl, ar⟩ := hodr.of_attrs
  obtain ⟨w, hw, rw'⟩ := (ar.look (name := name)).1 _ hu
  have D := At.dict _ name _ hC hix
  obtain ⟨attr, a1, a2⟩ := D.ha
  refine bk ?_; clear bk gL
  have Ia : PySem.W.InstAt s.heap _ _ _ (some (dictOf _ _)) := ⟨hob, rfl, rfl, hod⟩
  exact get_value X Ia (plainGet_of D.hg).1 (findObj_own D.hh a1 a2 hw) (vK rw' hh) (h w _ rw')
 ·rw [aI.of_sinst? e1] at hor
  refine Mine.hold fun gL bk => ?_
  obtain ⟨_, _, _, rfl, hC, hdx, sr⟩ := hor.of_sinst
  obtain ⟨od, hod⟩ := H.ex (mem_of_getElem? hdx)
  obtain ⟨w, hw, rw'⟩ := sr.get hu
  have S := At.slot _ name _ i hC (Option.join_eq_some_iff.mp hix)
  obtain ⟨p, p1, p2, p3, p4, _, _⟩ := S.at_
  refine bk ?_; clear bk gL
  have Ia : PySem.W.InstAt s.heap _ _ _ (some od) := ⟨hob, rfl, rfl, hod⟩
  exact get_bind X Ia (plainGet_of S.hg).1 (findObj_data S.hc p1 p2 p3) (plainGet_of S.hg).2 (wpAny_call (slot_get (s := { s with toks := s.toks + 1 }) X Ia p4 (by simpa using hw) (handed_on (vK rw' hh) (h w _ rw'))))
noncomputable def gB (ix : String -> String -> Option (Option Nat)) (name : String) (m : AM AV) : AM AV := do
 let o <- m
 nQ (gE ix name o)
theorem cS {K : Frag} {ix : String -> String -> Option (Option Nat)} {name : String} {m : AM AV} {e : Expr} {pos : Pos} (At : zF G K ix) (S : b_ G sc hd d m e)
  (he : autoParam (∀ env : Env, eval (.Attribute e (Str.ofString name) pos) env = (do let o <- eval e env; standAt pos.atName; let r <- holding [o] (getAttr o (Str.ofString name) true); letTemporaryGo e o r; pure r)) aR) :
  b_ G sc hd d (gB ix name m) (.Attribute e (Str.ofString name) pos) := by
 intro A fr env own μ st s z st' hA I hm Q E h
 refine Attribute_any_ (aQ S hA I hm fun o st₁ ov aB aD bP aT aJ bH => ?_) (he env)
 obtain ⟨rfl, hv⟩ := cV bP
 exact IR At aJ.h bH hv fun w tk rw' => h _ _ _ (I.trans aT (cN.tok tk)) (aJ.tok tk) rw'
noncomputable def eX (ix : String -> String -> Option (Option Nat)) (name : String) (o v : AV) : dM Unit := fun hp =>
 bC hp o fun r x k => bE (bO x.inst? fun p => bG (ix p.1 name = some none) (bO hp[p.2]? fun c => bO c.1.attrs? fun fs => bG (fs.length < 900) (some ((), hp.set p.2 (.attrs (put name v fs), c.2 + 1))))) (bO x.sinst? fun p => bO (ix p.1 name).join fun i => some ((), hp.set r (.sinst p.1 p.2.1 (sput p.2.2 i v), k + 1)))
theorem uV {name : String} {v : AV} : ∀ xs : List (String × AV), (put name v xs).length <= xs.length + 1
 | [] => Nat.le_refl _
 | (k, x) :: r => by
  rw [fN]
  split
  ·simp
  ·have := uV (name := name) (v := v) r
   simp only [length_cons]; omega
theorem wB {fr : List Env} {env : Env} {own μ : List Addr} {st : AS} {s : Shared} {A : Around} {K : Frag} {ix : String -> String -> Option (Option Nat)} {name : String} {o v : AV} {ov vv : Value} {hp' : AH} {Q : Unit -> Shared -> Prop} {E : Value -> Shared -> Prop} (At : zF G K ix) (I : fJ G sc fr env own μ st s) (ro : VR G μ s.heap o ov) (rv : VR G μ s.heap v vv)
  (hm : eX ix name o v st.hp = some ((), hp')) (h : ∀ s', XT own fr μ st s μ { st with hp := hp' } s' -> fJ G sc fr env own μ { st with hp := hp' } s' -> Q () s') : wpAny G.M A (setAttr ov (Str.ofString name) vv) Q E s := by
 have H := I.h
 have X : K.In s.heap := At.k.keeps H.base
 refine Mine.hold fun gL bk => ?_
 obtain ⟨m, hns, hmm⟩ := I.e.loc
 refine bk ?_; clear bk gL
 have notL : ∀ {a : Addr}, a ∈ μ -> a ≠ env.locals := fun hm q => (I.e.ownp _ I.e.lown).1 (q ▸ hm)
 apply M_ H ro hm; intro r x ver a ob hr ha hob hor hm
 refine dO hm (fun hu => aL hu fun p e1 hu => bA hu fun hix hu => aL hu fun c hfs hu => aL hu fun fs e2 hu => bA hu fun hz hu => ?_) fun hu => aL hu fun p e1 hu => aL hu fun i hix hu => ?_
 ·cases hu
  rw [aI.of_inst? e1] at hor
  refine Mine.hold fun gL bk => ?_
  obtain ⟨C, dx, rfl, hC, hdx⟩ := hor.of_inst
  obtain ⟨od, hod, hodr⟩ := H.obj _ _ _ hfs hdx
  rw [aI.of_attrs? e2] at hodr
  obtain ⟨es, n, rfl, ar⟩ := hodr.of_attrs
  refine bk ?_; clear bk gL
  have D := At.dict _ name _ hC hix
  have Ia : PySem.W.InstAt s.heap _ _ _ (some (dictOf es n)) := ⟨hob, rfl, rfl, hod⟩
  have hl : (lookIn (Str.ofString name) (dictOf es n)).isSome = true := by
   rw [lookIn_dict]
   cases e1 : fs.lookup name with
   | none => rw [(ar.look (name := name)).2 e1]; rfl
   | some x => obtain ⟨w, hw, _⟩ := (ar.look (name := name)).1 x e1; rw [hw]; rfl
  have hxL := notL (mem_of_getElem? hdx)
  have ar' := ar.put (name := name) (t := s.toks + 1) rv
  refine set_plain X Ia D.hs (osa_dict (s := { s with toks := s.toks + 1 }) (LN hns) (DE hod hxL) X Ia rfl D.hp D.ht D.hh hl MH HQ (putName_dict _ _ _ _ _ _) rfl (by
   have := uV (name := name) (v := v) fs
   rw [<- ar'.length]; omega) fun h' F' N' => ?_)
  obtain ⟨x', I'⟩ := wN (tk := s.toks + 1 + 1) (x := .attrs (put name v fs)) (c := c) I hfs hdx hmm F'.ns (fun b o hb1 hb2 e => DH N' hb1 hb2 e) (OX N') fun still => .attrs (ar'.mono (fun zz zz e => e) still)
  exact h _ x' I'
 ·cases hu
  rw [aI.of_sinst? e1] at hor hr
  refine Mine.hold fun gL bk => ?_
  obtain ⟨_, _, _, rfl, hC, hdx, sr⟩ := hor.of_sinst
  obtain ⟨od, hod⟩ := H.ex (mem_of_getElem? hdx)
  have S := At.slot _ name _ i hC (Option.join_eq_some_iff.mp hix)
  obtain ⟨q, p1, p2, p3, p4, p5, p6⟩ := S.at_
  refine bk ?_; clear bk gL
  have Ia : PySem.W.InstAt s.heap _ _ _ (some od) := ⟨hob, rfl, rfl, hod⟩
  have hxL := notL (mem_of_getElem? ha)
  refine set_plain X Ia S.hs (osa_descr (s := { s with toks := s.toks + 1 }) KF.slot_mset X Ia S.hp p5 p6 (slot_set (s := { s with toks := s.toks + 1 }) (LN hns) (DE hob hxL) X Ia p4 S.hz MH HQ rfl rfl fun h' F' N' => ?_))
  obtain ⟨x', I'⟩ := wN (tk := s.toks + 1) (x := .sinst p.1 p.2.1 (sput p.2.2 i v)) (c := (.sinst p.1 p.2.1 p.2.2, ver)) I hr ha hmm F'.ns (fun b o hb1 hb2 e => DH N' hb1 hb2 e) (OX N') fun still => by
   have := OR.sinst hC hdx ((sr.sput rv i).mono (fun zz zz e => e) still)
   rw [Array.toArray_toList] at this
   exact this
  exact h _ x' I'
noncomputable def fE (ix : String -> String -> Option (Option Nat)) (name : String) (mo mv : AM AV) : AM aN := do
 let v <- mv
 let o <- mo
 fB (eX ix name o v)
 pure .next
theorem cX {K : Frag} {ix : String -> String -> Option (Option Nat)} {name : String} {mo mv : AM AV} {o value : Expr} {p pos : Pos} (At : zF G K ix) (Sv : b_ G sc hd d mv value) (So : b_ G sc hd d mo o) (hs : autoParam (∀ env : Env, swapsWith value (some (.Attribute o (Str.ofString name) p)) pos.line env = pure false) aR) :
  jY G sc hd d (fE ix name mo mv) (.Assign [.Attribute o (Str.ofString name) p] value pos) := by
 intro A outer env own μ st s fl st' hA hf I hm Q E h hE
 show wpAny _ _ (exec _ env) _ _ _
 rw [plainObj_exec_Assign_Attribute _ _ _ _ _ (hs env)]
 refine wpAny_bind (wpAny_standAt (wpAny_bind (aQ Sv hA I hm fun v st₁ vv aB aD bP aT aJ bH => wpAny_bind (kas_attr (aQ So hA aJ bP fun o st₂ ov bQ bY e_ bJ bF dE => ?_)))))
 refine Mine.hold fun gL bk => ?_
 obtain ⟨u, lE, h1, h2⟩ := aF e_
 cases h2
 obtain ⟨hp', h3, rfl⟩ := cR h1
 refine bk ?_; clear bk gL
 refine wB At bF dE (aJ.vr bJ bH) h3 fun s' x' I' => wpAny_pure (h _ _ _ (I.trans aT (aJ.trans bJ x')) I' .next)
noncomputable def BS (o : iZ) (old v : AV) : AM AV := fB fun hp => bI old fun a => bI v fun b => oB o (.int a) (.int b) hp
noncomputable def mB (ix : String -> String -> Option (Option Nat)) (name : String) (o : iZ) (mo mv : AM AV) : AM aN := do
 let ov <- mo
 let old <- nQ (gE ix name ov)
 let v <- mv
 let new <- BS o old v
 fB (eX ix name ov new)
 pure .next
end
section
variable {G : a_} {sc : SC} {hd : Bool} {d : Nat}
noncomputable def LX : iZ -> Prop
 | .add => True
 | .sub => True
 | _ => False
theorem IT {A : Around} {E : Value -> Shared -> Prop} {s : Shared} {o : iZ} {a b : Int} {t u : Tok} {Q : Value -> Shared -> Prop} {hp hp' : AH} {v : AV} (ho : LX o) (h : oB o (.int a) (.int b) hp = some (v, hp')) (k : ∀ c, v = .int c -> hp' = hp -> Q (.int c s.toks) { s with toks := s.toks + 1 }) :
  wpAny G.M A (inplaceOp o.op (.int a t) (.int b u)) Q E s := by
 cases o with
 | add => cases h; exact P.iadd_int (k _ rfl rfl)
 | sub => cases h; exact P.isub_int (k _ rfl rfl)
 | _ => exact ho.elim
theorem kI {K : Frag} {ix : String -> String -> Option (Option Nat)} {name : String} {o : iZ} {op : Operator} {mo mv : AM AV} {oe value : Expr} {p pos : Pos} (At : zF G K ix) (ho : LX o) (So : b_ G sc hd d mo oe) (Sv : b_ G sc hd d mv value) (hop : autoParam (op = o.op) aR) :
  jY G sc hd d (mB ix name o mo mv) (.AugAssign (.Attribute oe (Str.ofString name) p) op value pos) := by
 subst hop
 intro A outer env own μ st s fl st' hA hf I hm Q E h hE
 refine wpAny_AugAssign_AttributeAny (aQ So hA I hm fun ov st₁ ow aB aD bP aT aJ bH => ?_)
 obtain ⟨old, oD, h1, e_⟩ := aF bP
 obtain ⟨rfl, hv⟩ := cV h1
 refine IR At aJ.h bH hv fun w tk rw' => ?_
 have PM := aJ.tok tk
 refine aQ Sv hA PM e_ fun v st₂ vw bQ bY oE bJ bF dE => ?_
 obtain ⟨new, oC, h3, w_⟩ := aF oE
 obtain ⟨u, lE, h4, h5⟩ := aF w_
 cases h5
 have xB := PM.vr bJ bH
 have rold := PM.vr bJ rw'
 have X := I.trans aT (cN.trans aJ.h.len (cN.tok tk) bJ)
 obtain ⟨hp', h6, rfl⟩ := cR h3
 apply xH rold h6; intro a t h6
 apply xH dE h6; intro b u h6
 ·
  refine IT ho h6 fun c e1 e2 => ?_
  subst e1 e2
  obtain ⟨hp'', h7, rfl⟩ := cR h4
  refine wB At (bF.tok _) xB (.int _ _) h7 fun s' x' I' => h _ _ _ (I.trans X (cN.trans bF.h.len (cN.tok _) x')) I' .next
structure j8 (scope : Scope) : Prop where
 kind : scope.kind = .function
 nodup : (scope.names.map (·.1)).Nodup
 nofree : ∀ x ∈ scope.names, x.2 ≠ .free
 co : scope.isCoroutine = false
 gen : scope.isGenerator = false
noncomputable def NY (scope : Scope) : Bool := scope.kind == .function && zW (scope.names.map (·.1)) && scope.names.all (fun x => x.2 != .free) && !scope.isCoroutine && !scope.isGenerator
theorem QN {scope : Scope} (h : NY scope = true) : j8 scope := by
 simp only [NY, Bool.and_eq_true, Bool.not_eq_true', List.all_eq_true] at h
 obtain ⟨⟨⟨⟨h1, h2⟩, h3⟩, h4⟩, h5⟩ := h
 exact ⟨by simpa using h1, yK h2, fun x hx => by simpa using h3 x hx, h4, h5⟩
noncomputable def lF (scope : Scope) : SC := ⟨scope, (scope.names.filter (·.2 == NameKind.cell)).map (·.1)⟩
inductive BR (G : a_) (μ : List Addr) (h : Heap) : List (String × AV) -> List (PySem.Str × Value) -> Prop
 | nil : BR G μ h [] []
 | cons {n : String} {x : AV} {v : Value} {xs : List (String × AV)} {vs : List (PySem.Str × Value)} : VR G μ h x v -> BR G μ h xs vs -> BR G μ h ((n, x) :: xs) ((Str.ofString n, v) :: vs)
theorem BR.keys {μ : List Addr} {h : Heap} {xs : List (String × AV)} {vs : List (PySem.Str × Value)} (k : BR G μ h xs vs) : vs.map (·.1) = xs.map fun x => Str.ofString x.1 := by
 induction k with
 | nil => rfl
 | cons _ _ ih => exact congrArg (_ :: ·) ih
theorem yT {k : PySem.Str -> Option NameKind} {y : PySem.Str} : ∀ {l : List (PySem.Str × Value)} {m : PySem.Str -> Option Value}, y ∉ l.map (·.1) -> bindL k l m y = m y
 | [], _, _ => rfl
 | (n, v) :: r, m, h => by
  rw [map_cons, mem_cons, not_or] at h
  unfold bindL
  rw [yT h.2]
  split
  ·simp [h.1]
  ·rfl
theorem zG {k : PySem.Str -> Option NameKind} {y : PySem.Str} : ∀ {l : List (PySem.Str × Value)} {m : PySem.Str -> Option Value}, y ∉ l.map (·.1) -> bindC k l m y = m y
 | [], _, _ => rfl
 | (n, v) :: r, m, h => by
  rw [map_cons, mem_cons, not_or] at h
  unfold bindC
  rw [zG h.2]
  split
  ·rfl
  ·simp [h.1]
theorem BR.look {μ : List Addr} {h : Heap} {k : PySem.Str -> Option NameKind} {y : String} {u : AV} {xs : List (String × AV)} {vs : List (PySem.Str × Value)} (b : BR G μ h xs vs) : (xs.map (·.1)).Nodup -> xs.lookup y = some u -> ∀ m,
   (k (Str.ofString y) = some .local -> ∃ w, bindL k vs m (Str.ofString y) = some w /\ VR G μ h u w) /\ (k (Str.ofString y) ≠ some .local -> ∃ w, bindC k vs m (Str.ofString y) = some w /\ VR G μ h u w) := by
 induction b with
 | nil => intro _ e; cases e
 | @cons n x v xs vs h1 h2 ih =>
  intro hn e m
  rw [map_cons, nodup_cons] at hn
  by_cases hy : y = n
  ·subst hy
   simp at e; subst e
   have off : Str.ofString y ∉ vs.map (·.1) := by
    rw [h2.keys]
    intro hm
    obtain ⟨z, hz, e⟩ := mem_map.mp hm
    exact hn.1 (mem_map.mpr ⟨z, hz, kA e⟩)
   refine ⟨fun hk => ?_, fun hk => ?_⟩
   ·unfold bindL
    rw [yT off, if_pos hk]
    exact ⟨v, by simp, h1⟩
   ·unfold bindC
    rw [zG off, if_neg hk]
    exact ⟨v, by simp, h1⟩
  ·have hb : (y == n) = false := by simp [hy]
   rw [lookup_cons, hb] at e
   unfold bindL bindC
   exact ⟨fun hk => (ih hn.2 e _).1 hk, fun hk => (ih hn.2 e _).2 hk⟩
noncomputable def oN (G : a_) (fd : FuncData) (f : List AV -> Option (List (String × AV))) : Prop :=
 ∀ (A : Around) (fr : List Env) (μ : List Addr) (hp : AH) (s : Shared) (args : List AV) (vs : List Value) (bs : List (String × AV)), bK G fr μ hp s -> dX G μ s.heap args vs -> f args = some bs -> ∀ (Q : List (PySem.Str × Value) -> Shared -> Prop) (E : Value -> Shared -> Prop),
  (∀ binds s', cN [] fr μ hp s μ hp s' -> bK G fr μ hp s' -> BR G μ s'.heap bs binds -> Q binds s') -> wpAny G.M A (bindArgs fd ⟨vs, []⟩) Q E s
structure gI (G : a_) (a : Addr) (fd : FuncData) (body : List Stmt) : Prop where
 obj : ∃ o, G.h₀.get? a = some o /\ o.data = .func fd
 code : G.h₀.CodeRec fd.code fd.qualname
 body : fd.body = .stmts body
 glob : fd.globals = mainGlobals
 bui : fd.builtins = builtinsNs
 clo : fd.closure = []
 ok : j8 fd.scope
noncomputable def jO (fd : FuncData) (L a : Addr) : Env := newEnv fd.scope L fd.globals (cellsFrom (L + 1) fd.scope.names []) (fd.qualname ++ ".<locals>.") (some a) fd.code none fd.builtins
noncomputable def zD (fd : FuncData) (L : Addr) : List Addr := L :: (cellsFrom (L + 1) fd.scope.names []).map (·.2)
theorem tN {fd : FuncData} {h : Heap} {a : Addr} (ha : a ∈ zD fd h.objs.size) : h.get? a = none := by
 have ok := cellsFrom_ok fd.scope.names (h.push { cls := .type "frame", data := .dict #[] }) (h.objs.size + 1) [] ⟨fun zz zz hm => (nomatch hm), List.Pairwise.nil⟩ (by rw [Heap.size_push]; exact Nat.le_refl _)
 rw [Heap.size_push] at ok
 rcases mem_cons.mp ha with q | q
 ·subst q; exact Heap.get?_none_of_le (Nat.le_refl _)
 ·obtain ⟨⟨n, c⟩, hc, rfl⟩ := mem_map.mp q
  exact Heap.get?_none_of_le (Nat.le_of_succ_le (ok.empty n c hc).2)
theorem wF : ∀ {names : List (PySem.Str × NameKind)} {n : Nat} {y : PySem.Str}, y ∈ (cellsFrom n names []).map (·.1) -> y ∈ names.map (·.1)
 | names, n, y, h => by
  obtain ⟨⟨z, c⟩, hz, rfl⟩ := mem_map.mp h
  exact mem_map.mpr ⟨_, gF hz, rfl⟩
theorem jZ : ∀ {names : List (PySem.Str × NameKind)} {n : Nat}, (names.map (·.1)).Nodup -> ((cellsFrom n names []).map (·.1)).Nodup
 | [], n, _ => nodup_nil
 | (x, k) :: r, n, h => by
  rw [map_cons, nodup_cons] at h
  unfold cellsFrom
  split
  ·rw [cU, map_append, List.nodup_append]
   refine ⟨jZ h.2, by simp, fun y hy z hz e => ?_⟩
   simp at hz; subst hz; subst e
   exact h.1 (wF hy)
  ·exact jZ h.2
theorem NK {fd : FuncData} {a : Addr} {body : List Stmt} {fr : List Env} {μ : List Addr} {hp : AH} {s aB : Shared} {bs : List (String × AV)} {binds : List (PySem.Str × Value)} (D : gI G a fd body) (H : bK G fr μ hp s) (B : BR G μ s.heap bs binds) (hn : (bs.map (·.1)).Nodup)
  (hk : ∀ x ∈ bs, fd.scope.names.lookup (Str.ofString x.1) = some .local \/ fd.scope.names.lookup (Str.ofString x.1) = some .cell)
  (x : InCallC s (jO fd s.heap.objs.size a).locals (bindL (jO fd s.heap.objs.size a).kindOf binds fun zz => none) (jO fd s.heap.objs.size a).cells (bindC (jO fd s.heap.objs.size a).kindOf binds fun zz => none) aB) :
  fJ G (lF fd.scope) (jO fd s.heap.objs.size a :: fr) (jO fd s.heap.objs.size a) (zD fd s.heap.objs.size) μ ⟨bs, hp⟩ aB /\ cN [] fr μ hp s μ hp aB := by
 obtain ⟨fZ, tk, rfl⟩ := x.toInCall.same
 have g := H.grow (h' := fZ) (tk := tk) x.toInCall.keep
 have fresh : ∀ {b : Addr}, b ∈ zD fd s.heap.objs.size -> mC G μ s b := fun hb => H.fresh (tN hb)
 have hL : s.heap.objs.size ∈ zD fd s.heap.objs.size := mem_cons_self
 obtain ⟨oL, es, ep, ho, hdd, _⟩ := id x.toInCall.ns
 have keys := jZ (n := s.heap.objs.size + 1) D.ok.nodup
 have cellAt : ∀ {y : PySem.Str} {c : Addr}, (y, c) ∈ cellsFrom (s.heap.objs.size + 1) fd.scope.names [] -> fZ.IsCell c (bindC (jO fd s.heap.objs.size a).kindOf binds (fun zz => none) y) := fun {y c} hm => x.cell y c (eB keys hm)
 have still : eU μ μ s.heap fZ := eU.of_keeps x.toInCall.keep
 have hkind : ∀ y, (jO fd s.heap.objs.size a).kindOf y = fd.scope.names.lookup y := fun y => rfl
 refine ⟨⟨⟨g.1.base, g.1.len, g.1.nod, g.1.obj, g.1.low, fun e he => ?_⟩, ⟨⟨rfl, D.ok.kind, D.glob, D.bui, x.apart, fun y k hy hkk => ?_⟩, fun b hb => ?_, hL, ⟨_, x.toInCall.ns, fun y u hy hkk => ?_⟩, fun y u hy => ?_, fun y c hy => ?_, fun y hy => ?_, fun y c hy hw => ?_⟩⟩, g.2⟩
 ·rcases mem_cons.mp he with q | q
  ·subst q
   exact ⟨D.ok.kind, s.heap.objs.size, oL, rfl, ho, ⟨_, _, hdd⟩, (fresh hL).μ, (fresh hL).low⟩
  ·exact g.1.frs e q
 ·rcases hkk with rfl | rfl
  ·obtain ⟨c, hc⟩ := fG (n := s.heap.objs.size + 1) (mem_of_lookup hy)
   exact ⟨c, eB keys hc⟩
  ·exact absurd rfl (D.ok.nofree _ (mem_of_lookup hy))
 ·refine ⟨(fresh hb).μ, (fresh hb).low, ?_⟩
  rcases mem_cons.mp hb with q | q
  ·subst q; exact ⟨oL, ho, .inl ⟨_, _, hdd⟩⟩
  ·obtain ⟨⟨n, c⟩, hc, rfl⟩ := mem_map.mp q
   obtain ⟨o, ho', hd'⟩ := cellAt hc
   exact ⟨o, ho', .inr (.inl ⟨_, hd'⟩)⟩
 ·obtain ⟨w, h1, h2⟩ := (B.look (k := (jO fd s.heap.objs.size a).kindOf) hn hy fun zz => none).1 hkk
  exact ⟨w, h1, h2.mono (fun zz zz e => e) still⟩
 ·have hmem : ∃ z ∈ bs, z.1 = y := by
   clear hkind
   induction bs with
   | nil => cases hy
   | cons z r ih =>
    obtain ⟨n, v⟩ := z
    by_cases q : y = n
    ·exact ⟨_, mem_cons_self, q.symm⟩
    ·have hb : (y == n) = false := by simp [q]
     rw [lookup_cons, hb] at hy
     cases B with | cons b1 b2 =>
     rw [map_cons, nodup_cons] at hn
     refine (?_ : ∃ z ∈ r, z.1 = y).elim fun z hz => ⟨z, mem_cons_of_mem _ hz.1, hz.2⟩
     clear ih
     exact (by
      have go : ∀ r : List (String × AV), r.lookup y = some u -> ∃ z ∈ r, z.1 = y := by
       intro r
       induction r with
       | nil => intro e; cases e
       | cons z r ih =>
        intro e
        by_cases q : y = z.1
        ·exact ⟨z, mem_cons_self, q.symm⟩
        ·have hb : (y == z.1) = false := by simp [q]
         rw [lookup_cons, hb] at e
         obtain ⟨z', h1, h2⟩ := ih e
         exact ⟨z', mem_cons_of_mem _ h1, h2⟩
      exact go r hy)
  obtain ⟨z, hz, rfl⟩ := hmem
  rcases hk z hz with q | q
  ·exact .inl q
  ·have hnl : (jO fd s.heap.objs.size a).kindOf (Str.ofString z.1) ≠ some .local := by rw [hkind, q]; decide
   obtain ⟨w, h1, h2⟩ := (B.look (k := (jO fd s.heap.objs.size a).kindOf) hn hy fun zz => none).2 hnl
   obtain ⟨c, hc⟩ := fG (n := s.heap.objs.size + 1) (mem_of_lookup q)
   have := cellAt hc
   rw [h1] at this
   exact .inr ⟨.inl q, c, w, eB keys hc, this, h2.mono (fun zz zz e => e) still⟩
 ·have hm := mem_of_lookup hy
  have ho := mem_cons_of_mem s.heap.objs.size (mem_map.mpr ⟨_, hm, rfl⟩ : c ∈ (cellsFrom (s.heap.objs.size + 1) fd.scope.names []).map (·.2))
  exact ⟨⟨_, cellAt hm⟩, (fresh ho).μ, Nat.ne_of_gt (x.above y c hm)⟩
 ·obtain ⟨⟨y', k⟩, hy', e⟩ := mem_map.mp hy
  obtain ⟨hy1, hy2⟩ := mem_filter.mp hy'
  simp at hy2 e
  subst e; rw [hy2] at hy1
  obtain ⟨c, hc⟩ := fG (n := s.heap.objs.size + 1) hy1
  exact ⟨c, eB keys hc, mem_cons_of_mem _ (mem_map.mpr ⟨_, hc, rfl⟩)⟩
 ·exact absurd (mem_map.mpr ⟨(y, NameKind.cell), mem_filter.mpr ⟨gF (mem_of_lookup hy), by rfl⟩, rfl⟩) hw
theorem NP {fr : List Env} {e : Env} {own μ bM : List Addr} {hp hp' : AH} {s aB s' : Shared} {L : Addr} (he : e.frame = some L) (hL : s.heap.get? L = none) (hown : ∀ b ∈ own, s.heap.get? b = none) (H : bK G fr μ hp s) (i_ : cN [] fr μ hp s μ hp aB) (x : cN own (e :: fr) μ hp aB bM hp' s') (H' : bK G (e :: fr) bM hp' s') :
  cN [] fr μ hp s bM hp' s' /\ bK G fr bM hp' s' := by
 refine ⟨⟨?_, ?_, fun b o h => ?_, fun b o h hm zz => ?_, fun n c hc => ?_⟩, ⟨H'.base, H'.len, H'.nod, H'.obj, H'.low, fun e' he' => H'.frs e' (mem_cons_of_mem _ he')⟩⟩
 ·obtain ⟨ν, rfl, TF⟩ := x.pre
  refine ⟨ν, rfl, fun a ha => ?_⟩
  cases e : s.heap.get? a with
  | none => rfl
  | some o => obtain ⟨o', h'⟩ := i_.alive a o e; have := TF a ha; rw [h'] at this; cases this
 ·obtain ⟨h1, t1, e1⟩ := i_.same
  obtain ⟨h2, t2, e2⟩ := x.same
  exact ⟨h2, t2, by rw [e2, e1]⟩
 ·obtain ⟨o', h'⟩ := i_.alive b o h
  exact x.alive b o' h'
 ·obtain ⟨sl, h1, h2⟩ := i_.keep b o h hm (by simp)
  obtain ⟨sl', h3, h4⟩ := x.keep b _ h1 hm fun q => by rw [hown b q] at h; cases h
  refine ⟨sl', h3, fun hf => (h4 fun q => ?_).trans (h2 hf)⟩
  have q : b ∈ List.filterMap (·.frame) (e :: fr) := q
  rw [List.filterMap_cons, he] at q
  rcases mem_cons.mp q with q | q
  ·subst q; rw [hL] at h; cases h
  ·exact hf q
 ·obtain ⟨HB, h1, l1, e1⟩ := i_.vers n c hc
  obtain ⟨PD, h2, l2, e2⟩ := x.vers n HB h1
  refine ⟨PD, h2, Nat.le_trans l1 l2, fun e => ?_⟩
  have q1 : c.2 = HB.2 := by omega
  have q2 : HB.2 = PD.2 := by omega
  obtain ⟨r1, k1⟩ := e1 q1
  obtain ⟨r2, k2⟩ := e2 q2
  exact ⟨r2.trans r1, fun a ha => (k2 a (i_.mu ha)).trans (k1 a ha)⟩
noncomputable def E8 (x : aN) (h : AH) : Option (AV × AH) := x.casesOn (some (.none, h)) none none (fun v => some (v, h)) fun zz => none
noncomputable def F9 (x : aN) (h : AH) : Option (Except String AV × AH) := x.casesOn (some (.ok .none, h)) none none (fun v => some (.ok v, h)) fun k => some (.error k, h)
noncomputable def mR (f : List AV -> Option (List (String × AV))) (body : AM aN) : List AV -> dM AV := fun args hp => bO (f args) fun bs => bO (body ⟨bs, hp⟩) fun q => E8 q.1 q.2.hp
noncomputable def EE (f : List AV -> Option (List (String × AV))) (body : AM aN) : List AV -> dM (Except String AV) := fun args hp => bO (f args) fun bs => bO (body ⟨bs, hp⟩) fun q => F9 q.1 q.2.hp
noncomputable def gY (G : a_) (hd : Bool) (d : Nat) (w : Value) (m : List AV -> dM (Except String AV)) : Prop :=
 ∀ (args : List AV) (A : Around) (fr : List Env) (μ : List Addr) (hp : AH) (s : Shared) (r : Except String AV) (hp' : AH) (vs : List Value), tG A fr hd d -> bK G fr μ hp s -> dX G μ s.heap args vs -> m args hp = some (r, hp') ->
  ∀ (Q : Value -> Shared -> Prop) (E : Value -> Shared -> Prop), (∀ v b s' bM, r = .ok v -> cN [] fr μ hp s bM hp' s' -> bK G fr bM hp' s' -> VR G bM s'.heap v b -> Q b s') ->
   (∀ e k s' bM sf, r = .error k -> cN [] fr μ hp s bM hp' s' -> bK G fr bM hp' s' -> tU G bM s.heap e (eK G k) s'.heap sf -> (sf = .new \/ sf = .out .none) -> E (.ref e) s') -> wpAny G.M A (call w vs) Q E s
theorem KO {A : Around} {fr : List Env} {e : Env} (hA : tG A fr hd (d + 1)) : tG (A.deeper e) (e :: fr) hd d where
 frames := by show A.frames.map _ = _; rw [hA.frames]; rfl
 depth := by have := hA.depth; show A.depth + 1 + 3 * d + 3 < _; omega
 units := by have := hA.units; show A.units + 3 + 40 * d + 100 < _; omega
 hnd := hA.hnd
noncomputable def nS (G : a_) (hd : Bool) (d : Nat) (w : Value) (m : List AV -> dM (Except String AV)) : Prop :=
 ∀ (args : List AV) (A : Around) (fr : List Env) (μ : List Addr) (hp : AH) (s : Shared) (r : Except String AV) (hp' : AH) (vs : List Value), tG A fr hd d -> bK G fr μ hp s -> dX G μ s.heap args vs -> m args hp = some (r, hp') ->
  ∀ (R : Result -> Shared -> Prop), (∀ v b s' bM, r = .ok v -> cN [] fr μ hp s bM hp' s' -> bK G fr bM hp' s' -> VR G bM s'.heap v b -> R (.ok (.ret b)) s') ->
   (∀ e k s' bM sf, r = .error k -> cN [] fr μ hp s bM hp' s' -> bK G fr bM hp' s' -> tU G bM s.heap e (eK G k) s'.heap sf -> (sf = .new \/ sf = .out .none) -> R (.error (.ref e)) s') -> codeAny G.M A (.call w ⟨vs, []⟩) R s
theorem nS.toCall {w : Value} {m : List AV -> dM (Except String AV)} (S : nS G hd d w m) : gY G hd d w m := by
 intro args A fr μ hp s r hp' vs hA H rs hm Q E hQ hE
 exact wpAny_call (S args A fr μ hp s r hp' vs hA H rs hm _ hQ hE)
theorem s_ {a : Addr} {fd : FuncData} {b : List Stmt} {f : List AV -> Option (List (String × AV))} {body : AM aN} (gk : GOk G) (D : gI G a fd b) (hb : oN G fd f)
  (hf : ∀ args bs, f args = some bs -> (bs.map (·.1)).Nodup /\ ∀ x ∈ bs, fd.scope.names.lookup (Str.ofString x.1) = some .local \/ fd.scope.names.lookup (Str.ofString x.1) = some .cell)
  (S : gV G (lF fd.scope) hd d body b) : nS G hd (d + 1) (.ref a) (EE f body) := by
 intro args A fr μ hp s r hp' vs hA H rs hm R hQ hE
 refine aL hm fun bs hbs hm => aL hm fun q hbd hm => ?_
 ·obtain ⟨fl, st'⟩ := q
  obtain ⟨o, ho, hdat⟩ := D.obj
  obtain ⟨hn, hkk⟩ := hf _ _ hbs
  refine codeAny_call_function (by have := hA.depth; omega) (H.base _ _ ho) hdat D.ok.co D.ok.gen D.body (D.code.keeps H.base) ?_
  rw [D.clo]
  refine hb A.in1 fr μ hp s args vs bs H rs hbs _ _ fun binds aB aT xD B => ?_
  refine wpAny_newFunctionEnv_cells D.ok.kind (fun z hz => ?_) fun env he bQ x => ?_
  ·obtain ⟨zn, zv⟩ := z
   have : ∃ y ∈ bs, Str.ofString y.1 = zn := by
    have h1 : zn ∈ binds.map (·.1) := mem_map.mpr ⟨_, hz, rfl⟩
    rw [B.keys] at h1
    exact mem_map.mp h1
   obtain ⟨y, hy, rfl⟩ := this
   rcases hkk y hy with q | q
   ·exact .inl q
   ·obtain ⟨c, hc⟩ := fG (n := aB.heap.objs.size + 1) (mem_of_lookup q)
    obtain ⟨c', hc'⟩ := jK hc
    exact .inr ⟨q, by rw [hc']; rfl⟩
  ·subst he
   obtain ⟨I, bJ⟩ := NK D xD B hn hkk x
   refine ⟨gk.nolimit.keeps I.h.base, codeAny_func ?_⟩
   have hA' := KO (e := jO fd aB.heap.objs.size a) hA
   have hown : ∀ c ∈ zD fd aB.heap.objs.size, aB.heap.get? c = none := fun c hc => tN hc
   have hLn : aB.heap.get? aB.heap.objs.size = none := Heap.get?_none_of_le (Nat.le_refl _)
   have fin : ∀ {bM : List Addr} {st' : AS} {s' : Shared}, XT (zD fd aB.heap.objs.size) (jO fd aB.heap.objs.size a :: fr) μ ⟨bs, hp⟩ bQ bM st' s' -> bK G (jO fd aB.heap.objs.size a :: fr) bM st'.hp s' -> cN [] fr μ hp s bM st'.hp s' /\ bK G fr bM st'.hp s' := fun {bM st' s'} x' H' => by
    obtain ⟨y, H''⟩ := NP (e := jO fd aB.heap.objs.size a) rfl hLn hown xD bJ x' H'
    exact ⟨cN.trans H.len aT y, H''⟩
   ·
    refine S (A.deeper (jO fd aB.heap.objs.size a)) fr (jO fd aB.heap.objs.size a) _ μ ⟨bs, hp⟩ bQ fl st' hA' rfl I hbd _ _ (fun f' s' bM x' I' r' => ?_) fun e k s' bM sf e1 x' I' F hs => ?_
    ·obtain ⟨y, H''⟩ := fin x' I'.h
     cases r' with
     | next => cases hm; exact hQ _ _ _ _ rfl y H'' .none
     | ret r' => cases hm; exact hQ _ _ _ _ rfl y H'' r'
     | brk => cases hm
     | cont => cases hm
    ·subst e1
     cases hm
     refine FP hA'.frames rfl I'.h I.h.base x'.alive F hs fun h' j F'' => ?_
     obtain ⟨y, H''⟩ := fin (s' := { s' with heap := h' }) (cN.junk x' I'.h I'.e.ownK I.h.len j) (I'.h.junk I.h.base j)
     exact hE e k _ bM _ rfl y H'' (F''.weaken fun b o e => by
      obtain ⟨o1, e1⟩ := aT.alive b o e
      exact bJ.alive b o1 e1) (.inr rfl)
noncomputable def dQ (G : a_) (hd : Bool) (d : Nat) (w : Value) (m : List AV -> dM AV) : Prop :=
 ∀ (args : List AV) (A : Around) (fr : List Env) (μ : List Addr) (hp : AH) (s : Shared) (z : AV) (hp' : AH) (vs : List Value), tG A fr hd d -> bK G fr μ hp s -> dX G μ s.heap args vs -> m args hp = some (z, hp') ->
  ∀ (R : Result -> Shared -> Prop), (∀ b s' bM, cN [] fr μ hp s bM hp' s' -> bK G fr bM hp' s' -> VR G bM s'.heap z b -> R (.ok (.ret b)) s') -> codeAny G.M A (.call w ⟨vs, []⟩) R s
theorem dQ.toCall {w : Value} {m : List AV -> dM AV} (S : dQ G hd d w m) : cO G hd d w m := by
 rintro args A fr μ hp s z hp' tr hA H zI11 hm Q E h
 obtain ⟨vs, rs, rfl⟩ := zI11
 exact wpAny_call (S args A fr μ hp s z hp' vs hA H rs hm _ h)
theorem eA {a : Addr} {fd : FuncData} {b : List Stmt} {f : List AV -> Option (List (String × AV))} {body : AM aN} (gk : GOk G) (D : gI G a fd b) (hb : oN G fd f)
  (hf : ∀ args bs, f args = some bs -> (bs.map (·.1)).Nodup /\ ∀ x ∈ bs, fd.scope.names.lookup (Str.ofString x.1) = some .local \/ fd.scope.names.lookup (Str.ofString x.1) = some .cell)
  (S : gV G (lF fd.scope) hd d body b) : dQ G hd (d + 1) (.ref a) (mR f body) := by
 intro args A fr μ hp s z hp' vs hA H rs hm R h
 have hm' : EE f body args hp = some (.ok z, hp') := by
  refine aL hm fun bs h1 hm => aL hm fun q h2 hm => ?_
  show bO (f args) _ = _
  rw [h1]
  show bO (body ⟨bs, hp⟩) _ = _
  rw [h2]
  obtain ⟨fl, st⟩ := q
  cases fl with
  | next => cases hm; rfl
  | ret v => cases hm; rfl
  | _ => cases hm
 refine s_ gk D hb hf S args A fr μ hp s _ hp' vs hA H rs hm' R (fun v b s' bM e x H r => ?_) fun e k s' bM sf e1 => by cases e1
 cases e
 exact h _ _ _ x H r
theorem BO {fd : FuncData} {ns : List String} (hb : ∀ vs : List Value, vs.length = ns.length -> bindArgs fd ⟨vs, []⟩ = pure ((ns.map Str.ofString).zip vs)) : oN G fd (fun args => if args.length = ns.length then some (ns.zip args) else none) := by
 intro A fr μ hp s args vs bs H rs hm Q E h
 dsimp only at hm
 split at hm
 ·rename_i hl
  cases hm
  rw [hb vs (by rw [<- rs.length]; exact hl)]
  refine wpAny_pure (h _ _ cN.refl H ?_)
  clear hb h
  induction ns generalizing args vs with
  | nil => exact .nil
  | cons n ns ih =>
   cases rs with
   | nil => cases hl
   | cons r rs => exact .cons r (ih _ _ rs (by simpa using hl))
 ·cases hm
end
section
variable {G : a_} {sc : SC} {hd : Bool} {d : Nat}
noncomputable def oW (M : Model) (P : Heap -> Prop) (f : Value) : Prop := ∀ h, P h -> ∃ k, (k = Keeper.frame \/ k = Keeper.machine \/ k = Keeper.boundFrame) /\ Looks M h (keeperOf f) k
noncomputable def gZ (G : a_) (sc : SC) (hd : Bool) (d : Nat) (m : AM (List AV)) (es : List Expr) : Prop :=
 ∀ (A : Around) (fr : List Env) (env : Env) (own μ : List Addr) (st : AS) (s : Shared) (vs : List AV) (st₁ : AS) (pos : Pos) (f : Value) (first : List Value) (P : Heap -> Prop), tG A fr hd d -> fJ G sc fr env own μ st s -> m st = some (vs, st₁) -> oW G.M P f ->
  ∀ (Q : Value -> Shared -> Prop) (E : Value -> Shared -> Prop), (∀ ws aB aD, XT own fr μ st s aD st₁ aB -> fJ G sc fr env own aD st₁ aB -> dX G aD aB.heap vs ws -> P aB.heap /\ wpAny G.M A (call f (first ++ ws)) Q E aB) ->
   wpAny G.M A (callWith pos f first (backTo pos (starEach es env)) []) Q E s
theorem bX.toC {m : AM (List AV)} {es : List Expr} (S : bX G sc hd d m es) : gZ G sc hd d m es := by
 intro A fr env own μ st s vs st₁ pos f first P hA I hm hk Q E h
 exact callWith_of (by rw [S.less.plain]; rfl) hk (S.less.ev _ _ _ _ _ env pos f (S.sim pos A fr env own μ st s vs st₁ hA I hm _ _ fun ws aB aD aT aJ bH => h ws aB aD aT aJ bH))
noncomputable def EO (v : AV) (hp : AH) : Option (List AV) := bO (bE v.tup? (bL hp v fun zz xs zz => some xs)) fun xs => bG (xs.length <= 1000000) (some xs)
theorem PZ {A : Around} {fr : List Env} {env : Env} {own μ : List Addr} {st : AS} {s : Shared} {v : AV} {w : Value} {xs : List AV} {Q : List Value -> Shared -> Prop} {E : Value -> Shared -> Prop} (I : fJ G sc fr env own μ st s) (r : VR G μ s.heap v w) (hv : EO v st.hp = some xs)
  (h : ∀ ws s', XT own fr μ st s μ st s' -> fJ G sc fr env own μ st s' -> dX G μ s'.heap xs ws -> Q ws s') : StarOf G.M A E w Q s := by
 have key : ∀ {T : String} {a : Addr} {o : Obj} {ws : List Value} {n : Nat}, T = "list" \/ T = "tuple" -> s.heap.get? a = some o -> o.cls = .type T -> o.data = .seq ws.toArray n -> dX G μ s.heap xs ws -> xs.length <= 1000000 -> StarOf G.M A E (.ref a) Q s := by
  intro T a o ws n hT ho hc hd k hl
  have hT' : s.TypeIs (.ref a) T := ⟨o, ho, hc⟩
  have z : wpAny G.M A (collect (.ref a)) Q E s := by
   refine wpAny_collect_seq a hT ho hc hd (fun h' hk => ?_) (by rw [size_toArray, <- k.length, sizeLine_eq]; omega)
   have g := I.h.grow (h' := h') (tk := s.toks) hk
   exact h _ _ g.2.weaken (I.heap g.2 g.1) (k.ext I.h (by intro a ha; cases ha) g.2)
  unfold StarOf notIterableAtAll
  rcases hT with rfl | rfl
  ·exact wpAny_bind (wpAny_specialOf hT' PySem.F.slot_list_iter.lookup (wpAny_pure ⟨rfl, z⟩))
  ·exact wpAny_bind (wpAny_specialOf hT' PySem.F.slot_tuple_iter.lookup (wpAny_pure ⟨rfl, z⟩))
 refine aL hv fun ys e hv => bA hv fun hl hv => ?_
 cases hv
 refine dO e (fun e => ?_) fun e => ?_
 ·rw [AV.of_tup? e] at r
  obtain ⟨_, _, _, _, rfl, h1, h2, h3, h4, h5⟩ := r.of_tup
  exact key (.inr rfl) h1 h2 h3 h5 hl
 ·apply tM I.h r e; intro r' ys k a ws n hr ha g1 k1 e
  cases e
  exact key (.inl rfl) g1 rfl rfl k1 hl
noncomputable def LO (m : AM AV) : AM (List AV) := do
 let v <- m
 nQ (EO v)
noncomputable def sM (m k : AM AV) : AM (List AV) := do
 let x <- m
 let xs <- LO k
 pure (x :: xs)
theorem uA {m k : AM AV} {e e2 : Expr} {p : Pos} (S : b_ G sc hd d m e) (T : b_ G sc hd d k e2) (he : autoParam (∀ env, starEach [e, .Starred e2 p] env = (false, eval e env) :: starEach [.Starred e2 p] env) aR) (he2 : autoParam (∀ env, starEach [.Starred e2 p] env = [(true, eval e2 env)]) aR) : gZ G sc hd d (sM m k) [e, .Starred e2 p] := by
 intro A fr env own μ st s vs st₁ pos f first P hA I hm hk Q E h
 rw [he]
 refine ks_call (by rw [he2]; rfl) hk (Calls.evalArgs_plain (Calls.spliced_cons (aQ S hA I hm fun v st₂ w bQ bY e_ bJ bF dE => ?_)))
 refine items_star (rest := []) (he := he2 env) ?_
 refine Mine.hold fun gL bk => ?_
 obtain ⟨xs, oC, h1, h2⟩ := aF e_
 cases h2
 refine bk ?_; clear bk gL
 refine aQ T hA bF h1 fun v' lE w' hK rY w_ lH kK HD => ?_
 obtain ⟨rfl, hv⟩ := cV w_
 refine PZ kK HD hv fun ws jW pF rZ XB => Calls.spliced_nil ?_
 rw [append_nil]
 exact h _ jW rY (I.trans bJ (bF.trans lH pF)) rZ (.cons (kK.vr pF (bF.vr lH dE)) XB)
theorem xU {M : Model} {P : Heap -> Prop} {n : String} : oW M P (.builtin n) := fun h zz => ⟨.machine, .inr (.inl rfl), Looks.of_pure rfl⟩
noncomputable def GA (m : List AV -> dM (Except String AV)) (args : AM (List AV)) : AM (Except String AV) := do
 let vs <- args
 fB (m vs)
theorem gY.use {w : Value} {m : List AV -> dM (Except String AV)} (S : gY G hd d w m) {A : Around} {fr : List Env} {env : Env} {own μ : List Addr} {st st' : AS} {s : Shared} {vs : List AV} {ws : List Value} {r : Except String AV} (hA : tG A fr hd d) (I : fJ G sc fr env own μ st s) (rs : dX G μ s.heap vs ws) (hm : fB (m vs) st = some (r, st'))
  {Q : Value -> Shared -> Prop} {E : Value -> Shared -> Prop} (hQ : ∀ v b s' bM, r = .ok v -> XT own fr μ st s bM st' s' -> fJ G sc fr env own bM st' s' -> VR G bM s'.heap v b -> Q b s')
  (hE : ∀ e k s' bM sf, r = .error k -> XT own fr μ st s bM st' s' -> fJ G sc fr env own bM st' s' -> tU G bM s.heap e (eK G k) s'.heap sf -> (sf = .new \/ sf = .out .none) -> E (.ref e) s') : wpAny G.M A (call w ws) Q E s := by
 refine Mine.hold fun gL bk => ?_
 obtain ⟨hp', h1, rfl⟩ := cR hm
 refine bk ?_; clear bk gL
 exact S vs A fr μ st.hp s r hp' ws hA I.h rs h1 Q E (fun v b s' bM e x H r => hQ v b s' bM e x.weaken (I.heap x H) r) fun e k s' bM sf e1 x H F hs => hE e k s' bM sf e1 x.weaken (I.heap x H) F hs
theorem uM {env : Env} {sf : pM} (h : sf = .new \/ sf = .out .none) : KE env sf := h.elim .inl fun q => .inr (.inl q)
theorem fD {x : String} {p pos : Pos} {w : Value} {f : List AV -> dM AV} {m : AM (List AV)} {es : List Expr} (gk : GOk G) (hx : sc.scope.names.lookup (Str.ofString x) = some .globalImplicit) (hw : cZ G x w) (hc : oW G.M (fun h => G.h₀.StaysIn h) w) (SC : cO G hd d w f)
  (SA : gZ G sc hd d m es) (hdb : autoParam ((Str.ofString x == ("__debug__" : PySem.Str)) = false) aR) : b_ G sc hd d (dF f m) (.Call (.Name (Str.ofString x) p) es [] pos) := by
 intro A fr env own μ st s z st' hA I hm Q E h
 refine Mine.hold fun gL bk => ?_
 obtain ⟨vs, st₁, h1, h2⟩ := aF hm
 refine bk ?_; clear bk gL
 refine wpAny_Call_NameR (wpAny_Name (fV gk I.h I.e.ok hx hw ?_) hdb)
 refine SA A fr env own μ st s vs st₁ pos w [] _ hA I h1 hc Q E fun ws aB aD aT aJ bH => ⟨aJ.h.base, ?_⟩
 exact (SC vs).use hA aJ ⟨ws, bH, rfl⟩ h2 fun b bQ bY bJ bF dE => h _ _ _ (I.trans aT bJ) bF dE
theorem ET {x : String} {p pos : Pos} {w : Value} {f : List AV -> dM (Except String AV)} {m : AM (List AV)} {es : List Expr} (gk : GOk G) (hx : sc.scope.names.lookup (Str.ofString x) = some .globalImplicit) (hw : cZ G x w) (hc : oW G.M (fun h => G.h₀.StaysIn h) w) (SC : gY G hd d w f)
  (SA : gZ G sc hd d m es) (hdb : autoParam ((Str.ofString x == ("__debug__" : PySem.Str)) = false) aR) : JE G sc hd d (GA f m) (.Call (.Name (Str.ofString x) p) es [] pos) := by
 intro A outer env own μ st s r st' hA hf I hm Q E hQ hE
 refine Mine.hold fun gL bk => ?_
 obtain ⟨vs, st₁, h1, h2⟩ := aF hm
 refine bk ?_; clear bk gL
 refine wpAny_Call_NameR (wpAny_Name (fV gk I.h I.e.ok hx hw ?_) hdb)
 refine SA A _ env own μ st s vs st₁ pos w [] _ hA I h1 hc Q E fun ws aB aD aT aJ bH => ⟨aJ.h.base, ?_⟩
 exact SC.use hA aJ bH h2 (fun v b bQ bY e bJ bF dE => hQ v b bQ bY e (I.trans aT bJ) bF dE) fun e k bQ bY sf e1 bJ bF F hs => hE e k bQ bY sf e1 (I.trans aT bJ) bF (F.weaken aT.alive) (uM hs)
structure MethAt (K : Frag) (C f : Addr) (name : String) : Prop where
 hg : plainGet K C (Str.ofString name) = true
 hf : findIn K (.ref C) (Str.ofString name) = some (some (.ref f))
 ht : isFn K (.ref f) = true
 hk : keepIn K (.ref f) = true
noncomputable def uB (c name : String) (o : AV) (hp : AH) : Option Unit :=
 bC hp o fun zz x zz => bO x.inst? fun p => bG (p.1 = c) (bO hp[p.2]? fun c => bO c.1.attrs? fun fs => bG ((fs.lookup name).isNone = true) (some ()))
theorem HO {A : Around} {fr : List Env} {μ : List Addr} {hp : AH} {s : Shared} {K : Frag} {c name : String} {C f : Addr} {o : AV} {ov : Value} {pl : Sem Bool} {Q : Value × List Value -> Shared -> Prop} {E : Value -> Shared -> Prop} (k : K.In G.h₀) (hC : G.addr c = some C) (Mt : MethAt K C f name) (H : bK G fr μ hp s) (ro : VR G μ s.heap o ov) (hm : uB c name o hp = some ())
  (h : Q (.ref f, [ov]) s) : wpAny G.M A (getMethod ov (Str.ofString name) pl) Q E s := by
 have X : K.In s.heap := k.keeps H.base
 revert h
 apply M_ H ro hm; intro r x ver a ob hr ha hob hor hm h
 refine aL hm fun p e1 hm => bA hm fun hcc hm => aL hm fun cc hfs hm => aL hm fun fs e2 hm => bA hm fun hn hm => ?_
 rw [aI.of_inst? e1, hcc] at hor
 refine Mine.hold fun gL bk => ?_
 obtain ⟨_, _, rfl, hC', hdx⟩ := hor.of_inst
 rw [hC] at hC'; cases hC'
 obtain ⟨od, hod, hodr⟩ := H.obj _ _ _ hfs hdx
 rw [aI.of_attrs? e2] at hodr
 obtain ⟨_, _, rfl, ar⟩ := hodr.of_attrs
 refine bk ?_; clear bk gL
 have hl := (ar.look (name := name)).2 (by simpa using hn)
 have Ia : PySem.W.InstAt s.heap _ _ _ (some (dictOf _ _)) := ⟨hob, rfl, rfl, hod⟩
 exact method_fn X Ia (plainGet_of Mt.hg).1 (plainGet_of Mt.hg).2 Mt.hf (beq_iff_eq.mp Mt.ht) (by show (lookIn _ (dictOf _ _)).map _ = _; rw [lookIn_dict, hl]; rfl) h
noncomputable def gR (c name : String) (f : List AV -> dM AV) (mo : AM AV) (args : AM (List AV)) : AM AV := do
 let o <- mo
 nQ (uB c name o)
 let vs <- args
 fB (f (o :: vs))
noncomputable def zV (c name : String) (f : List AV -> dM (Except String AV)) (mo : AM AV) (args : AM (List AV)) : AM (Except String AV) := do
 let o <- mo
 nQ (uB c name o)
 let vs <- args
 fB (f (o :: vs))
theorem gO {K : Frag} {c name : String} {C fa : Addr} {f : List AV -> dM AV} {mo : AM AV} {m : AM (List AV)} {o : Expr} {es : List Expr} {apos pos : Pos} (k : K.In G.h₀) (hC : G.addr c = some C) (Mt : MethAt K C fa name) (SC : cO G hd d (.ref fa) f) (So : b_ G sc hd d mo o) (SA : gZ G sc hd d m es)
  (he : ∀ env : Env, ∃ pl, eval (.Call (.Attribute o (Str.ofString name) apos) es [] pos) env = (do let ov <- eval o env; standAt apos.atName; let (f, first) <- holding [ov] (getMethod ov (Str.ofString name) pl); callWith pos f first (backTo pos (starEach es env)) []) := by exact fun zz => ⟨_, rfl⟩) :
  b_ G sc hd d (gR c name f mo m) (.Call (.Attribute o (Str.ofString name) apos) es [] pos) := by
 intro A fr env own μ st s z st' hA I hm Q E h
 obtain ⟨pl, hpl⟩ := he env
 refine MethodCall_ (pl := pl) (aQ So hA I hm fun ov st₁ ow aB aD bP aT aJ bH => ?_) hpl
 refine Mine.hold fun gL bk => ?_
 obtain ⟨u, oD, h1, e_⟩ := aF bP
 obtain ⟨rfl, hv⟩ := cV h1
 obtain ⟨vs, st₂, h2, h3⟩ := aF e_
 refine bk ?_; clear bk gL
 refine HO k hC Mt aJ.h bH hv ?_
 refine SA A fr env own aD oD aB vs st₂ pos _ [ow] (fun h => K.In h) hA aJ h2 (keeps_K Mt.hk) Q E fun ws bQ bY bJ bF dE => ⟨k.keeps bF.h.base, ?_⟩
 exact (SC (ov :: vs)).use hA bF ⟨ow :: ws, .cons (aJ.vr bJ bH) dE, rfl⟩ h3 fun b dG eO cI cF iY => h _ _ _ (I.trans aT (aJ.trans bJ cI)) cF iY
theorem FU {K : Frag} {c name : String} {C fa : Addr} {f : List AV -> dM (Except String AV)} {mo : AM AV} {m : AM (List AV)} {o : Expr} {es : List Expr} {apos pos : Pos} (k : K.In G.h₀) (hC : G.addr c = some C) (Mt : MethAt K C fa name) (SC : gY G hd d (.ref fa) f) (So : b_ G sc hd d mo o) (SA : gZ G sc hd d m es)
  (he : ∀ env : Env, ∃ pl, eval (.Call (.Attribute o (Str.ofString name) apos) es [] pos) env = (do let ov <- eval o env; standAt apos.atName; let (f, first) <- holding [ov] (getMethod ov (Str.ofString name) pl); callWith pos f first (backTo pos (starEach es env)) []) := by exact fun zz => ⟨_, rfl⟩) :
  JE G sc hd d (zV c name f mo m) (.Call (.Attribute o (Str.ofString name) apos) es [] pos) := by
 intro A outer env own μ st s r st' hA hf I hm Q E hQ hE
 obtain ⟨pl, hpl⟩ := he env
 refine MethodCall_ (pl := pl) (aQ So hA I hm fun ov st₁ ow aB aD bP aT aJ bH => ?_) hpl
 refine Mine.hold fun gL bk => ?_
 obtain ⟨u, oD, h1, e_⟩ := aF bP
 obtain ⟨rfl, hv⟩ := cV h1
 obtain ⟨vs, st₂, h2, h3⟩ := aF e_
 refine bk ?_; clear bk gL
 refine HO k hC Mt aJ.h bH hv ?_
 refine SA A _ env own aD oD aB vs st₂ pos _ [ow] (fun h => K.In h) hA aJ h2 (keeps_K Mt.hk) Q E fun ws bQ bY bJ bF dE => ⟨k.keeps bF.h.base, ?_⟩
 exact SC.use hA bF (.cons (aJ.vr bJ bH) dE) h3 (fun v b dG eO e cI cF iY => hQ v b dG eO e (I.trans aT (aJ.trans bJ cI)) cF iY) fun e k dG eO sf e1 cI cF F hs => hE e k dG eO sf e1 (I.trans aT (aJ.trans bJ cI)) cF ((F.weaken bJ.alive).weaken aT.alive) (uM hs)
structure BK (K : Frag) (C f : Addr) : Prop where
 hm : makesIn K C = true
 hi : findIn K (.ref C) "__init__" = some (some (.ref f))
 hf : typeIn K (.ref f) = some (.type "function")
noncomputable def yN (c : String) (slotted : Bool) (init : List AV -> dM AV) : List AV -> dM AV := fun args hp =>
 bO (init (.ref (hp.length + 1) :: args) (hp ++ [(.attrs [], 0), (if slotted = true then .sinst c hp.length [] else .inst c hp.length, 0)])) fun q => bG (q.1.isNone = true) (some (.ref (hp.length + 1), q.2))
theorem FO {A : Around} {fr : List Env} {C : Addr} {vals : List Value} (hA : tG A fr hd (d + 1)) : tG (A.under (.builtin "type.__call__" ⟨.ref C :: vals, []⟩)) fr hd d where
 frames := by
  have e : (A.under (.builtin "type.__call__" ⟨.ref C :: vals, []⟩)).frames = A.frames := rfl
  rw [e]; exact hA.frames
 depth := by
  have := hA.depth
  rw [depth_under_make]; omega
 units := by
  have := hA.units
  have e : (A.under (.builtin "type.__call__" ⟨.ref C :: vals, []⟩)).units = A.units + 1 := rfl
  rw [e]; omega
 hnd := hA.hnd
theorem tB {K : Frag} {c : String} {C f : Addr} {slotted : Bool} {init : List AV -> dM AV} (k : K.In G.h₀) (hC : G.addr c = some C) (Mk : BK K C f) (S : dQ G hd d (.ref f) init) : cO G hd (d + 1) (.ref C) (yN c slotted init) := by
 rintro args A fr μ hp s z hp' tr hA H zI11 hm Q E h
 refine Mine.hold fun gL bk => ?_
 obtain ⟨vs, rs, rfl⟩ := zI11
 refine bk ?_; clear bk gL
 refine aL hm fun q hin hm => bA hm fun hq hm => ?_
 ·cases hm
  obtain ⟨v, hp'⟩ := q
  cases oH hq
  have X : K.In s.heap := k.keeps H.base
  refine wpAny_call ?_
  refine Mine.hold fun gL bk => ?_
  obtain ⟨hh, g, dr, t, os⟩ := s
  refine bk ?_; clear bk gL
  refine make_core (makes_of X Mk.hm) (looks_findIn X Mk.hi) (fun self => bind_fn X self Mk.hf) (.inl rfl) ?_
  have g1 := H.alloc (h' := hh.push emptyDict) (tk := t) (x := .attrs []) (fun b o e => Heap.get?_push_of_some _ e) (Heap.get?_none_of_le (Nat.le_refl _)) (Heap.get?_push_size _ rfl) (.attrs (es := []) (n := 0) .nil)
  have hdx : (μ ++ [hh.objs.size])[hp.length]? = some hh.objs.size := by rw [<- H.len, getElem?_append_right (Nat.le_refl _), Nat.sub_self]; rfl
  have hor : OR G (μ ++ [hh.objs.size]) (hh.push emptyDict) (if slotted = true then .sinst c hp.length [] else .inst c hp.length) (instObj C hh.objs.size) := by
   cases slotted with
   | true => exact .sinst (vs := []) hC hdx .nil
   | false => exact .inst hC hdx
  have hsz : (hh.push emptyDict).objs.size = hh.objs.size + 1 := Heap.size_push ..
  have g2 := g1.1.alloc (h' := (hh.push emptyDict).push (instObj C hh.objs.size)) (tk := t) (fun b o e => Heap.get?_push_of_some _ e) (Heap.get?_none_of_le (Nat.le_refl _)) (Heap.get?_push_size _ rfl) hor
  have hx : cN [] fr μ hp ⟨hh, g, dr, t, os⟩ (μ ++ [hh.objs.size] ++ [(hh.push emptyDict).objs.size]) (hp ++ [(.attrs [], 0)] ++ [((if slotted = true then .sinst c hp.length [] else .inst c hp.length), 0)]) ⟨(hh.push emptyDict).push (instObj C hh.objs.size), g, dr, t, os⟩ := cN.trans H.len g1.2 g2.2
  have hl2 : (hp ++ [(aI.attrs [], 0)]).length = hp.length + 1 := by simp
  have rself : VR G (μ ++ [hh.objs.size] ++ [(hh.push emptyDict).objs.size]) ((hh.push emptyDict).push (instObj C hh.objs.size)) (.ref (hp.length + 1)) (.ref (hh.objs.size + 1)) := by
   have := gM (G := G) (h := (hh.push emptyDict).push (instObj C hh.objs.size)) (a := (hh.push emptyDict).objs.size) g1.1.len
   rw [hl2] at this
   rw [hsz] at this |-
   exact this
  have rargs := rs.ext H (by intro a ha; cases ha) hx
  have eh : hp ++ [(aI.attrs [], 0), ((if slotted = true then .sinst c hp.length [] else .inst c hp.length), 0)] = hp ++ [(aI.attrs [], 0)] ++ [((if slotted = true then .sinst c hp.length [] else .inst c hp.length), 0)] := by simp
  rw [eh] at hin
  have hA' := FO (C := C) (vals := vs) hA
  refine S (.ref (hp.length + 1) :: args) (A.under (.builtin "type.__call__" ⟨.ref C :: vs, []⟩)) fr _ _ ⟨(hh.push emptyDict).push (instObj C hh.objs.size), g, dr, t, os⟩ .none hp' (.ref (hh.objs.size + 1) :: vs) hA' g2.1 (.cons rself rargs) hin _ fun b s' bM x' H' r' => ?_
  cases r'
  refine ⟨rfl, h _ _ _ (cN.trans H.len hx x') H' ?_⟩
  cases rself with | ref hr => exact .ref (x'.mu hr)
end
section
variable {G : a_} {sc : SC} {hd : Bool} {d : Nat}
noncomputable def DI (h : AM aN) : AM aN := do
 let g <- h
 match g with
 | .exc _ => AM.bad
 | g => pure g
noncomputable def KZ (k : String) (m h : AM aN) : AM aN := do
 let f <- m
 match f with
 | .exc k' => if k' = k then DI h else AM.bad
 | f => pure f
theorem KI {M : Model} {h : Heap} {e : Addr} {oe : Obj} (he : h.get? e = some oe) : Looks M h (typeOf (.ref e)) oe.cls := (Looks.ld (part := none) he).andThen .now
theorem vL {K : Frag} {k x : String} {cw : Value} {m h : AM aN} {body suite : List Stmt} {s6 : Stmt} {px hp pos : Pos} (gk : GOk G) (X : K.In G.h₀) (hx : sc.scope.names.lookup (Str.ofString x) = some .globalImplicit) (hw : cZ G x cw) (hm : exmOne K (eK G k) cw = some true)
  (S : gV G sc hd d m body) (Sh : gV G sc false d h (s6 :: suite)) (hdb : autoParam ((Str.ofString x == ("__debug__" : PySem.Str)) = false) aR) :
  jY G sc hd d (KZ k m h) (.Try body [.ExceptHandler (some (.Name (Str.ofString x) px)) none (s6 :: suite) hp] [] [] pos) := by
 intro A outer env own μ st s fl st' hA hf I hrun Q E hQ hE
 obtain ⟨f, st₁, h1, h2⟩ := aF hrun
 refine wpAny_Try_except (S A outer env own μ st s f st₁ hA hf I h1 _ _ (fun f' aB aD aT aJ bH => ?_) fun e k' aB aD sf e1 aT aJ F hs => ?_)
 ·cases bH with
  | next => cases h2; exact wpAny_execs_nil (hQ _ _ _ aT aJ .next)
  | brk => cases h2; exact hQ _ _ _ aT aJ .brk
  | cont => cases h2; exact hQ _ _ _ aT aJ .cont
  | ret r => cases h2; exact hQ _ _ _ aT aJ (.ret r)
 ·subst e1
  dsimp only at h2
  split at h2
  ·rename_i hk
   subst hk
   obtain ⟨g, st₂, h3, h4⟩ := aF h2
   refine sL hA.frames hf aJ.h aT.alive F hs fun h' j F' => ?_
   have H' := aJ.h.junk I.h.base j
   refine lJ none H' F' fun h'' j' F'' => ?_
   have J := j.trans j'
   have cF : fJ G sc (env :: outer) env own aD st₁ { aB with heap := h'' } := ⟨aJ.h.junk I.h.base J, aJ.e.junk aJ.h J⟩
   have PN := cN.junk aT aJ.h aJ.e.ownK I.h.len J
   refine wpAny_handleBy_cons (codeAny_handlers_test (wpAny_Name (fV gk cF.h cF.e.ok hx hw ?_) hdb)) (by intro q; cases q)
   obtain ⟨oe, ws, a0, he, hcls, _⟩ := id F''
   have L := KI (M := G.M) he
   rw [hcls] at L
   refine (exm_one (X.keeps cF.h.base) L hm).here ?_
   refine codeAny_handlers_suite (lJ none cF.h F'' fun EH XC TG => ?_)
   have kK : fJ G sc (env :: outer) env own aD st₁ { aB with heap := EH } := ⟨cF.h.junk I.h.base XC, cF.e.junk cF.h XC⟩
   have J0 := cN.junk PN cF.h cF.e.ownK I.h.len XC
   have hA' : tG (A.mark (some (.ref e))) (env :: outer) false d := ⟨hA.frames, hA.depth, hA.units, fun q => by cases q⟩
   refine Sh (A.mark (some (.ref e))) outer env own aD st₁ _ g st₂ hA' hf kK h3 _ _ (fun f' jW pR pF rZ XB => ?_) fun e' k' jW pR sf' e1 => ?_
   ·have XX := I.trans J0 pF
    cases XB with
    | next => cases h4; exact hQ _ _ _ XX rZ .next
    | brk => cases h4; exact hQ _ _ _ XX rZ .brk
    | cont => cases h4; exact hQ _ _ _ XX rZ .cont
    | ret r => cases h4; exact hQ _ _ _ XX rZ (.ret r)
   ·subst e1; cases h4
  ·cases h2
end
section
variable {G : a_} {sc : SC} {hd : Bool} {d : Nat}
theorem RJ {fr : List Env} {μ : List Addr} {hp : AH} {s : Shared} {h' : Heap} {e : Addr} {cls : String} (H : bK G fr μ hp s) (x : Heap.NewExc s.heap h' e cls) : tU G μ s.heap e (.type cls) h' .new := by
 refine Mine.hold fun gL bk => ?_
 obtain ⟨ob, t, h1, h2, h3⟩ := x.there
 refine bk ?_; clear bk gL
 have F := H.fresh x.new
 exact ⟨ob, _, t, h1, h2, h3, rfl, F.μ, F.low, x.new, rfl⟩
noncomputable def qQ : List AV -> dM (Except String AV) := fun args hp => PV args fun o i => bI i fun k => bL hp o fun r xs ver => bO (sQ xs) fun ns => bG (ns.length <= 1000000) (if ns.contains k then some (.ok .none, hp.set r (.list ((ns.erase k).map .int), ver + 1)) else some (.error "ValueError", hp))
theorem zU {vs : List Value} {ns : List Int} (k : IntsAre vs ns) : kf_ints vs = true := by
 induction k with
 | nil => rfl
 | cons _ _ _ ih => exact ih
theorem vC {k : Int} {vs : List Value} {ns : List Int} (h : IntsAre vs ns) : ∀ {i : Nat} {v : Value}, vs[i]? = some v -> ∃ n, ns[i]? = some n /\ PyProof.Rows.isInt k v = (n == k) := by
 induction h with
 | nil => intro i v e; simp at e
 | cons n _ _ ih =>
  intro i v e
  cases i with
  | zero => cases e; exact ⟨n, rfl, rfl⟩
  | succ i => exact ih e
theorem xK {vs : List Value} {ns : List Int} (h : IntsAre vs ns) : ∀ i : Nat, IntsAre (vs.eraseIdx i) (ns.eraseIdx i) := by
 induction h with
 | nil => exact fun zz => .nil
 | cons n t h ih =>
  intro i
  cases i with
  | zero => exact h
  | succ i => exact .cons n t (ih i)
theorem CQ (hve : G.addr "ValueError" = none) : gY G true d (.builtin "list.remove") qQ := by
 intro args A fr μ hp s r hp' vs hA H rs hm Q E hQ hE
 apply TP rs hm; intro o i w u ro ri hm
 apply xH ri hm; intro k t hm
 apply tM H ro hm; intro q xs ver a ws n hr ha g1 k1 hm
 refine aL hm fun ns hns hm => bA hm fun hl hm => ?_
 rw [oK hns] at k1
 have hi := k1.ints
 have hlen : ws.length = ns.length := hi.length
 split at hm
 ·rename_i hc
  cases hm
  have hj : ns.idxOf k < ns.length := List.idxOf_lt_length_iff.mpr (by simpa using hc)
  have hit : ns[ns.idxOf k]? = some k := by rw [getElem?_eq_getElem hj]; simp
  have hz : ws.toArray.size <= sizeLine := by rw [size_toArray, hlen, sizeLine_eq]; omega
  refine call_meets PySem.F.slot_list_remove ⟨_, g1, rfl⟩ PySem.F.entry_list_remove (PySem.F.args_list_remove_2 _ _)
   (MeetsSeq.list_remove a ws.toArray n (.int k t) (PyProof.Rows.isInt k) (fun y hy => kf_eq (zU hi) y (by simpa using hy)) (ns.idxOf k) (by simpa [hlen] using hj) ?_ (fun m hm hlt => ?_) hz) ⟨g1, ?_⟩
  ·have hv : ws[ns.idxOf k]? = some ws[ns.idxOf k] := getElem?_eq_getElem (by omega)
   refine Mine.hold fun gL bk => ?_
   obtain ⟨m, h1, h2⟩ := vC (k := k) hi hv
   rw [hit] at h1; cases h1
   refine bk ?_; clear bk gL
   simpa using h2
  ·have hm' : m < ws.length := by simpa using hm
   have hv : ws[m]? = some ws[m] := getElem?_eq_getElem hm'
   refine Mine.hold fun gL bk => ?_
   obtain ⟨z, h1, h2⟩ := vC (k := k) hi hv
   refine bk ?_; clear bk gL
   have : z ≠ k := fun e => by
    subst e
    have := List.not_of_lt_findIdx (p := (· == z)) (xs := ns) hlt
    obtain ⟨hm2, e2⟩ := List.getElem?_eq_some_iff.mp h1
    rw [e2] at this; simp at this
   have e3 : (ws.toArray)[m] = ws[m] := by simp
   rw [e3, h2]; simpa using this
  ·have g := kZ H hr ha g1 (f := fun xs => xs.eraseIdxIfInBounds (ns.idxOf k)) (ws := ws.eraseIdx (ns.idxOf k)) (ys := (ns.erase k).map .int) (by
    apply Array.toList_inj.mp
    simp [Array.toList_eraseIdxIfInBounds]) (by
    rw [List.erase_eq_eraseIdx_of_idxOf rfl]
    exact dX.ofInts (xK hi _)) s.toks
   exact hQ _ _ _ μ rfl g.2 g.1 .none
 ·rename_i hc
  cases hm
  have hno : ∀ (m : Nat) (hm : m < ws.toArray.size), PyProof.Rows.isInt k ws.toArray[m] = false := fun m hm => by
   have hm' : m < ws.length := by simpa using hm
   have hv : ws[m]? = some ws[m] := getElem?_eq_getElem hm'
   obtain ⟨z, h1, h2⟩ := vC (k := k) hi hv
   have e3 : (ws.toArray)[m] = ws[m] := by simp
   rw [e3, h2]
   have : z ≠ k := fun e => by
    subst e
    exact hc (by simpa using mem_of_getElem? h1)
   simpa using this
  refine call_meets PySem.F.slot_list_remove ⟨_, g1, rfl⟩ PySem.F.entry_list_remove (PySem.F.args_list_remove_2 _ _)
   (MeetsSeq.list_remove_none a ws.toArray n (.int k t) (PyProof.Rows.isInt k) (fun y hy => kf_eq (zU hi) y (by simpa using hy)) hno) ⟨g1, hA.hnd rfl, fun h' tk e hn => ?_⟩
  have g := H.grow (h' := h') (tk := tk) hn.keeps
  have F := RJ H hn
  exact hE e _ _ μ .new rfl g.2 g.1 (by
   show tU G μ s.heap e (eK G "ValueError") h' .new
   unfold eK; rw [hve]; exact F) (.inl rfl)
noncomputable def GR (T : String) (f : List AV -> dM (Except String AV)) (qM : AM AV) (args : AM (List AV)) : AM (Except String AV) := do
 let o <- qM
 JQ T o
 let vs <- args
 fB (f (o :: vs))
theorem JX {T id name : String} {f : List AV -> dM (Except String AV)} {qM : AM AV} {m : AM (List AV)} {o : Expr} {es : List Expr} {apos pos : Pos} (pa : PlainAttrs T) (slot : Slot T name id) (hty : typeOf (.builtin id) = pure (.type "method_descriptor")) (SC : gY G hd d (.builtin id) f)
  (PK : b_ G sc hd d qM o) (SA : bX G sc hd d m es) (hline : autoParam ((apos.endLine == pos.line) = true) aR) (hbase : autoParam (∀ env : Env, attributeBase o (Str.ofString name) env (eval o env) = eval o env) aR) (hlen : es.length < 30 := by decide) :
  JE G sc hd d (GR T f qM m) (.Call (.Attribute o (Str.ofString name) apos) es [] pos) := by
 intro A outer env own μ st s r st' hA hf I hm Q E hQ hE
 refine Mine.hold fun gL bk => ?_
 obtain ⟨ov, st₁, h0, hm1⟩ := aF hm
 obtain ⟨u, oD, h1, hm2⟩ := aF hm1
 obtain ⟨rfl, hc⟩ := cV h1
 refine bk ?_; clear bk gL
 split at hc
 ·rename_i hT
  refine Mine.hold fun gL bk => ?_
  obtain ⟨vs, st₂, h2, h3⟩ := aF hm2
  refine bk ?_; clear bk gL
  refine IM pa slot hty hline hbase hlen PK SA hA I h0 hT h2 fun w ws bQ bY bJ bF bH dE => ?_
  exact SC.use hA bF (.cons bH dE) h3 (fun v b dG eO e cI cF iY => hQ v b dG eO e (I.trans bJ cI) cF iY) fun e k dG eO sf e1 cI cF F hs => hE e k dG eO sf e1 (I.trans bJ cI) cF (F.weaken bJ.alive) (uM hs)
 ·cases hc
noncomputable def EZ (k : String) (m : AM (List AV)) : AM aN := do
 let vs <- m
 zA vs.length
 pure (.exc k)
theorem GE {B newId initId k x : String} {C : Addr} {bm : List Value} {m : AM (List AV)} {es : List Expr} {np cpos pos : Pos} (gk : GOk G) (hk : G.addr k = some C) (O : OwnCls (Str.ofString x) C bm newId G.mg G.h₀) (FB : ExcBaseFacts B newId initId bm)
  (hx : sc.scope.names.lookup (Str.ofString x) = some .globalImplicit) (SA : bX G sc true d m es) (hdb : autoParam ((Str.ofString x == ("__debug__" : PySem.Str)) = false) aR) :
  jY G sc true d (EZ k m) (.Raise (some (.Call (.Name (Str.ofString x) np) es [] cpos)) none pos) := by
 intro A outer env own μ st s fl st' hA hf I hrun Q E hQ hE
 refine Mine.hold fun gL bk => ?_
 obtain ⟨vs, st₁, h1, h2⟩ := aF hrun
 obtain ⟨u, st₂, h3, h4⟩ := aF h2
 obtain ⟨rfl, hlen⟩ := pS h3
 cases h4
 obtain ⟨tl, N, nm, q, bs, hdct, sn, sub, ab, col, dd, k0, k1, k2, k3, k5, mN, hC, hN, hni, T⟩ := O.obj
 refine bk ?_; clear bk gL
 refine wpAny_Raise_call_subT (C := C) (nm := nm) (q := q) (N := N) (bs := bs) (bm := tl) (hdct := hdct) (sn := sn) (sub := sub) (ab := ab) (col := col) (dd := dd) (k0 := k0) (k1 := k1) (k2 := k2) (k3 := k3) (k5 := k5)
  FB (mN := mN) (T.hasType FB.hasBase) (hA.hnd rfl) (SA.less.plain env cpos) hni (wpAny_Name (fV gk I.h I.e.ok hx (.inl O.bound) ⟨rfl, ?_⟩) hdb)
 refine SA.less.ev _ _ _ _ _ env cpos _ ?_
 refine SA.sim cpos A _ env own μ st s vs _ hA I h1 _ _ fun ws aB aD aT aJ bH => ⟨rfl, by rw [<- bH.length, sizeLine_eq]; omega, aJ.h.base _ _ hC, hN.keeps aJ.h.base, T.keeps aJ.h.base, fun h' e hx' => ?_⟩
 refine Mine.hold fun gL bk => ?_
 obtain ⟨t, g1, g2, g3⟩ := hx'.there
 refine bk ?_; clear bk gL
 have g := aJ.h.grow (h' := h') (tk := aB.toks) hx'.keeps
 have F := aJ.h.fresh hx'.new
 have hF : tU G aD aB.heap e (eK G k) h' .new := ⟨_, _, .ref t, g1, by unfold eK; rw [hk], rfl, rfl, F.μ, F.low, hx'.new, rfl⟩
 exact hE e k _ aD .new rfl (I.trans aT g.2.weaken) (aJ.heap g.2 g.1) (hF.weaken aT.alive) (.inl rfl)
end
section
variable {G : a_} {sc : SC} {hd : Bool} {d : Nat}
section
variable {prog : Program} {w : World} {A : Around} {E : Value -> Shared -> Prop} {s : Shared}
theorem SH {it l : Addr} {i : Nat} {items : Array Value} {x : Value} {n : Nat} {Q : Fin -> Shared -> Prop} (hit : s.heap.get? it = some ⟨.type "list_iterator", none, .fields #[.ref l, .int i 0], #[]⟩) (hl : ∃ ol, s.heap.get? l = some ol /\ ol.data = .seq items n) (hx : items[i]? = some x)
  (hQ : ∀ h', h'.get? it = some ⟨.type "list_iterator", none, .fields #[.ref l, .int (i + 1 : Nat) 0], #[]⟩ -> Heap.SameBut it s.heap h' -> Q (.done (.ret x)) { s with heap := h' }) : wpAny (model prog w) A (Builtin.«list_iterator.__next__» ⟨[.ref it], []⟩) Q E s := by
 obtain ⟨ol, hol, hdl⟩ := hl
 show wpAny _ _ (field (.ref it) 0 >>= _) _ _ s
 refine wpAny_bind (wpAny_field hit rfl (x := .ref l) rfl ?_)
 show wpAny _ _ (if (Value.ref l == Value.none) = true then _ else _) _ _ s
 rw [if_neg (show ¬ ((Value.ref l == Value.none) = true) from Bool.false_ne_true)]
 show wpAny _ _ (field (.ref it) 1 >>= _) _ _ s
 refine wpAny_bind (wpAny_field hit rfl (x := .int i 0) rfl ?_)
 show wpAny _ _ (seqItems? (.ref l) >>= _) _ _ s
 refine wpAny_bind (wpAny_seqItems hol hdl ?_)
 simp only [Int.toNat_natCast, hx]
 refine wpAny_bind (wpAny_setField hit rfl (by simp) (wpAny_pure (hQ _ ?_ (Heap.SameBut.update ..))))
 rw [Heap.get?_update_self _ hit (Obj.isFreed_of_fields (Obj.data_mapFields rfl _))]
 simp [Obj.mapFields, rawInt]
theorem SY {it l : Addr} {i : Nat} {items : Array Value} {x : Value} {n : Nat} {Q : Fin -> Shared -> Prop} (hit : s.heap.get? it = some ⟨.type "tuple_iterator", none, .fields #[.ref l, .int i 0], #[]⟩) (hl : ∃ ol, s.heap.get? l = some ol /\ ol.data = .seq items n) (hx : items[i]? = some x)
  (hQ : ∀ h', h'.get? it = some ⟨.type "tuple_iterator", none, .fields #[.ref l, .int (i + 1 : Nat) 0], #[]⟩ -> Heap.SameBut it s.heap h' -> Q (.done (.ret x)) { s with heap := h' }) : wpAny (model prog w) A (Builtin.«tuple_iterator.__next__» ⟨[.ref it], []⟩) Q E s := by
 obtain ⟨ol, hol, hdl⟩ := hl
 show wpAny _ _ (field (.ref it) 0 >>= _) _ _ s
 refine wpAny_bind (wpAny_field hit rfl (x := .ref l) rfl ?_)
 show wpAny _ _ (if (Value.ref l == Value.none) = true then _ else _) _ _ s
 rw [if_neg (show ¬ ((Value.ref l == Value.none) = true) from Bool.false_ne_true)]
 show wpAny _ _ (field (.ref it) 1 >>= _) _ _ s
 refine wpAny_bind (wpAny_field hit rfl (x := .int i 0) rfl ?_)
 show wpAny _ _ (seqItems? (.ref l) >>= _) _ _ s
 refine wpAny_bind (wpAny_seqItems hol hdl ?_)
 simp only [Int.toNat_natCast, hx]
 refine wpAny_bind (wpAny_setField hit rfl (by simp) (wpAny_pure (hQ _ ?_ (Heap.SameBut.update ..))))
 rw [Heap.get?_update_self _ hit (Obj.isFreed_of_fields (Obj.data_mapFields rfl _))]
 simp [Obj.mapFields, rawInt]
structure HU (h h' : Heap) (it e : Addr) : Prop where
 keep : Heap.ExtBut it h h'
 it : ∃ o, h'.get? it = some o
 new : h.get? e = none
 exc : ∃ oe vs a0, h'.get? e = some oe /\ oe.cls = .type "StopIteration" /\ oe.data = .fields vs /\ vs[0]? = some a0 /\ vs[1]? = some .none
theorem IV {it : Addr} {o : Obj} {fs : Array Value} {Q : Fin -> Shared -> Prop} {fZ : Heap} (hh : A.handled = none) (hs : Heap.SameBut it s.heap fZ) (ho : fZ.get? it = some o) (hE : ∀ h' e, HU s.heap h' it e -> E (.ref e) { s with heap := h' }) :
  wpAny (model prog w) A (newExc (.type "StopIteration") [] >>= fun e => (raiseNew e : Sem Fin)) Q E { s with heap := fZ } := by
 refine wpAny_bind ?_
 simp only [newExc, newTuple]
 refine wpAny_bind (wpAny_newObj_type ?_ (by size_fits))
 refine wpAny_bind (m := firstArgMember _ _) (wpAny_of_eq (a := Value.none) (by first | rfl | (simp only [firstArgMember]; rfl)) ?_)
 refine wpAny_newObj_type ?_ (by size_fits)
 simp only [raiseNew]
 refine wpAny_bind (wpAny_handled ?_)
 rw [hh]
 refine wpAny_bind (wpAny_pure (wpAny_throw (hE _ _ ⟨(hs.extBut.push _).push _, ⟨o, Heap.get?_push_of_some _ (Heap.get?_push_of_some _ ho)⟩, ?_, ⟨_, _, _, Heap.get?_push_size _ rfl, rfl, rfl, rfl, rfl⟩⟩)))
 refine Heap.get?_none_of_le ?_
 rw [Heap.size_push, hs.1]
 exact Nat.le_succ _
theorem U_ {it l : Addr} {i : Nat} {items : Array Value} {n : Nat} {Q : Fin -> Shared -> Prop} (hh : A.handled = none) (hit : s.heap.get? it = some ⟨.type "list_iterator", none, .fields #[.ref l, .int i 0], #[]⟩) (hl : ∃ ol, s.heap.get? l = some ol /\ ol.data = .seq items n) (hx : items[i]? = none)
  (hE : ∀ h' e, HU s.heap h' it e -> E (.ref e) { s with heap := h' }) : wpAny (model prog w) A (Builtin.«list_iterator.__next__» ⟨[.ref it], []⟩) Q E s := by
 obtain ⟨ol, hol, hdl⟩ := hl
 show wpAny _ _ (field (.ref it) 0 >>= _) _ _ s
 refine wpAny_bind (wpAny_field hit rfl (x := .ref l) rfl ?_)
 show wpAny _ _ (if (Value.ref l == Value.none) = true then _ else _) _ _ s
 rw [if_neg (show ¬ ((Value.ref l == Value.none) = true) from Bool.false_ne_true)]
 show wpAny _ _ (field (.ref it) 1 >>= _) _ _ s
 refine wpAny_bind (wpAny_field hit rfl (x := .int i 0) rfl ?_)
 show wpAny _ _ (seqItems? (.ref l) >>= _) _ _ s
 refine wpAny_bind (wpAny_seqItems hol hdl ?_)
 simp only [Int.toNat_natCast, hx]
 refine wpAny_bind (wpAny_rule (wpAny_bind (wpAny_setField hit rfl (by simp) ?_)))
 exact IV (fs := #[]) hh (Heap.SameBut.update ..) (Heap.get?_update_self _ hit (Obj.isFreed_of_fields (Obj.data_mapFields rfl _))) hE
theorem WO {it l : Addr} {i : Nat} {items : Array Value} {n : Nat} {Q : Fin -> Shared -> Prop} (hh : A.handled = none) (hit : s.heap.get? it = some ⟨.type "tuple_iterator", none, .fields #[.ref l, .int i 0], #[]⟩) (hl : ∃ ol, s.heap.get? l = some ol /\ ol.data = .seq items n) (hx : items[i]? = none)
  (hE : ∀ h' e, HU s.heap h' it e -> E (.ref e) { s with heap := h' }) : wpAny (model prog w) A (Builtin.«tuple_iterator.__next__» ⟨[.ref it], []⟩) Q E s := by
 obtain ⟨ol, hol, hdl⟩ := hl
 show wpAny _ _ (field (.ref it) 0 >>= _) _ _ s
 refine wpAny_bind (wpAny_field hit rfl (x := .ref l) rfl ?_)
 show wpAny _ _ (if (Value.ref l == Value.none) = true then _ else _) _ _ s
 rw [if_neg (show ¬ ((Value.ref l == Value.none) = true) from Bool.false_ne_true)]
 show wpAny _ _ (field (.ref it) 1 >>= _) _ _ s
 refine wpAny_bind (wpAny_field hit rfl (x := .int i 0) rfl ?_)
 show wpAny _ _ (seqItems? (.ref l) >>= _) _ _ s
 refine wpAny_bind (wpAny_seqItems hol hdl ?_)
 simp only [Int.toNat_natCast, hx]
 refine wpAny_bind (wpAny_rule (wpAny_bind (wpAny_setField hit rfl (by simp) ?_)))
 exact IV (fs := #[]) hh (Heap.SameBut.update ..) (Heap.get?_update_self _ hit (Obj.isFreed_of_fields (Obj.data_mapFields rfl _))) hE
end
noncomputable def yH (n k : Nat) (o : Option AV) (x' : aI) (hp : AH) : Option (Except String AV × AH) := o.casesOn (some (.error "StopIteration", hp.set n (.junk, k + 1))) fun x => some (.ok x, hp.set n (x', k + 1))
noncomputable def tI (v : AV) : dM (Except String AV) := fun hp => bC hp v fun n x k =>
 bE (bO x.liter? fun p => bO hp[p.1]? fun c => bO c.1.list? fun xs => yH n k xs[p.2]? (.liter p.1 (p.2 + 1)) hp) (bO x.titer? fun p => yH n k p.1[p.2]? (.titer p.1 (p.2 + 1)) hp)
theorem II {A : Around} {fr : List Env} {μ : List Addr} {hp hp' : AH} {s : Shared} {v : AV} {w : Value} {r : Except String AV} (hse : G.addr "StopIteration" = none) (hh : A.handled = none) (H : bK G fr μ hp s) (rv : VR G μ s.heap v w) (hm : tI v hp = some (r, hp')) {Q : Value -> Shared -> Prop} {E : Value -> Shared -> Prop}
  (hQ : ∀ v b s' bM, r = .ok v -> cN [] fr μ hp s bM hp' s' -> bK G fr bM hp' s' -> VR G bM s'.heap v b -> Q b s')
  (hE : ∀ e k s' bM sf, r = .error k -> cN [] fr μ hp s bM hp' s' -> bK G fr bM hp' s' -> tU G bM s.heap e (eK G k) s'.heap sf -> (sf = .new \/ sf = .out .none) -> E (.ref e) s') :
  ∃ T id b, (∀ n l i k, v = .ref n -> hp[n]? = some (.liter l i, k) -> id = "list_iterator.__next__") /\ s.TypeIs w T /\ Slot T "__next__" id /\ entryFor table id = some b /\ argsOk id ⟨[w], []⟩ /\ wpAny G.M A (b ⟨[w], []⟩) (fun fin s' => ∃ v, fin = .done (.ret v) /\ Q v s') E s := by
 have ended : ∀ {n k : Nat} {a : Addr} {c : aI}, hp[n]? = some (c, k) -> μ[n]? = some a -> hp' = hp.set n (.junk, k + 1) -> r = .error "StopIteration" -> ∀ h' e, HU s.heap h' a e -> E (.ref e) { s with heap := h' } := fun {n k a c} hn ha e1 e2 h' e hx => by
  subst e1
  obtain ⟨o, ho⟩ := hx.it
  have g := H.put (tk := s.toks) (c := (c, k)) (x := .junk) hn ha (fun b o hb e => hx.keep b o hb e) ho (.junk (Heap.get?_some_iff.mp ho).2)
  obtain ⟨oe, vs, a0, q1, q2, q3, q4, q5⟩ := hx.exc
  have F := H.fresh hx.new
  exact hE e _ _ μ .new e2 g.2 g.1 ⟨oe, vs, a0, q1, by rw [q2]; unfold eK; rw [hse], q3, q4, F.μ, F.low, hx.new, q5⟩ (.inl rfl)
 refine aL hm fun n ev hm1 => aL hm1 fun c hn hm2 => ?_
 clear hm hm1
 rw [AV.of_ref? ev] at rv |-
 obtain ⟨a, rfl, ha⟩ := rv.of_ref
 obtain ⟨o, ho, hor⟩ := H.at ha hn
 refine dO hm2 (fun hm => aL hm fun p ep hm1 => aL hm1 fun c' hl hm3 => aL hm3 fun xs ec hm4 => ?_) fun hm => aL hm fun p ep hm4 => ?_
 ·clear hm2 hm hm1 hm3
  rw [aI.of_liter? ep] at hor
  obtain ⟨_, rfl, hla⟩ := hor.of_liter
  obtain ⟨vs, m, g1, k1⟩ := H.list (oJ hl ec) hla
  have hn := EF hn ep
  refine ⟨"list_iterator", _, _, fun zz zz zz zz zz zz => rfl, ⟨_, ho, rfl⟩, slot_listiter_next, entry_listiter_next, args_listiter_next _, ?_⟩
  cases hx : xs[p.2]? with
  | some x =>
   rw [hx] at hm4
   cases hm4
   obtain ⟨u, hu, ru⟩ := k1.get hx
   refine SH ho ⟨_, g1, rfl⟩ (by simpa using hu) fun h' q1 q2 => ⟨_, rfl, ?_⟩
   have hk : ∀ b o, b ≠ a -> s.heap.get? b = some o -> h'.get? b = some o := fun b o hb e => (q2.2 b hb).trans e
   have g := H.put (tk := s.toks) (x := .liter p.1 (p.2 + 1)) hn ha hk q1 (.liter hla)
   exact hQ _ _ _ μ rfl g.2 g.1 (ru.ext H (by intro a ha; cases ha) g.2)
  | none =>
   rw [hx] at hm4
   cases hm4
   exact U_ hh ho ⟨_, g1, rfl⟩ (by
    rw [List.getElem?_toArray, List.getElem?_eq_none_iff, <- k1.length]
    exact List.getElem?_eq_none_iff.mp hx) (ended hn ha rfl rfl)
 ·clear hm2 hm
  rw [aI.of_titer? ep] at hor
  obtain ⟨_, rfl, rt⟩ := hor.of_titer
  obtain ⟨_, _, _, _, e, h1, h2, h3, h4, h5⟩ := rt.of_tup
  cases e
  have hn := MJ hn ep
  refine ⟨"tuple_iterator", _, _, fun n' l i k e e' => ?_, ⟨_, ho, rfl⟩, F.slot_tuple_iterator_next, F.entry_tuple_iterator_next, F.args_tuple_iterator_next_1 _, ?_⟩
  ·cases e
   rw [hn] at e'
   cases e'
  cases hx : p.1[p.2]? with
  | some x =>
   rw [hx] at hm4
   cases hm4
   obtain ⟨u, hu, ru⟩ := h5.get hx
   refine SY ho ⟨_, h1, h3⟩ (by simpa using hu) fun h' q1 q2 => ⟨_, rfl, ?_⟩
   have hk : ∀ b o, b ≠ a -> s.heap.get? b = some o -> h'.get? b = some o := fun b o hb e => (q2.2 b hb).trans e
   have st := H.still_put (mem_of_getElem? ha) hk
   have g := H.put (tk := s.toks) (x := .titer p.1 (p.2 + 1)) hn ha hk q1 (.titer ((VR.tup h1 h2 h3 h4 h5).mono (fun zz zz e => e) st))
   exact hQ _ _ _ μ rfl g.2 g.1 (ru.ext H (by intro a ha; cases ha) g.2)
  | none =>
   rw [hx] at hm4
   cases hm4
   exact WO hh ho ⟨_, h1, h3⟩ (by
    rw [List.getElem?_toArray, List.getElem?_eq_none_iff, <- h5.length]
    exact List.getElem?_eq_none_iff.mp hx) (ended hn ha rfl rfl)
noncomputable def tT : List AV -> dM AV := fun args hp => BU args fun o => bO (bE (bL hp o fun r zz zz => some (.liter r 0)) (bO o.tup? fun xs => some (.titer xs 0))) fun x => gJ x hp
theorem yV : cO G hd d (.builtin "iter") tT := by
 rintro args A fr μ hp s z hp' tr hA H zI11 hm Q E h
 obtain ⟨vs, rs, rfl⟩ := zI11
 have body : ∀ {a b : Addr} {o : Obj}, wpAny G.M A.in1 (pyIter (.ref a)) (fun v s' => Q v s') E s -> wpAny G.M A (call (.builtin "iter") [.ref a]) Q E s := fun {a b o} hp => by
  refine Calls.call_function_entry (by decide +kernel) (by decide +kernel) kdk_entry_iter (kdk_args_iter _) ?_
  unfold Builtin.«iter»
  refine wpAny_bind (m := someArgs "iter" 1 2 _) (wpAny_of_eq (a := [Value.ref a]) (by first | rfl | kernel_rfl!) ?_)
  show wpAny _ _ (pyIter (.ref a) >>= _) _ _ _
  exact wpAny_bind (wpAny_mono hp (fun v s' hq => wpAny_pure ⟨_, rfl, hq⟩) fun zz zz e => e)
 apply EM rs hm; intro o w ro hm
 refine aL hm fun y hy hm => ?_
 cases hm
 refine dO hy (fun hy => ?_) fun hy => aL hy fun xs e hy => ?_
 ·apply tM H ro hy; intro r xs k a ws n hr ha g1 k1 hy
  cases hy
  refine body (b := 0) (o := default) (wpAny_pyIter_list ⟨_, g1, rfl, n, rfl⟩ ?_)
  have g := H.alloc (tk := s.toks) (x := .liter r 0) (fun b o e => Heap.get?_push_of_some _ e) (Heap.get?_none_of_le (Nat.le_refl _)) (Heap.get?_push_size s.heap (o := { cls := .type "list_iterator", data := .fields #[.ref _, .int 0 0] }) rfl) (.liter ha)
  exact h _ _ _ g.2 g.1 (gM H.len)
 ·cases hy
  rw [AV.of_tup? e] at ro
  have xB := ro
  obtain ⟨_, _, _, _, rfl, h1, h2, h3, h4, h5⟩ := ro.of_tup
  refine body (b := 0) (o := default) (wpAny_pyIter_tuple ⟨_, h1, h2, _, h3⟩ ?_)
  have g := H.alloc (tk := s.toks) (x := .titer xs 0) (fun b o e => Heap.get?_push_of_some _ e) (Heap.get?_none_of_le (Nat.le_refl _)) (Heap.get?_push_size s.heap (o := { cls := .type "tuple_iterator", data := .fields #[.ref _, .int 0 0] }) rfl) (.titer xB)
  exact h _ _ _ g.2 g.1 (gM H.len)
noncomputable def DT : List AV -> dM (Except String AV) := fun args hp => BU args fun v => tI v hp
theorem KS (hse : G.addr "StopIteration" = none) : gY G true d (.builtin "next") DT := by
 intro args A fr μ hp s r hp' vs hA H rs hm Q E hQ hE
 apply EM rs hm; intro v w bH hm
 obtain ⟨T, id, b, _, hT, slot, hb, ha, ht⟩ := II (A := A.in1.in1) (Q := Q) (E := E) hse (hA.hnd rfl) H bH hm hQ hE
 have hc := wpAny_call_entry (A := A.in1) (rest := []) slot hT hb ht ha
 refine Calls.call_function_entry (by decide +kernel) (by decide +kernel) kdk_entry_next (kdk_args_next _) ?_
 unfold Builtin.«next»
 refine wpAny_bind (m := someArgs "next" 1 2 _) (wpAny_of_eq (a := [w]) (by first | rfl | kernel_rfl!) ?_)
 dsimp only
 refine wpAny_bind (wpAny_specialOf (name := Str.ofString "__next__") hT slot.lookup ?_)
 refine wpAny_ite_split (fun hab => by cases hab) (fun zz => ?_)
 refine wpAny_bind (wpAny_callSpecial?_slot (name := Str.ofString "__next__") hT slot (wpAny_mono hc (fun v s' hq => ?_) fun zz zz e => e))
 exact wpAny_pure ⟨_, rfl, hq⟩
end
namespace F2
theorem slot_wd_get : Slot "wrapper_descriptor" "__get__" "wrapper_descriptor.__get__" :=
 .of (owner := "wrapper_descriptor") (n := "__get__") (by rw [typeLookup_type, builtinLookup_eq_fast]; kernel_rfl) (by decide +kernel) (by decide +kernel) (by decide +kernel)
  (by first | exact .inl (by decide +kernel) | exact .inr (by decide +kernel)) (by rw [isSubtype_type]; kernel_rfl)
theorem wd_set : typeLookup (.type "wrapper_descriptor") "__set__" = pure none := by rw [typeLookup_type, builtinLookup_eq_fast]; kernel_rfl
theorem wd_del : typeLookup (.type "wrapper_descriptor") "__delete__" = pure none := by rw [typeLookup_type, builtinLookup_eq_fast]; kernel_rfl
theorem entry_wd_get : entryFor table "wrapper_descriptor.__get__" = some Builtin.«wrapper_descriptor.__get__» := entryFor_of_tree (by ext)
theorem args_wd_get (a b c : Value) : argsOk "wrapper_descriptor.__get__" ⟨[a, b, c], []⟩ := by unfold argsOk; kernel_rfl
end F2
structure lK (T n ga id : String) : Prop where
 slot : Slot T "__getattribute__" ga
 entry : entryFor table ga = some Builtin.«object.__getattribute__»
 args : ∀ a b, argsOk ga ⟨[a, b], []⟩
 lk : typeLookup (.type T) (Str.ofString n) = pure (some (.builtin id))
 ty : typeOf (.builtin id) = pure (.type "wrapper_descriptor")
 low : (["__module__", "__name__", "__qualname__", "__doc__", "__annotations__"] : List PySem.Str).contains (Str.ofString n) = false
 mod : (Value.type T == Value.type "module") = false
 sub : isSubtype (.type T) (.type (".".intercalate (id.cutAt '.').dropLast)) = pure true
theorem sU : lK "list" "__contains__" "list.__getattribute__" "list.__contains__" where
 slot := F.slot_list_getattribute
 entry := F.entry_list_ga
 args := F.args_list_getattribute_2
 lk := by rw [typeLookup_type, builtinLookup_eq_fast]; kernel_rfl
 ty := by kernel_rfl
 low := by decide +kernel
 mod := by decide
 sub := by
  have e0 : "list.__contains__".cutAt '.' = ["list", "__contains__"] := by first | rfl | decide +kernel
  rw [e0, isSubtype_type]; kernel_rfl
theorem xR : lK "list_iterator" "__next__" "object.__getattribute__" "list_iterator.__next__" where
 slot := .of (owner := "object") (n := "__getattribute__") (by rw [typeLookup_type, builtinLookup_eq_fast]; kernel_rfl) (by decide +kernel) (by decide +kernel) (by decide +kernel)
  (by first | exact .inl (by decide +kernel) | exact .inr (by decide +kernel)) (by rw [isSubtype_type]; kernel_rfl)
 entry := entryFor_of_tree (by ext)
 args := fun a b => by unfold argsOk; kernel_rfl
 lk := by rw [typeLookup_type, builtinLookup_eq_fast]; kernel_rfl
 ty := by kernel_rfl
 low := by decide +kernel
 mod := by decide
 sub := by
  have e0 : "list_iterator.__next__".cutAt '.' = ["list_iterator", "__next__"] := by first | rfl | decide +kernel
  rw [e0, isSubtype_type]; kernel_rfl
section
variable {prog : Program} {w : World} {A : Around} {E : Value -> Shared -> Prop} {h : Heap} {g : Array GenState} {d : Drawn} {t : Nat} {os : OsState} {a : Addr} {o : Obj} {T n ga id : String}
noncomputable def yJ (o : Obj) : Prop := ∀ c, o.data ≠ .cls c
theorem BJ {Q : Option Addr -> Shared -> Prop} {s : Shared} (hx : s.heap.get? a = some o) (hc : o.cls = .type T) (hd : yJ o) (hn : o.dict = none) (hq : Q none s) : wpAny (model prog w) A (match o.data with | .cls c => pure (some c.ns) | _ => instanceDict a false) Q E s := by
 have key : wpAny (model prog w) A (instanceDict a false) Q E s := by
  unfold instanceDict
  refine wpAny_bind (wpAny_loadPart hx ?_)
  rw [hc]
  dsimp only
  rw [hn]
  exact wpAny_pure hq
 split
 ·rename_i c e; exact absurd e (hd c)
 ·exact key
theorem CB {R : Result -> Shared -> Prop} (W : lK T n ga id) (hx : h.get? a = some o) (hc : o.cls = .type T) (hq : R (.ok (.ret (.ref h.objs.size))) ⟨h.push { cls := .type "method-wrapper", data := .fields #[.builtin id, .ref a] }, g, d, t, os⟩) :
  codeAny (model prog w) A (.call (.builtin "wrapper_descriptor.__get__") ⟨[.builtin id, .ref a, .type T], []⟩) R ⟨h, g, d, t, os⟩ := by
 have hT : (⟨h, g, d, t, os⟩ : Shared).TypeIs (.ref a) T := ⟨_, hx, hc⟩
 have hT5 : (⟨h, g, d, t, os⟩ : Shared).TypeIs (.builtin id) "wrapper_descriptor" := W.ty
 have f8 := W.sub
 refine codeAny_call_builtin F2.slot_wd_get.plain F2.entry_wd_get (F2.slot_wd_get.check _ _ _ _ _ _ _ _ hT5 (F2.args_wd_get _ _ _) ?_)
 repeat (any_goals (first | assumption | wp_step))
theorem xG {tk : Tok} {Q : Fin -> Shared -> Prop} (W : lK T n ga id) (hx : h.get? a = some o) (hc : o.cls = .type T) (hd : yJ o) (hn : o.dict = none) (hq : Q (.done (.ret (.ref h.objs.size))) ⟨h.push { cls := .type "method-wrapper", data := .fields #[.builtin id, .ref a] }, g, d, t, os⟩) :
  wpAny (model prog w) A (Builtin.«object.__getattribute__» ⟨[.ref a, .str (Str.ofString n) tk], []⟩) Q E ⟨h, g, d, t, os⟩ := by
 have hT : (⟨h, g, d, t, os⟩ : Shared).TypeIs (.ref a) T := ⟨_, hx, hc⟩
 have hT5 : (⟨h, g, d, t, os⟩ : Shared).TypeIs (.builtin id) "wrapper_descriptor" := W.ty
 have f4 := W.lk
 have f5 := W.ty
 have f6 := F2.slot_wd_get.lookup
 have f7 := F2.wd_set
 have f9 := W.mod
 have f10 := F2.wd_del
 repeat (any_goals (first | assumption | wp_step))
 have f11 := W.low
 refine BJ hx hc hd hn ?_
 repeat (any_goals (first | assumption | wp_step))
 refine wpAny_ite_split (fun hab => absurd hab (by rw [f11]; exact Bool.false_ne_true)) (fun zz => ?_)
 repeat (any_goals (first | assumption | wp_step))
 refine CB W hx hc ?_
 repeat (any_goals (first | assumption | wp_step))
theorem zS {tk : Tok} {R : Result -> Shared -> Prop} (W : lK T n ga id) (hx : h.get? a = some o) (hc : o.cls = .type T) (hd : yJ o) (hn : o.dict = none) (hq : R (.ok (.ret (.ref h.objs.size))) ⟨h.push { cls := .type "method-wrapper", data := .fields #[.builtin id, .ref a] }, g, d, t, os⟩) :
  codeAny (model prog w) A (.call (.builtin ga) ⟨[.ref a, .str (Str.ofString n) tk], []⟩) R ⟨h, g, d, t, os⟩ :=
 codeAny_call_builtin W.slot.plain W.entry (W.slot.check _ _ _ _ _ _ _ _ (show (⟨h, g, d, t, os⟩ : Shared).TypeIs (.ref a) T from ⟨_, hx, hc⟩) (W.args _ _) (xG W hx hc hd hn hq))
theorem GC {tk : Tok} {fill expr : Bool} {Q : Value -> Shared -> Prop} (W : lK T n ga id) (hx : h.get? a = some o) (hc : o.cls = .type T) (hd : yJ o) (hn : o.dict = none) (hq : Q (.ref h.objs.size) ⟨h.push { cls := .type "method-wrapper", data := .fields #[.builtin id, .ref a] }, g, d, t, os⟩) :
  wpAny (model prog w) A (getAttrBy (.ref a) (.str (Str.ofString n) tk) fill expr) Q E ⟨h, g, d, t, os⟩ := by
 have hT : (⟨h, g, d, t, os⟩ : Shared).TypeIs (.ref a) T := ⟨_, hx, hc⟩
 have f2 := W.slot.lookup
 have f3 := W.slot.bind (.ref a)
 have hx0 : (expr && onTheHeap (Value.builtin ga)) = false := by cases expr <;> rfl
 repeat (any_goals (first | assumption | wp_step))
 refine zS W hx hc hd hn ?_
 repeat (any_goals (first | assumption | wp_step))
theorem z_ {expr : Bool} {Q : Value -> Shared -> Prop} (W : lK T n ga id) (hx : h.get? a = some o) (hc : o.cls = .type T) (hd : yJ o) (hn : o.dict = none) (hq : Q (.ref h.objs.size) ⟨h.push { cls := .type "method-wrapper", data := .fields #[.builtin id, .ref a] }, g, d, t + 1, os⟩) :
  wpAny (model prog w) A (getAttr (.ref a) (Str.ofString n) expr) Q E ⟨h, g, d, t, os⟩ := by
 unfold getAttr
 repeat (any_goals (first | assumption | with_reducible apply GC W hx hc hd hn | wp_step))
end
section
variable {G : a_} {sc : SC} {hd : Bool} {d : Nat}
noncomputable def tS (name : String) (o : AV) : dM AV := fun hp => bC hp o fun r x zz => bO (bE (bG (name = "__contains__") (bO x.list? fun zz => some "list.__contains__")) (bG (name = "__next__") (bO x.liter? fun zz => some "list_iterator.__next__"))) fun id => gJ (.bound id r) hp
theorem QF {A : Around} {fr : List Env} {μ : List Addr} {hp hp' : AH} {s : Shared} {name : String} {o v : AV} {ov : Value} (H : bK G fr μ hp s) (ro : VR G μ s.heap o ov) (hm : tS name o hp = some (v, hp')) {Q : Value -> Shared -> Prop} {E : Value -> Shared -> Prop}
  (h : ∀ w s' bM, cN [] fr μ hp s bM hp' s' -> bK G fr bM hp' s' -> VR G bM s'.heap v w -> Q w s') : wpAny G.M A (getAttr ov (Str.ofString name) true) Q E s := by
 revert h
 apply M_ H ro hm; intro r x ver a o hr ha ho hor hm h
 ·
  have fin : ∀ {T ga id : String} {ob : Obj}, lK T name ga id -> s.heap.get? a = some ob -> ob.cls = .type T -> yJ ob -> ob.dict = none -> gJ (.bound id r) hp = some (v, hp') -> wpAny G.M A (getAttr (.ref a) (Str.ofString name) true) Q E s := by
   intro T ga id ob W hob hc hd hn hv
   cases hv
   obtain ⟨hh, g, dd, t, os⟩ := s
   refine z_ W hob hc hd hn ?_
   have g := H.alloc (tk := t + 1) (x := .bound id r) (fun b o e => Heap.get?_push_of_some _ e) (Heap.get?_none_of_le (Nat.le_refl _)) (Heap.get?_push_size hh (o := { cls := .type "method-wrapper", data := .fields #[.builtin id, .ref a] }) rfl) (.bound ha)
   exact h _ _ _ g.2 g.1 (gM H.len)
  refine aL hm fun id hid hz => dO hid (fun hm1 => bA hm1 fun e hm2 => aL hm2 fun xs ex hi => ?_) fun hm1 => bA hm1 fun e hm2 => aL hm2 fun p ep hi => ?_
  ·clear hm hm1 hm2 hid
   cases hi
   subst e
   rw [aI.of_list? ex] at hor
   obtain ⟨ws, n, rfl, k1⟩ := hor.of_list
   exact fin sU ho rfl (fun c e => by cases e) rfl hz
  ·clear hm hm1 hm2 hid
   cases hi
   subst e
   rw [aI.of_liter? ep] at hor
   obtain ⟨_, rfl, hla⟩ := hor.of_liter
   exact fin xR ho rfl (fun c e => by cases e) rfl hz
noncomputable def HS (name : String) (m : AM AV) : AM AV := do
 let o <- m
 fB (tS name o)
theorem DS {name : String} {m : AM AV} {e : Expr} {pos : Pos} (S : b_ G sc hd d m e)
  (he : autoParam (∀ env : Env, eval (.Attribute e (Str.ofString name) pos) env = (do let o <- eval e env; standAt pos.atName; let r <- holding [o] (getAttr o (Str.ofString name) true); letTemporaryGo e o r; pure r)) aR) :
  b_ G sc hd d (HS name m) (.Attribute e (Str.ofString name) pos) := by
 intro A fr env own μ st s z st' hA I hm Q E h
 refine Attribute_any_ (aQ S hA I hm fun o st₁ ov aB aD bP aT aJ bH => ?_) (he env)
 refine Mine.hold fun gL bk => ?_
 obtain ⟨rV, hv, rfl⟩ := cR bP
 refine bk ?_; clear bk gL
 exact QF aJ.h bH hv fun w bQ bY bJ LF rw' => h _ _ _ (I.trans aT bJ.weaken) (aJ.heap bJ LF) rw'
theorem CS (l : Addr) (x : Value) : checkBoundCall "list.__contains__" ⟨[.ref l, x], []⟩ = pure () := by kernel_rfl
theorem CU (a : Addr) : checkBoundCall "list_iterator.__next__" ⟨[.ref a], []⟩ = pure () := by kernel_rfl
theorem rL {A : Around} {s : Shared} {u l : Addr} {id : String} {b : Builtin} {vs : List Value} {Q : Value -> Shared -> Prop} {E : Value -> Shared -> Prop} (ho : s.heap.get? u = some ⟨.type "method-wrapper", none, .fields #[.builtin id, .ref l], #[]⟩)
  (hc : checkBoundCall id ⟨.ref l :: vs, []⟩ = pure ()) (hq : Code.quiet (.builtin id ⟨.ref l :: vs, []⟩) = true) (hb : entryFor table id = some b)
  (h : codeAny G.M A (.builtin id ⟨.ref l :: vs, []⟩) (fun r s' => match r with | .ok (.ret v) => Q v s' | .ok _ => False | .error e => E e s') s) : wpAny G.M A (call (.ref u) vs) Q E s := by
 refine wpAny_call (codeAny_of_tree ?_)
 show wpAny _ A.in1 (callAny (.ref u) ⟨vs, []⟩) _ _ s
 simp only [callAny]
 refine wpAny_bind (wpAny_load ho ?_)
 simp only [show (Value.type "method-wrapper" == Value.type "method" || Value.type "method-wrapper" == Value.type "builtin_function_or_method" || Value.type "method-wrapper" == Value.type "method-wrapper") = true by decide, if_true]
 refine wpAny_ite_split (fun zz => ?_) (fun hab => absurd (by decide) hab)
 refine wpAny_bind (wpAny_of_eq (a := ()) hc ?_)
 refine wpAny_bind (wpAny_pure (wpAny_pure ?_))
 exact ⟨hq, h⟩
noncomputable def lP (f : AV) (args : List AV) : dM (Except String AV) := fun hp => bC hp f fun zz x zz => bO x.bound? fun p =>
 bE (bG (p.1 = "list.__contains__") (BU args fun x => bO hp[p.2]? fun c => bO c.1.list? fun zz => bO (sB x (.ref p.2) hp) fun b => some (.ok (.bool b), hp)))
  (bG (p.1 = "list_iterator.__next__") (v8 args (bO hp[p.2]? fun c => bO c.1.liter? fun zz => tI (.ref p.2) hp)))
noncomputable def OA (a : Addr) (h : Heap) : Prop := ∃ id la, h.get? a = some ⟨.type "method-wrapper", none, .fields #[.builtin id, .ref la], #[]⟩
theorem GN {M : Model} {a : Addr} : oW M (OA a) (.ref a) := fun h ⟨id, la, hP⟩ => ⟨.machine, .inr (.inl rfl), by
 unfold keeperOf
 intro A Q E s' hk hq
 refine wpAny_bind (wpAny_load (hk _ _ hP) ?_)
 exact wpAny_pure hq⟩
theorem MS {A : Around} {fr : List Env} {μ : List Addr} {hp hp' : AH} {s : Shared} {f : AV} {fv : Value} {args : List AV} {vs : List Value} {r : Except String AV} (hse : G.addr "StopIteration" = none) (hu : A.units + 20 < cLine) (hh : A.handled = none) (H : bK G fr μ hp s) (rf : VR G μ s.heap f fv) (ra : dX G μ s.heap args vs) (hm : lP f args hp = some (r, hp')) {Q : Value -> Shared -> Prop} {E : Value -> Shared -> Prop}
  (hQ : ∀ v b s' bM, r = .ok v -> cN [] fr μ hp s bM hp' s' -> bK G fr bM hp' s' -> VR G bM s'.heap v b -> Q b s')
  (hE : ∀ e k s' bM sf, r = .error k -> cN [] fr μ hp s bM hp' s' -> bK G fr bM hp' s' -> tU G bM s.heap e (eK G k) s'.heap sf -> (sf = .new \/ sf = .out .none) -> E (.ref e) s') :
  ∃ a, fv = .ref a /\ OA a s.heap /\ wpAny G.M A (call fv vs) Q E s := by
 revert hE hQ
 apply M_ H rf hm; intro n x k a ob hn ha hob hor hm hQ hE
 refine aL hm fun p ep hm1 => ?_
 clear hm
 rw [aI.of_bound? ep] at hor
 obtain ⟨la, rfl, hla⟩ := hor.of_bound
 refine ⟨a, rfl, ⟨_, _, hob⟩, ?_⟩
 refine dO hm1 (fun hm => bA hm fun e hm2 => ?_) fun hm => bA hm fun e hm2 => ?_
 ·clear hm1 hm
  rw [e] at hob
  revert hE hQ
  apply EM ra hm2; intro x u bH hm hQ hE
  refine aL hm fun c hl hm1 => aL hm1 fun xs ec hm3 => aL hm3 fun b hb hz => ?_
  clear hm hm1 hm2 hm3
  have hl := oJ hl ec
  cases hz
  refine Mine.hold fun gL bk => ?_
  obtain ⟨ws, m, g1, k1⟩ := H.list hl hla
  refine bk ?_; clear bk gL
  refine aL (LL hl hb) fun da e1 hb1 => aL hb1 fun ds e2 hb2 => ?_
  clear hb hb1
  refine Mine.hold fun gL bk => ?_
  cases hb2
  obtain ⟨⟨as, q1⟩, l1, d1⟩ := jT H 8 _ _ _ e1 bH
  obtain ⟨⟨bs, q2⟩, l2, d2⟩ := wS H e2 k1
  refine bk ?_; clear bk gL
  have hpl : plainId "list.__contains__" = true := by decide +kernel
  refine rL hob (CS _ _) (plainId_quiet hpl _) F.entry_list_contains ?_
  refine codeAny_builtin F.entry_list_contains ?_
  rw [Around.under_plainId hpl _]
  have e3 := SeqAt.any_by_data (s := s) (vs := ws.toArray) (d := da) (by simpa using q2) l2
  refine SeqAt.list_containsAt la ws.toArray m none #[] _ (fun y => PyData.eqv (SeqAt.readOf s.heap y) da) G.prog G.w _ _ s ⟨g1, SeqAt.items_eqAt (by simpa using q2) q1 l2 l1 (by have := Nat.min_le_left (PyData.depthAll ds) da.depth; show _ + _ + _ < _; omega), ?_⟩
  rw [e3]
  exact hQ _ _ _ μ rfl cN.refl H (.bool _)
 ·clear hm1 hm
  rw [e] at hob
  revert hE hQ
  apply K6 ra hm2; intro hm hQ hE
  refine aL hm fun c hl hm1 => aL hm1 fun q ec hz => ?_
  clear hm hm1 hm2
  refine Mine.hold fun gL bk => ?_
  obtain ⟨T, id, b, hk, hT, slot, hb, hargs, ht⟩ := II (A := A.in1) hse hh H (.ref hla) hz hQ hE
  cases hk _ _ _ _ rfl (EF hl ec)
  rw [entry_listiter_next] at hb
  cases hb
  refine bk ?_; clear bk gL
  have hpl : plainId "list_iterator.__next__" = true := by decide +kernel
  refine rL hob (CU _) (plainId_quiet hpl _) entry_listiter_next ?_
  refine codeAny_builtin entry_listiter_next ?_
  rw [Around.under_plainId hpl _]
  exact wpAny_mono ht (fun fin s' ⟨v, e, q⟩ => (by subst e; exact q)) fun zz zz q => q
noncomputable def pX (mf : AM AV) (args : AM (List AV)) : AM (Except String AV) := do
 let f <- mf
 let vs <- args
 fB (lP f vs)
theorem yI {ef : Expr} {pos : Pos} {mf : AM AV} {m : AM (List AV)} {es : List Expr} (hse : G.addr "StopIteration" = none) (SF : b_ G sc true d mf ef) (SA : gZ G sc true d m es)
  (he : ∀ env : Env, eval (.Call ef es [] pos) env = (do callWith pos (<- eval ef env) [] (backTo pos (starEach es env)) []))
  {A : Around} {fr : List Env} {env : Env} {own μ : List Addr} {st st' : AS} {s : Shared} {r : Except String AV} (hA : tG A fr true d) (I : fJ G sc fr env own μ st s) (hm : pX mf m st = some (r, st')) {Q : Value -> Shared -> Prop} {E : Value -> Shared -> Prop}
  (hQ : ∀ v w s' bM, r = .ok v -> XT own fr μ st s bM st' s' -> fJ G sc fr env own bM st' s' -> VR G bM s'.heap v w -> Q w s')
  (hE : ∀ e k s' bM sf, r = .error k -> XT own fr μ st s bM st' s' -> fJ G sc fr env own bM st' s' -> tU G bM s.heap e (eK G k) s'.heap sf -> (sf = .new \/ sf = .out .none) -> E (.ref e) s') : wpAny G.M A (eval (.Call ef es [] pos) env) Q E s := by
 rw [he]
 refine wpAny_bind (aQ SF hA I hm fun f st₁ fv aB aD bP aT aJ bH => ?_)
 refine Mine.hold fun gL bk => ?_
 obtain ⟨vs, st₂, h3, h4⟩ := aF bP
 have hf : ∃ n, f = .ref n := by
  obtain ⟨hp', h5, _⟩ := cR h4
  exact aL h5 fun n e zz => ⟨n, AV.of_ref? e⟩
 obtain ⟨n, rfl⟩ := hf
 obtain ⟨a, rfl, ha⟩ := bH.of_ref
 refine bk ?_; clear bk gL
 refine SA A fr env own aD st₁ aB vs st₂ pos (.ref a) [] (OA a) hA aJ h3 GN Q E fun ws bQ bY bJ bF dE => ?_
 refine Mine.hold fun gL bk => ?_
 obtain ⟨hp', h5, rfl⟩ := cR h4
 obtain ⟨a', e, hw, hc⟩ := MS (A := A) (Q := Q) (E := E) hse (by have := hA.units; omega) (hA.hnd rfl) bF.h (aJ.vr bJ (.ref ha)) dE h5
  (fun v b dG eO e cI xX iY => hQ v b dG eO e (I.trans (I.trans aT bJ) cI.weaken) (bF.heap cI xX) iY)
  (fun e k dG eO sf e1 cI xX F hs => hE e k dG eO sf e1 (I.trans (I.trans aT bJ) cI.weaken) (bF.heap cI xX) (F.weaken (fun b o hb => by
   obtain ⟨TJ, fZ⟩ := aT.alive b o hb
   exact bJ.alive b TJ fZ)) hs)
 cases e
 refine bk ?_; clear bk gL
 exact ⟨hw, hc⟩
theorem KT {ef : Expr} {pos : Pos} {mf : AM AV} {m : AM (List AV)} {es : List Expr} (hse : G.addr "StopIteration" = none) (SF : b_ G sc true d mf ef) (SA : gZ G sc true d m es)
  (he : autoParam (∀ env : Env, eval (.Call ef es [] pos) env = (do callWith pos (<- eval ef env) [] (backTo pos (starEach es env)) [])) aR) : JE G sc true d (pX mf m) (.Call ef es [] pos) := by
 intro A outer env own μ st s r st' hA hf I hm Q E hQ hE
 exact yI hse SF SA he hA I hm hQ fun e k s' bM sf e1 x I' F hs => hE e k s' bM sf e1 x I' F (uM hs)
noncomputable def y8 (m : AM (Except String AV)) : AM AV := do
 let r <- m
 match r with
 | .ok v => pure v
 | .error _ => AM.bad
theorem NU {m : AM (Except String AV)} {st st' : AS} {v : AV} (h : y8 m st = some (v, st')) : m st = some (.ok v, st') := by
 refine Mine.hold fun gL bk => ?_
 obtain ⟨r, st₁, h1, h2⟩ := aF h
 refine bk ?_; clear bk gL
 cases r with
 | ok u => cases h2; exact h1
 | error k => cases h2
theorem EW {ef : Expr} {pos : Pos} {mf : AM AV} {m : AM (List AV)} {es : List Expr} (hse : G.addr "StopIteration" = none) (SF : b_ G sc true d mf ef) (SA : gZ G sc true d m es)
  (he : autoParam (∀ env : Env, eval (.Call ef es [] pos) env = (do callWith pos (<- eval ef env) [] (backTo pos (starEach es env)) [])) aR) : b_ G sc true d (y8 (pX mf m)) (.Call ef es [] pos) := by
 intro A fr env own μ st s v st' hA I hm Q E h
 refine yI hse SF SA he hA I (NU hm) (fun u w s' bM e x I' r' => ?_) fun e k s' bM sf e1 => by cases e1
 cases e
 exact h _ _ _ x I' r'
end
section
variable {G : a_} {sc : SC} {hd : Bool} {d : Nat}
structure BL (G : a_) (K : Frag) (cn : String) (C fn fi : Addr) : Prop where
 hC : G.addr cn = some C
 k : K.In G.h₀
 nx : findIn K (.ref C) "__next__" = some (some (.ref fn))
 nxf : isFn K (.ref fn) = true
 it : findIn K (.ref C) "__iter__" = some (some (.ref fi))
 itf : isFn K (.ref fi) = true
 ln : findIn K (.ref C) "__len__" = some none
 lh : findIn K (.ref C) "__length_hint__" = some none
noncomputable def pN (cn : String) (r : Nat) (hp : AH) : Bool := (bO hp[r]? fun c => bO c.1.sinst? fun p => some (p.1 == cn)).getD false
noncomputable def MB (l : Nat) (ih : dM Unit) (r : Except String AV) (hp : AH) : Option (Unit × AH) := r.casesOn (fun k => bG (k = "StopIteration") (some ((), hp))) fun v => bO hp[l]? fun c => bO c.1.list? fun xs => bG (xs.length < 1000000) (ih (hp.set l (.list (xs ++ [v]), c.2 + 1)))
noncomputable def nJ (cn : String) (mn : List AV -> dM (Except String AV)) (l r : Nat) : Nat -> dM Unit := Nat.rec (fun zz => none) fun zz ih hp => bG (pN cn r hp = true) (bO (mn [.ref r] hp) fun x => MB l ih x.1 x.2)
theorem vH {fr : List Env} {μ : List Addr} {hp : AH} {s : Shared} {cn : String} {C : Addr} {r : Nat} {a : Addr} (H : bK G fr μ hp s) (hC : G.addr cn = some C) (ha : μ[r]? = some a) (h : pN cn r hp = true) : ∃ ox od, InstAt s.heap a ox C od := by
 have h' : (bO hp[r]? fun c => bO c.1.sinst? fun p => some (p.1 == cn)) = some true := by
  unfold pN at h
  cases e : (bO hp[r]? fun c => bO c.1.sinst? fun p => some (p.1 == cn)) with
  | none => rw [e] at h; cases h
  | some b => rw [e] at h; exact congrArg some h
 refine aL h' fun c hr h1 => aL h1 fun p ep h2 => ?_
 ·refine Mine.hold fun gL bk => ?_
  obtain ⟨ob, hob, hor⟩ := H.at ha hr
  rw [aI.of_sinst? ep] at hor
  obtain ⟨_, _, _, rfl, hC', hdx, sr⟩ := hor.of_sinst
  rw [beq_iff_eq.mp (Option.some.inj h2), hC] at hC'
  cases hC'
  obtain ⟨od, hod⟩ := H.ex (mem_of_getElem? hdx)
  refine bk ?_; clear bk gL
  exact ⟨_, some od, hob, rfl, rfl, hod⟩
theorem OD {M : Model} {A : Around} {E : Value -> Shared -> Prop} {s : Shared} {K : Frag} {x C f : Addr} {ox : Obj} {od : Option Obj} {Q : Option Value -> Shared -> Prop} (X : K.In s.heap) (I : InstAt s.heap x ox C od) (hs : findIn K (.ref C) "__next__" = some (some (.ref f))) (hf : isFn K (.ref f) = true)
  (h : wpAny M A (call (.ref f) [.ref x]) (fun v s' => Q (some v) s') (fun e s' => wpAny M A (isInstance e (.type "StopIteration")) (fun b bQ => if b = true then Q none bQ else E e bQ) E s') s) : wpAny M A (pyNext (.ref x)) Q E s := by
 unfold pyNext
 refine wpAny_bind (wpAny_attempt (special_fn (name := "__next__") (args := []) X I hs (beq_iff_eq.mp hf) (wpAny_mono h (fun v s' hq => ?_) (fun e s' he => ?_))))
 ·exact wpAny_pure hq
 ·refine wpAny_bind (wpAny_mono he (fun b bQ hb => ?_) fun zz zz z => z)
  cases b with
  | true => exact wpAny_pure hb
  | false => exact wpAny_throw hb
theorem LM {M : Model} {A : Around} {E : Value -> Shared -> Prop} {s : Shared} {K : Frag} {x C f g : Addr} {ox : Obj} {od : Option Obj} {Q : Value -> Shared -> Prop} (X : K.In s.heap) (I : InstAt s.heap x ox C od) (hs : findIn K (.ref C) "__iter__" = some (some (.ref f))) (hf : isFn K (.ref f) = true) (hn : findIn K (.ref C) "__next__" = some (some (.ref g)))
  (h : wpAny M A (call (.ref f) [.ref x]) (fun v s' => v = .ref x /\ K.In s'.heap /\ (∃ ox' od', InstAt s'.heap x ox' C od') /\ Q (.ref x) s') E s) : wpAny M A (pyIter (.ref x)) Q E s := by
 refine (?_ : wpAny M A (pyIter (.ref x)) Q E s)
 have fin : wpAny M A (call (.ref f) [.ref x] >>= fun v => pure (some v)) (fun r s' => r = some (.ref x) /\ K.In s'.heap /\ (∃ ox' od', InstAt s'.heap x ox' C od') /\ Q (.ref x) s') E s :=
  wpAny_bind (wpAny_mono h (fun v s' h' => wpAny_pure ⟨by rw [h'.1], h'.2⟩) fun zz zz z => z)
 have one : ∀ refuse : Sem Value, wpAny M A (callSpecialIfBoundUnlessNone? (.ref x) "__iter__" refuse) (fun r s' => r = some (.ref x) /\ K.In s'.heap /\ (∃ ox' od', InstAt s'.heap x ox' C od') /\ Q (.ref x) s') E s := by
  intro refuse
  simp only [callSpecialIfBoundUnlessNone?, bindSpecialIfBound?]
  refine wpAny_holding (wpAny_bind (wpAny_bind (wpAny_bind (I.type.here ((looks_findIn X hs).here ?_)))))
  refine wpAny_bind (wpAny_askSetting (wpAny_ite ?_))
  have fin2 : wpAny M A (if (Value.ref f == Value.none) = true then (refuse >>= fun v => pure (some v)) else (call (.ref f) [.ref x] >>= fun v => pure (some v))) (fun r s' => r = some (.ref x) /\ K.In s'.heap /\ (∃ ox' od', InstAt s'.heap x ox' C od') /\ Q (.ref x) s') E s := by
   rw [if_neg (show ¬ ((Value.ref f == Value.none) = true) from Bool.false_ne_true)]
   exact fin
  split
  ·exact wpAny_bind ((bind_fn X _ (beq_iff_eq.mp hf)).here (wpAny_pure (by exact fin2)))
  ·exact wpAny_tryCatch (wpAny_bind ((bind_fn X _ (beq_iff_eq.mp hf)).here (wpAny_pure (by exact fin2))))
 unfold pyIter
 refine wpAny_bind (wpAny_bind (I.type.here ((looks_findIn X hs).here ?_)))
 show wpAny M A (callSpecialIfBoundUnlessNone? (.ref x) "__iter__" _ >>= _) Q E s
 refine wpAny_bind (wpAny_mono (one _) (fun r s' hr => ?_) fun zz zz z => z)
 refine Mine.hold fun gL bk => ?_
 obtain ⟨rfl, X', ⟨ox', od', I'⟩, hv⟩ := hr
 refine bk ?_; clear bk gL
 refine wpAny_bind (wpAny_bind (I'.type.here ((looks_findIn X' hn).here ?_)))
 exact wpAny_pure hv
theorem jQ {cn : String} {mn : List AV -> dM (Except String AV)} {l r k : Nat} {hp : AH} : nJ cn mn l r (k + 1) hp = bG (pN cn r hp = true) (bO (mn [.ref r] hp) fun x => MB l (nJ cn mn l r k) x.1 x.2) := rfl
theorem NC {K : Frag} {cn : String} {C fn fi : Addr} {mn : List AV -> dM (Except String AV)} (gk : GOk G) (hse : G.addr "StopIteration" = none) (O : BL G K cn C fn fi) (S : gY G true d (.ref fn) mn) {l r : Nat} {al ar : Addr} {res : Value} :
  ∀ (k : Nat) (A : Around) (fr : List Env) (μ : List Addr) (hp hp' : AH) (s : Shared), tG A.in1 fr true d -> bK G fr μ hp s -> μ[l]? = some al -> μ[r]? = some ar -> nJ cn mn l r k hp = some ((), hp') ->
   ∀ (R : Result -> Shared -> Prop), (∀ s' bM, cN [] fr μ hp s bM hp' s' -> bK G fr bM hp' s' -> R (.ok (.ret res)) s') -> codeAny G.M A (.builtin "list.extend.loop" ⟨[.ref al, .ref ar, res], []⟩) R s := by
 intro k
 induction k with
 | zero => intro A fr μ hp hp' s hA H hl hr hm; cases hm
 | succ k ih =>
  intro A fr μ hp hp' s hA H hl hr hm R hR
  refine codeAny_builtin F.entry_extend_loop ?_
  rw [Around.under_plainId F.plain_extend_loop _]
  show wpAny _ A.in1 (pyNext (.ref ar) >>= _) _ _ s
  rw [jQ] at hm
  refine bA hm fun ho hm1 => aL hm1 fun x hmn hz => ?_
  clear hm hm1
  have hm := hz
  clear hz
  refine Mine.hold fun gL bk => ?_
  obtain ⟨ox, od, I⟩ := vH H O.hC hr ho
  obtain ⟨rr, lN⟩ := x
  refine bk ?_; clear bk gL
  refine wpAny_bind (OD (O.k.keeps H.base) I O.nx O.nxf ?_)
  refine S [.ref r] A.in1 fr μ hp s rr lN [.ref ar] hA H (.cons (.ref hr) .nil) hmn _ _ (fun v w aB aD e aT xD bH => ?_) fun e k' aB aD sf e1 aT xD F hs => ?_
  ·subst e
   refine aL hm fun c xF hm1 => aL hm1 fun xs ec hm2 => bA hm2 fun hlen hz => ?_
   clear hm hm1 hm2
   have xF := oJ xF ec
   show wpAny _ A.in1 (updateSeq al (·.push w) >>= _) _ _ _
   refine Mine.hold fun gL bk => ?_
   obtain ⟨ws, n, g1, k1⟩ := xD.list xF (aT.mu hl)
   refine bk ?_; clear bk gL
   refine wpAny_bind (wpAny_updateSeq g1 rfl ?_ (by rw [size_toArray, <- k1.length, sizeLine_eq]; omega) (by rw [Array.size_push, size_toArray, <- k1.length, sizeLine_eq]; omega))
   have g := kZ xD xF (aT.mu hl) g1 (f := fun xs => xs.push w) (ws := ws ++ [w]) (by simp) (k1.append (.cons bH .nil)) aB.toks
   exact wpAny_pure ⟨plainId_quiet F.plain_extend_loop _, ih A fr aD _ hp' _ hA g.1 (aT.mu hl) (aT.mu hr) hz R fun s' bM x' H' => hR s' bM (cN.trans H.len aT (cN.trans xD.len g.2 x')) H'⟩
  ·subst e1
   refine bA hm fun ek hm => ?_
   refine Mine.hold fun gL bk => ?_
   subst ek
   cases hm
   obtain ⟨oe, vs, a0, q1, q2, q3, q4, q5⟩ := F
   refine bk ?_; clear bk gL
   refine wpAny_isInstance (T := "StopIteration") (b := true) ⟨oe, q1, by rw [q2]; unfold eK; rw [hse]⟩ (by rw [isSubtype_type]; kernel_rfl) ?_
   exact wpAny_pure (hR _ _ aT xD)
noncomputable def mE (l : Nat) : dM Unit := fun hp => bO hp[l]? fun c => bO c.1.list? fun xs => bG (xs.length < 1000000) (some ((), hp.set l (.list xs, c.2 + 1)))
noncomputable def DC (cn : String) (mn : List AV -> dM (Except String AV)) (l r : Nat) (hp hp' : AH) : Prop := ∃ n, nJ cn mn l r n hp = some ((), hp')
open Classical in
noncomputable def kS (cn : String) (mn : List AV -> dM (Except String AV)) (l r : Nat) : dM AV := fun hp => if h : ∃ hp', DC cn mn l r hp hp' then some (.ref l, h.choose) else none
noncomputable def rA (cn : String) (mi : List AV -> dM AV) (mn : List AV -> dM (Except String AV)) : List AV -> dM AV := fun args hp => BU args fun v => bO v.ref? fun r => bO (mE hp.length (hp ++ [(.list [], 0)])) fun x => bG (pN cn r x.2 = true) (bO (mi [.ref r] x.2) fun y => bO y.1.ref? fun r' => bG (r' = r /\ pN cn r y.2 = true) (bO (mE hp.length y.2) fun z => kS cn mn hp.length r z.2))
theorem FY {fr : List Env} {μ : List Addr} {hp hp' : AH} {s : Shared} {l : Nat} {al : Addr} {f : Array Value -> Array Value} {u : Unit} (H : bK G fr μ hp s) (hl : μ[l]? = some al) (hm : mE l hp = some (u, hp')) :
  ∃ vs n, s.heap.get? al = some ⟨.type "list", none, .seq (vs : List Value).toArray n, #[]⟩ /\ vs.length < 1000000 /\ (f vs.toArray = vs.toArray -> bK G fr μ hp' { s with heap := s.heap.update al (Obj.mapSeq f) } /\ cN [] fr μ hp s μ hp' { s with heap := s.heap.update al (Obj.mapSeq f) }) := by
 refine aL hm fun c h hm1 => aL hm1 fun xs ec hm2 => bA hm2 fun hlen hz => ?_
 clear hm hm1 hm2
 have h := oJ h ec
 refine Mine.hold fun gL bk => ?_
 cases hz
 obtain ⟨ws, n, g1, k1⟩ := H.list h hl
 refine bk ?_; clear bk gL
 exact ⟨ws, n, g1, by rw [<- k1.length]; exact hlen, fun e => kZ H h hl g1 e k1 s.toks⟩
theorem NI {fr : List Env} {μ : List Addr} {hp hp' : AH} {s : Shared} {l : Nat} {al : Addr} {u : Unit} {A : Around} {Q : Unit -> Shared -> Prop} {E : Value -> Shared -> Prop} (H : bK G fr μ hp s) (hl : μ[l]? = some al) (hm : mE l hp = some (u, hp'))
  (h : ∀ s', bK G fr μ hp' s' -> cN [] fr μ hp s μ hp' s' -> Q () s') : wpAny G.M A (updateSeq al (·.push .none) >>= fun zz => updateSeq al (·.pop)) Q E s := by
 refine aL hm fun c hr hm1 => aL hm1 fun xs ec hm2 => bA hm2 fun hlen hz => ?_
 clear hm hm1 hm2
 ··have hr := oJ hr ec
   refine Mine.hold fun gL bk => ?_
   cases hz
   obtain ⟨ws, n, g1, k1⟩ := H.list hr hl
   obtain ⟨J1, UP⟩ := nU (vs := ws.toArray) (n := n) (·.push Value.none)
   obtain ⟨O4, pP⟩ := nU (vs := ws.toArray.push Value.none) (n := J1) (·.pop)
   refine bk ?_; clear bk gL
   have g2 := Heap.get?_update_self (Obj.mapSeq (·.push Value.none)) g1 (by rw [UP]; rfl)
   rw [UP] at g2
   have hs : ws.toArray.size < 1000000 := by rw [size_toArray, <- k1.length]; exact hlen
   refine wpAny_bind (wpAny_updateSeq g1 rfl ?_ (by rw [sizeLine_eq]; omega) (by rw [Array.size_push, sizeLine_eq]; omega))
   refine wpAny_updateSeq g2 rfl ?_ (by rw [Array.size_push, sizeLine_eq]; omega) (by rw [Array.size_pop, Array.size_push, sizeLine_eq]; omega)
   have hk : ∀ b o, b ≠ al -> s.heap.get? b = some o -> ((s.heap.update al (Obj.mapSeq (·.push Value.none))).update al (Obj.mapSeq (·.pop))).get? b = some o :=
    fun b o hb e => (Heap.get?_update_other _ _ (Ne.symm hb)).trans ((Heap.get?_update_other _ _ (Ne.symm hb)).trans e)
   have g := H.put (tk := s.toks) (x := .list xs) hr hl hk (Heap.get?_update_self _ g2 (by rw [pP]; rfl)) (by
    rw [pP, Array.pop_push]
    exact .list (k1.mono (fun zz zz e => e) (H.still_put (mem_of_getElem? hl) hk)))
   exact h _ g.1 g.2
theorem AT {K : Frag} {cn : String} {C fn fi : Addr} {mi : List AV -> dM AV} {mn : List AV -> dM (Except String AV)} (gk : GOk G) (hse : G.addr "StopIteration" = none) (O : BL G K cn C fn fi) (SN : gY G true d (.ref fn) mn) (SI : cO G true d (.ref fi) mi) :
  cO G true (d + 1) (.type "list") (rA cn mi mn) := by
 rintro args A fr μ hp s z hp' tr hA H zI11 hm Q E h
 refine Mine.hold fun gL bk => ?_
 obtain ⟨vs, rs, rfl⟩ := zI11
 refine bk ?_; clear bk gL
 have hA2 : tG A.in1.in1 fr true d := ⟨hA.frames, by have := hA.depth; show A.depth + _ + _ < _; omega, by have := hA.units; show A.units + 1 + 1 + _ + _ < _; omega, hA.hnd⟩
 revert h
 apply EM rs hm; intro v w ro hm h
 refine aL hm fun r er hm1 => aL hm1 fun x mJ hm2 => bA hm2 fun J2 hm3 => aL hm3 fun y XD hm4 => aL hm4 fun r' er' hm5 => bA hm5 fun zH hm6 => aL hm6 fun zz J3 hm7 => ?_
 clear hm hm1 hm2 hm3 hm4 hm5 hm6
 have hm := hm7
 clear hm7
 rw [AV.of_ref? er] at ro
 obtain ⟨ar, rfl, hr⟩ := ro.of_ref
 have J4 := zH.2
 have XD : mi [.ref r] x.2 = some (.ref r, y.2) := by
  rw [XD, show y = (.ref r, y.2) from by rw [<- zH.1, <- AV.of_ref? er']]
 refine callType_codes (Q₁ := fun obj aB => obj = .ref s.heap.objs.size /\ aB = { s with heap := s.heap.push { cls := .type "list", data := .seq #[] } }) F.called_list (F.typeCall_list_1 _) F.entry_list_init
  (code_list_new _ ⟨rfl, rfl⟩) fun obj aB fZ => ?_
 obtain ⟨rfl, rfl⟩ := fZ
 have hS : (s.heap.push { cls := .type "list", data := .seq #[] }).get? s.heap.objs.size = some { cls := .type "list", data := .seq #[] } := Heap.get?_push_size _ rfl
 refine ⟨⟨_, hS, rfl⟩, F.args_list_init_2 _ _, ?_⟩
 have XE := H.alloc (tk := s.toks) (x := .list []) (fun b o e => Heap.get?_push_of_some _ e) (Heap.get?_none_of_le (Nat.le_refl _)) hS (.list (vs := []) (n := 0) .nil)
 obtain ⟨xD, aT⟩ := XE
 have xF : (μ ++ [s.heap.objs.size])[hp.length]? = some s.heap.objs.size := by rw [<- H.len, getElem?_append_right (Nat.le_refl _), Nat.sub_self]; rfl
 show wpAny _ A.in1.in1 (do let old <- Builtin.List.listItems (.ref s.heap.objs.size); Builtin.List.listUpdate (.ref s.heap.objs.size) (fun zz => #[]); letGo old.toList.reverse; Builtin.List.listExtendWith (.ref s.heap.objs.size) (.ref ar) .none) _ _ _
 refine wpAny_bind ?_
 unfold Builtin.List.listItems
 refine wpAny_bind (wpAny_seqItems hS rfl (wpAny_pure ?_))
 show wpAny _ A.in1.in1 (updateSeq s.heap.objs.size (fun zz => #[]) >>= fun zz => letGo (#[] : Array Value).toList.reverse >>= fun zz => Builtin.List.listExtendWith (.ref s.heap.objs.size) (.ref ar) .none) _ _ _
 refine wpAny_bind (wpAny_updateSeq hS rfl ?_)
 refine wpAny_bind (wpAny_letGo ?_)
 refine Mine.hold fun gL bk => ?_
 obtain ⟨vs, n, g, _, k⟩ := FY (f := fun zz => #[]) xD xF mJ
 rw [hS] at g
 have ev : vs.toArray = #[] := by
  have := congrArg (fun o : Option Obj => o.map (·.data)) g
  simp at this
  have := this.1
  rw [<- this]
 obtain ⟨LF, bJ⟩ := k ev.symm
 have hne : s.heap.objs.size ≠ ar := fun e => by
  obtain ⟨o, ho⟩ := H.ex (mem_of_getElem? hr)
  rw [<- e, Heap.get?_none_of_le (Nat.le_refl _)] at ho; cases ho
 have s7 := bJ.mu xF
 have PO := bJ.mu (aT.mu hr)
 obtain ⟨ox, od, bF⟩ := vH LF O.hC PO J2
 refine bk ?_; clear bk gL
 unfold Builtin.List.listExtendWith
 refine wpAny_bind (bF.type.here ?_)
 have h1 : Builtin.List.listSameRef (.ref s.heap.objs.size) (.ref ar) = false := by simp [Builtin.List.listSameRef, hne]
 have h2 : (Value.ref C == Value.type "list") = false := rfl
 have h3 : (Value.ref C == Value.type "tuple") = false := rfl
 simp only [h1, h2, h3, Bool.or_false, Bool.false_eq_true, if_false]
 have J5 := O.k.keeps LF.base
 refine wpAny_bind (LM J5 bF O.it O.itf O.nx ?_)
 refine SI [.ref r] A.in1.in1 fr _ x.2 _ (.ref r) y.2 _ hA2 LF ⟨[.ref ar], .cons (.ref PO) .nil, rfl⟩ XD _ _ fun b dG eO cI xX rb => ?_
 refine Mine.hold fun gL bk => ?_
 obtain ⟨a, rfl, hb⟩ := rb.of_ref
 have zH := cI.mu PO
 rw [zH] at hb
 cases hb
 obtain ⟨M3, M4, cF⟩ := vH xX O.hC zH J4
 refine bk ?_; clear bk gL
 have PN := O.k.keeps xX.base
 refine ⟨rfl, PN, ⟨_, _, cF⟩, ?_⟩
 refine wpAny_bind (wpAny_holding ?_)
 unfold Builtin.List.listLengthHint
 refine wpAny_bind (wpAny_bind (cF.type.here ((looks_findIn PN O.ln).here ?_)))
 show wpAny _ A.in1.in1 (specialOf (Value.ref ar) (Str.ofString "__length_hint__") >>= _) _ _ _
 refine wpAny_bind (wpAny_bind (cF.type.here ((looks_findIn PN O.lh).here ?_)))
 refine wpAny_pure ?_
 show wpAny _ A.in1.in1 (rule "list.extend.makes-room" >>= fun zz => Builtin.List.listTouch (.ref s.heap.objs.size) >>= fun zz =>
  again (.builtin "list.extend.loop" ⟨[.ref s.heap.objs.size, .ref ar, .none], []⟩)) _ _ _
 refine wpAny_bind (wpAny_rule ?_)
 refine wpAny_bind ?_
 show wpAny _ A.in1.in1 (updateSeq s.heap.objs.size (·.push .none) >>= fun zz => updateSeq s.heap.objs.size (·.pop)) _ _ _
 have UQ := cI.mu s7
 refine NI xX UQ J3 fun hK J6 lH => ?_
 unfold kS at hm
 split at hm
 ·rename_i hex
  refine Mine.hold fun gL bk => ?_
  cases hm
  obtain ⟨n, hn⟩ := hex.choose_spec
  refine bk ?_; clear bk gL
  have UR := lH.mu UQ
  refine wpAny_pure ⟨plainId_quiet F.plain_extend_loop _, NC gk hse O SN n A.in1 fr _ zz.2 _ hK hA2 J6 UR (lH.mu zH) hn _ fun jW pR pF J7 => ⟨rfl, ?_⟩⟩
  refine h _ _ _ ?_ J7 (.ref (pF.mu UR))
  exact cN.trans H.len aT (cN.trans xD.len bJ (cN.trans LF.len cI (cN.trans xX.len lH pF)))
 ·cases hm
end
section
variable {G : a_} {sc : SC} {hd : Bool} {d : Nat}
theorem CX {m : AM AV} {e : Expr} {pos : Pos} (S : b_ G sc hd d m e) : b_ G sc hd d m (.JoinedStr [e] pos) := by
 intro A fr env own μ st s z st' hA I hm Q E h
 exact wpAny_JoinedStr_one (S A fr env own μ st s z st' hA I hm Q E h)
noncomputable def qR (m : AM AV) (f : AV -> AM Unit) : AM aN := do
 let v <- m
 f v
 pure .next
theorem nT {m : AM AV} {f : AV -> AM Unit} {value : Expr} {elts : List Expr} {k : Nat} {tpos pos : Pos} (S : b_ G sc true d m value) (T : fY G sc d f (.Tuple elts k tpos))
  (hs : autoParam (∀ env : Env, swapsWithSole [.Tuple elts k tpos] value pos.line env = pure false) aR) (hw : autoParam (∀ env : Env, swappedStores [.Tuple elts k tpos] value env = pure none) aR) : jY G sc true d (qR m f) (.Assign [.Tuple elts k tpos] value pos) := by
 intro A outer env own μ st s fl st' hA hf I hm Q E h hE
 refine Assign_Tuple (aQ S hA I hm fun v st₁ w aB aD bP aT aJ bH => ?_) (hs env) (hw env)
 obtain ⟨u, st2, h3, h4⟩ := aF bP
 cases h4
 exact T A _ env own aD st₁ aB v w st' hA aJ bH h3 _ _ fun bQ bY bJ bF => h _ _ _ (I.trans aT bJ) bF .next
end
section
variable {G : a_} {sc : SC} {hd : Bool} {d : Nat}
noncomputable def vR (T : String) : List AV -> dM AV := fun args hp => BU args fun o => bD hp o fun r zz zz => gJ (.dview T r) hp
theorem GF (gx : GX G) : cO G hd d (.builtin "dict.items") (vR "dict_items") := by
 rintro args A fr μ hp s z hp' tr hA H zI11 hm Q E h
 refine Mine.hold fun gL bk => ?_
 obtain ⟨vs, rs, rfl⟩ := zI11
 refine bk ?_; clear bk gL
 apply EM rs hm; intro o w ro hm
 apply TX H ro hm; intro r es ver a kvs hr ha hd hk hm
 cases hm
 have g := H.alloc (tk := s.toks) (x := .dview "dict_items" r) (fun b o e => Heap.get?_push_of_some _ e) (Heap.get?_none_of_le (Nat.le_refl _)) (Heap.get?_push_size s.heap (o := { cls := .type "dict_items", data := .fields #[.ref a] }) rfl) (.dview ha)
 exact call_meetsIn F.slot_dict_items hd.typeIs F.entry_dict_items (F.args_dict_items_1 _) (meets_dict_items (intKind G.prog G.w) _ (H.sys gx (mem_of_getElem? ha))) ⟨⟨_, hd⟩, h _ _ _ g.2 g.1 (gM H.len)⟩
theorem CK (gx : GX G) : cO G hd d (.builtin "dict.values") (vR "dict_values") := by
 rintro args A fr μ hp s z hp' tr hA H zI11 hm Q E h
 refine Mine.hold fun gL bk => ?_
 obtain ⟨vs, rs, rfl⟩ := zI11
 refine bk ?_; clear bk gL
 apply EM rs hm; intro o w ro hm
 apply TX H ro hm; intro r es ver a kvs hr ha hd hk hm
 cases hm
 have g := H.alloc (tk := s.toks) (x := .dview "dict_values" r) (fun b o e => Heap.get?_push_of_some _ e) (Heap.get?_none_of_le (Nat.le_refl _)) (Heap.get?_push_size s.heap (o := { cls := .type "dict_values", data := .fields #[.ref a] }) rfl) (.dview ha)
 exact call_meetsIn F.slot_dict_values hd.typeIs F.entry_dict_values (F.args_dict_values_1 _) (meets_dict_values (intKind G.prog G.w) _ (H.sys gx (mem_of_getElem? ha))) ⟨⟨_, hd⟩, h _ _ _ g.2 g.1 (gM H.len)⟩
noncomputable def wA (T : String) (f : Int × AV -> AV) (v : AV) (hp : AH) : Option kN :=
 bC hp v fun zz x zz => bO x.dview? fun p => bG (p.1 = T) (bO hp[p.2]? fun c => bO c.1.dict? fun es => some ⟨[(p.2, (.dict es, c.2))], es.map f⟩)
noncomputable def AD (m : AM AV) : AM kN := do
 let v <- m
 nQ (wA "dict_values" (·.2) v)
noncomputable def EN (m : AM AV) : AM kN := do
 let v <- m
 nQ (wA "dict_items" (fun e => .tup [.int e.1, e.2]) v)
theorem C_ {m : AM AV} {e tgt : Expr} (S : b_ G sc true d m e) (ht : aU tgt) : nB G sc d tgt (AD m) e := by
 intro A fr env own μ st s ai st' hA I hm Q E h
 refine aQ S hA I hm fun v st₁ w aB aD bP aT aJ bH => ?_
 obtain ⟨rfl, hv⟩ := cV bP
 have hh := hA.hnd rfl
 apply M_ aJ.h bH hv; intro n x kk' XE ov hr' hn hov hor hv
 refine aL hv fun p e1 hv => bA hv fun eT hv => aL hv fun c hr hv => aL hv fun es e2 hv => ?_
 cases hv
 rw [aI.of_dview? e1, eT] at hor
 refine Mine.hold fun gL bk => ?_
 obtain ⟨y, k⟩ := c
 obtain rfl : y = .dict es := aI.of_dict? e2
 obtain ⟨a, rfl, h1⟩ := hor.of_dview
 obtain ⟨kvs, hdo, hkv⟩ := aJ.h.dict hr h1
 obtain ⟨ep, hdat⟩ := hdo.dictAt
 obtain ⟨o, ho, _⟩ := aJ.h.at h1 hr
 refine bk ?_; clear bk gL
 refine wpAny_pyIter_values ⟨_, hov, rfl, rfl⟩ hdat ?_
 have F : mC G aD aB aB.heap.objs.size := aJ.h.fresh (Heap.get?_none_of_le (Nat.le_refl _))
 have hne : a ≠ aB.heap.objs.size := fun q => by rw [q, F.n] at ho; cases ho
 have g := aJ.h.grow (h' := aB.heap.push { cls := .type "dict_valueiterator", data := .fields #[.ref a, .int 0 0, .int kvs.length 0, .int ep 0] }) (tk := aB.toks) fun b o e => Heap.get?_push_of_some _ e
 have hlen : (es.map (·.2)).length = kvs.length := by rw [length_map, hkv.length]
 have W := Walks.dictValues (prog := G.prog) (w := G.w) (knd := intKind G.prog G.w) hh aB.heap.objs.size a hne kvs ep
 have W' : Walks G.prog G.w A aB.heap.objs.size [aB.heap.objs.size, a] [aB.heap.objs.size] (es.map (·.2)).length (fun i v => ∃ k, kvs[i]? = some (k, v))
  (fun i h => h.IsValIter aB.heap.objs.size a i kvs.length ep /\ h.DictAt (intKind G.prog G.w) a kvs ep) := by rw [hlen]; exact W
 have WG := jD.ofWalks' (tgt := tgt) W' (fun i v s R E hP hst hR => by
   obtain ⟨⟨oi, h5, h6, _⟩, _⟩ := hst
   exact nW ht h5 h6 (by decide) hR)
 refine h aB.heap.objs.size _ aD _ _ _ _ _ (es.map (·.2)) _ (aT.trans I.h.len g.2.weaken) (aJ.heap g.2 g.1)
  (nY (ai := ⟨[(p.2, (.dict es, k))], es.map (·.2)⟩) (h' := aB.heap.push { cls := .type "dict_valueiterator", data := .fields #[.ref a, .int 0 0, .int kvs.length 0, .int ep 0] }) (tk := aB.toks) WG F aT.alive (Heap.get?_push_size _ rfl) rfl ⟨⟨_, Heap.get?_push_size _ rfl, rfl, rfl⟩, hdat.push _⟩ (by simpa using hr) (fun b hb => ?_) (fun i hh hs => ?_) (fun g hg q => ?_) (hkv.vals.ext aJ.h (by intro a ha; cases ha) g.2) (fun i v hh' bM hi hP hvs => ?_))
 ·simp at hb; subst hb
  exact .inl ⟨_, mem_cons_self, h1⟩
 ·obtain ⟨⟨oi, h5, _, h7⟩, _⟩ := hs
  exact ⟨oi, _, h5, h7⟩
 ·exact F.μ (mem_of_getElem? q)
 ·obtain ⟨key, e1⟩ := hP
  exact hvs.get' (by rw [getElem?_map, e1]; rfl)
theorem sG : entryFor table "dict_itemiterator.__iter__" = some Builtin.«dict_keyiterator.__iter__» :=
 entryFor_alias (id' := "dict_keyiterator.__iter__") (by ext) rfl (by decide +kernel) (by ext)
theorem zK {A : Around} (hh : A.handled = none) (it a : Addr) (hne : a ≠ it) (kvs : List (Int × Value)) (ep : Nat) :
  WalksT G.prog G.w A it [it, a] [it] kvs.length (fun i vals => ∃ k key v, kvs[i]? = some (k, v) /\ (intKind G.prog G.w).is k key = true /\ vals = #[key, v])
   (fun i h => (∃ ok ov, IsItemIter h it a i kvs.length ep ok ov) /\ h.DictAt (intKind G.prog G.w) a kvs ep)
   (fun i T h => (∃ ok ov, IsItemIterOut h it a (i + 1) kvs.length ep ok ov T) /\ h.DictAt (intKind G.prog G.w) a kvs ep /\ T ≠ it) where
 sub := fun b hb => by simp at hb; simp [hb]
 frame := fun i h h' st hk => by
  refine Mine.hold fun gL bk => ?_
  obtain ⟨⟨ok, ov, x⟩, y⟩ := st
  refine bk ?_; clear bk gL
  exact ⟨⟨ok, ov, hk it (by simp) _ x⟩, y.at' fun o e => hk a (by simp) o e⟩
 item := fun i s Q E hi st hQ => by
  refine Mine.hold fun gL bk => ?_
  obtain ⟨⟨ok, ov, x⟩, y⟩ := st
  obtain ⟨⟨k, v⟩, hx⟩ : ∃ p, kvs[i]? = some p := ⟨kvs[i], by simp [hi]⟩
  refine bk ?_; clear bk gL
  refine wpAny_pyNext_items_item x y hx fun key h' hkey hit' hT hsz hk => ?_
  exact hQ s.heap.objs.size #[key, v] h' s.toks ⟨k, key, v, hx, hkey, rfl⟩ (Nat.le_refl _) ⟨_, hT, rfl, _, rfl⟩ ⟨⟨_, _, hit'⟩, y.at' fun o e => hk a o hne e, Nat.ne_of_gt (Heap.lt_size x)⟩
   fun b o hb e => hk b o (fun q => hb (by simp [q])) e
 go := fun elts k pos i T s Q E hm hQ => by
  refine Mine.hold fun gL bk => ?_
  obtain ⟨⟨ok, ov, x⟩, y, z⟩ := hm
  refine bk ?_; clear bk gL
  refine wpAny_letOwnedTupleGo_items x fun h' he' hs' => hQ h' ⟨⟨ok, ov, he'⟩, y.at' fun o e => (hs'.2 a hne).trans e⟩ fun b o hb e => ?_
  exact (hs'.2 b fun q => hb (by simp [q])).trans e
 apart := fun i T h hm hT => hm.2.2 (by simpa using hT)
 done := fun s Q E st hQ => by
  refine Mine.hold fun gL bk => ?_
  obtain ⟨⟨ok, ov, x⟩, y⟩ := st
  refine bk ?_; clear bk gL
  exact wpAny_pyNext_items_end hh x y (by simp) fun h' he => hQ h' s.toks fun b o hb e => he b o (fun q => hb (by simp [q])) e
 self := fun i s Q E st hQ => by
  refine Mine.hold fun gL bk => ?_
  obtain ⟨⟨ok, ov, x⟩, y⟩ := st
  refine bk ?_; clear bk gL
  have hT : s.TypeIs (.ref it) "dict_itemiterator" := ⟨_, x, rfl⟩
  refine wpAny_pyIter_slot hT F.slot_dict_itemiterator_iter (wpAny_call_entry F.slot_dict_itemiterator_iter hT sG ?_ (F.args_dict_itemiterator_iter_1 _))
  show wpAny _ _ (ret (.ref it)) _ _ s
  exact wpAny_pure ⟨_, rfl, "dict_itemiterator", _, hT, F.slot_dict_itemiterator_next.lookup, hQ⟩
theorem GW {m : AM AV} {e : Expr} {ts : List Expr} {kk : Nat} {tp : Pos} (S : b_ G sc true d m e) : nB G sc d (.Tuple ts kk tp) (EN m) e := by
 intro A fr env own μ st s ai st' hA I hm Q E h
 refine aQ S hA I hm fun v st₁ w aB aD bP aT aJ bH => ?_
 obtain ⟨rfl, hv⟩ := cV bP
 have hh := hA.hnd rfl
 apply M_ aJ.h bH hv; intro n x kk' XE ov hr' hn hov hor hv
 refine aL hv fun p e1 hv => bA hv fun eT hv => aL hv fun c hr hv => aL hv fun es e2 hv => ?_
 cases hv
 rw [aI.of_dview? e1, eT] at hor
 refine Mine.hold fun gL bk => ?_
 obtain ⟨y, k⟩ := c
 obtain rfl : y = .dict es := aI.of_dict? e2
 obtain ⟨a, rfl, h1⟩ := hor.of_dview
 obtain ⟨kvs, hdo, hkv⟩ := aJ.h.dict hr h1
 obtain ⟨ep, hdat⟩ := hdo.dictAt
 obtain ⟨o, ho, _⟩ := aJ.h.at h1 hr
 refine bk ?_; clear bk gL
 refine wpAny_pyIter_items ⟨_, hov, rfl, rfl⟩ hdat ?_
 have F : mC G aD aB aB.heap.objs.size := aJ.h.fresh (Heap.get?_none_of_le (Nat.le_refl _))
 have hne : a ≠ aB.heap.objs.size := fun q => by rw [q, F.n] at ho; cases ho
 have g := aJ.h.grow (h' := aB.heap.push { cls := .type "dict_itemiterator", data := .fields #[.none, .bool false, .ref a, .int 0 0, .int kvs.length 0, .int ep 0, .none, .none] }) (tk := aB.toks) fun b o e => Heap.get?_push_of_some _ e
 have hlen : (es.map fun e => AV.tup [.int e.1, e.2]).length = kvs.length := by rw [length_map, hkv.length]
 have W := zK (G := G) hh aB.heap.objs.size a hne kvs ep
 have WG := jD.ofWalksT (es := ts) (kk := kk) (pos := tp) W
 rw [<- hlen] at WG
 refine h aB.heap.objs.size _ aD _ _ _ _ _ (es.map (·.2)) _ (aT.trans I.h.len g.2.weaken) (aJ.heap g.2 g.1) ⟨WG, ⟨⟨_, _, by rw [hlen]; exact Heap.get?_push_size _ rfl⟩, hdat.push _⟩, by simpa using hr, fun b hb => ?_, fun b hb => ?_, fun i fZ hs b hb => ⟨fun q => by simp at q, .inr ?_⟩, fun b hb ⟨g, hg, _, q⟩ => ?_, fun b hb => by simp at hb, hkv.vals.ext aJ.h (by intro a ha; cases ha) g.2, fun i v fZ PJ bM hi hP hvs hal => ?_⟩
 ·simp at hb
  rcases hb with rfl | rfl
  ·exact .inr ⟨F.μ, _, Heap.get?_push_size _ rfl, .inl (cH rfl)⟩
  ·exact .inl ⟨_, mem_cons_self, h1⟩
 ·simp at hb; subst hb
  refine ⟨?_, F.low, .inr F.μ⟩
  cases e : s.heap.get? aB.heap.objs.size with
  | none => rfl
  | some o => obtain ⟨o', e'⟩ := aT.alive _ _ e; rw [F.n] at e'; cases e'
 ·obtain ⟨⟨ok, ov, q1⟩, _⟩ := hs
  simp at hb; subst hb
  exact ⟨_, _, q1, rfl⟩
 ·simp at hg; subst hg
  simp at hb; subst hb
  exact absurd (mem_of_getElem? q) F.μ
 ·obtain ⟨T, vals, rfl, hT, ⟨o, q1, q2, q3, q4⟩, k', key, y, q5, q7, q6⟩ := hP
  refine Mine.hold fun gL bk => ?_
  obtain ⟨x, hx, _⟩ := hkv.get q5
  obtain ⟨z, hz, hr⟩ := hvs.get' (i := i) (v := y) (by rw [getElem?_map, q5]; rfl)
  rw [getElem?_map, hx] at hz
  cases hz
  refine bk ?_; clear bk gL
  refine ⟨.tup [.int k', x], by rw [getElem?_map, hx]; rfl, .tup (vs := [key, y]) q1 q2 (by rw [q4, q6]) (fun hm => ?_) (.cons (EG q7) (.cons hr .nil))⟩
  obtain ⟨o', ho'⟩ := hal T hm
  rw [hT] at ho'; cases ho'
end
section
variable {G : a_} {sc : SC} {hd : Bool} {d : Nat}
theorem FT {μ : List Addr} {h : Heap} {ns : List String} {args : List AV} {vs : List Value} (k : dX G μ h args vs) : BR G μ h (ns.zip args) ((ns.map Str.ofString).zip vs) :=
 k.ind (P := fun args vs => ∀ ns : List String, BR G μ h (ns.zip args) ((ns.map Str.ofString).zip vs)) (fun ns => by cases ns <;> exact .nil) (fun r zz ih ns => by
  cases ns with
  | nil => exact .nil
  | cons n ns => exact .cons r (ih ns)) ns
theorem JR {μ : List Addr} {h : Heap} {ys : List (String × AV)} {ws : List (PySem.Str × Value)} (k : BR G μ h ys ws) {xs : List (String × AV)} {vs : List (PySem.Str × Value)} (k' : BR G μ h xs vs) : BR G μ h (xs ++ ys) (vs ++ ws) := by
 induction k' with
 | nil => exact k
 | cons r _ ih => exact .cons r ih
theorem dX.drop {μ : List Addr} {h : Heap} (n : Nat) {xs : List AV} {vs : List Value} (k : dX G μ h xs vs) : dX G μ h (xs.drop n) (vs.drop n) :=
 k.ind (P := fun xs vs => ∀ n, dX G μ h (xs.drop n) (vs.drop n)) (fun n => by cases n <;> exact .nil) (fun r k ih n => by
  cases n with
  | zero => exact .cons r k
  | succ n => exact ih n) n
noncomputable def tO (ns : List String) (va : String) (args : List AV) : Option (List (String × AV)) :=
 if ns.length <= args.length /\ args.length <= 1000 then some (ns.zip args ++ [(va, .tup (args.drop ns.length))]) else none
theorem uS {fd : FuncData} {ns : List String} {va : String} (hb : ∀ vs : List Value, ns.length <= vs.length -> bindArgs fd ⟨vs, []⟩ = (newTuple (vs.drop ns.length) >>= fun t => pure ((ns.map Str.ofString).zip vs ++ [(Str.ofString va, t)]))) : oN G fd (tO ns va) := by
 intro A fr μ hp s args vs bs H rs hm Q E h
 unfold tO at hm
 split at hm
 ·rename_i hl
  cases hm
  rw [hb vs (by rw [<- rs.length]; exact hl.1)]
  have hn := H.grow (h' := s.heap.push { cls := .type "tuple", data := .seq (vs.drop ns.length).toArray }) (tk := s.toks) (fun b o e => Heap.get?_push_of_some _ e)
  refine wpAny_bind (wpAny_newObj_type ?_ (by
   have h1 : (vs.drop ns.length).length <= 1000 := by rw [List.length_drop, <- rs.length]; omega
   first | (simp only [sizeOk, size_toArray, sizeLine_eq]; omega) | trace_state))
  refine wpAny_pure (h _ _ hn.2 hn.1 (JR (.cons (.tup (Heap.get?_push_size _ rfl) rfl rfl (fun hm => absurd (H.lt hm) (Nat.lt_irrefl _)) ((rs.drop _).ext H (by intro a ha; cases ha) hn.2)) .nil) (FT (rs.ext H (by intro a ha; cases ha) hn.2))))
 ·cases hm
theorem xZ {pos : Pos} : b_ G sc hd d (fB (gJ (.dict []))) (.Dict [] [] pos) := by
 intro A fr env own μ st s z st' hA I hm Q E h
 obtain ⟨hp', h4, rfl⟩ := cR hm
 cases h4
 refine wpAny_Dict_empty ?_
 obtain ⟨o, ho, hdo⟩ := Heap.dictOf_iff.mp (Heap.DictOf.new (knd := intKind G.prog G.w) s.heap)
 have g := I.h.alloc (tk := s.toks) (x := .dict []) (fun b o e => Heap.get?_push_of_some _ e) (Heap.get?_none_of_le (Nat.le_refl _)) ho (.dict hdo .nil)
 exact h _ _ _ g.2.weaken (I.heap g.2 g.1) (gM I.h.len)
end
section
variable {G : a_} {sc : SC} {hd : Bool} {d : Nat}
structure AU (K : Frag) (C f : Addr) (name : String) : Prop extends MethAt K C f name where
 hh : hasDictIn K C = true
 hgf : specialIn K (.ref f) "__get__" = some (some (.builtin "function.__get__"))
 hts : takesIn K (.ref f) = some false
 hcn : copiedNames.contains (Str.ofString name) = false
 hfn : fnIn K f = true
theorem RC {A : Around} {fr : List Env} {μ : List Addr} {hp : AH} {s : Shared} {K : Frag} {c name : String} {C f : Addr} {o : AV} {ov : Value} {Q : Value -> Shared -> Prop} {E : Value -> Shared -> Prop} {u : Unit} (k : K.In G.h₀) (hC : G.addr c = some C) (Mt : AU K C f name) (H : bK G fr μ hp s) (ro : VR G μ s.heap o ov) (hm : uB c name o hp = some u)
  (h : Q (.ref s.heap.objs.size) { s with heap := s.heap.push (methodObj (.ref f) ov), toks := s.toks + 1 }) : wpAny G.M A (getAttr ov (Str.ofString name) true) Q E s := by
 have X : K.In s.heap := k.keeps H.base
 revert h
 apply M_ H ro hm; intro r x ver a ob hr ha hob hor hm h
 refine aL hm fun p e1 hm => bA hm fun hcc hm => aL hm fun cc hfs hm => aL hm fun fs e2 hm => bA hm fun hn hm => ?_
 rw [aI.of_inst? e1, hcc] at hor
 refine Mine.hold fun gL bk => ?_
 obtain ⟨_, _, rfl, hC', hdx⟩ := hor.of_inst
 rw [hC] at hC'; cases hC'
 obtain ⟨od, hod, hodr⟩ := H.obj _ _ _ hfs hdx
 rw [aI.of_attrs? e2] at hodr
 obtain ⟨_, _, rfl, ar⟩ := hodr.of_attrs
 refine bk ?_; clear bk gL
 have hl := (ar.look (name := name)).2 (by simpa using hn)
 have Ia : PySem.W.InstAt s.heap _ _ _ (some (dictOf _ _)) := ⟨hob, rfl, rfl, hod⟩
 exact get_bind X Ia (plainGet_of Mt.hg).1 (findObj_fn Mt.hh Mt.hf Mt.hgf Mt.hts Mt.hcn (by show lookIn _ (dictOf _ _) = _; rw [lookIn_dict, hl])) (plainGet_of Mt.hg).2
  (wpAny_call (fn_get (s := { s with toks := s.toks + 1 }) X (beq_iff_eq.mp Mt.ht) (handed_on rfl h)))
theorem JU {K : Frag} {c name : String} {C fa : Addr} {f : List AV -> dM AV} {mo : AM AV} {m : AM (List AV)} {o : Expr} {es : List Expr} {apos pos : Pos} (k : K.In G.h₀) (hC : G.addr c = some C) (Mt : AU K C fa name) (SC : dQ G hd d (.ref fa) f) (So : b_ G sc hd d mo o) (SA : gZ G sc hd d m es)
  (he : autoParam (∀ env : Env, eval (.Call (.Attribute o (Str.ofString name) apos) es [] pos) env = (do let ov <- eval o env; standAt apos.atName; let (f, first) <- holding [ov] (do pure (<- getAttr ov (Str.ofString name) true, [])); callWith pos f first (backTo pos (starEach es env)) [])) aR) :
  b_ G sc hd d (gR c name f mo m) (.Call (.Attribute o (Str.ofString name) apos) es [] pos) := by
 intro A fr env own μ st s z st' hA I hm Q E h
 show wpAny _ _ (eval _ env) _ _ _
 rw [he]
 refine wpAny_bind (aQ So hA I hm fun ov st₁ ow aB aD bP aT aJ bH => wpAny_bind (wpAny_standAt ?_))
 refine Mine.hold fun gL bk => ?_
 obtain ⟨u, oD, h1, e_⟩ := aF bP
 obtain ⟨rfl, hv⟩ := cV h1
 obtain ⟨vs, st₂, h2, h3⟩ := aF e_
 refine bk ?_; clear bk gL
 refine wpAny_bind (wpAny_holding (wpAny_bind (RC k hC Mt aJ.h bH hv (wpAny_pure ?_))))
 have g := aJ.h.grow (h' := aB.heap.push (methodObj (.ref fa) ow)) (tk := aB.toks + 1) fun b o e => Heap.get?_push_of_some _ e
 have bF := aJ.heap g.2 g.1
 have hq : aB.heap.get? aB.heap.objs.size = none := Heap.get?_none_of_le (Nat.le_refl _)
 have hqo : aB.heap.objs.size ∉ own := fun hm => by
  obtain ⟨_, _, o, ho, _⟩ := aJ.e.ownp _ hm
  rw [hq] at ho; cases ho
 have F := aJ.h.fresh hq
 have hqf : aB.heap.objs.size ∉ sP fr := fun hm => by
  obtain ⟨e, he, hf⟩ := mem_filterMap.mp hm
  obtain ⟨_, L, o, hL, ho, _⟩ := aJ.h.frs e he
  rw [hf] at hL; cases hL
  rw [hq] at ho; cases ho
 refine SA A fr env own aD oD _ vs st₂ pos _ [] (MethP K aB.heap.objs.size fa ow) hA bF h2 (keeps_M Mt.hfn) Q E fun ws bQ bY bJ cF dE => ?_
 have hm : bQ.heap.get? aB.heap.objs.size = some (methodObj (.ref fa) ow) := by
  obtain ⟨sl, e1, e2⟩ := bJ.keep _ _ (Heap.get?_push_size _ rfl) F.μ hqo
  rw [e1, e2 hqf]
 refine ⟨⟨hm, k.keeps cF.h.base⟩, wpAny_call (method_call hm ?_)⟩
 refine Mine.hold fun gL bk => ?_
 obtain ⟨wZ, h5, rfl⟩ := cR h3
 refine bk ?_; clear bk gL
 exact SC (ov :: vs) A fr bY _ bQ z wZ (ow :: ws) hA cF.h (.cons (bF.vr bJ (aJ.vr g.2.weaken bH)) dE) h5 _ fun b dG eO cI xX iY => h _ _ _ (I.trans aT (aJ.trans g.2.weaken (bF.trans bJ cI.weaken))) (cF.heap cI xX) iY
end
abbrev o_ (h : Heap) (z TI TO : Addr) (f0 : Value) : Prop := h.get? z = some { cls := .type "zip", dict := none, data := .fields #[f0, .bool false, .bool false, .ref TI, .ref TO], slots := #[] }
abbrev kH (h : Heap) (T : Addr) (a b c : Value) : Prop := h.get? T = some { cls := .type "tuple", data := .seq #[a, b, c] }
structure Z3 (z TI TO i1 i2 i3 l1 l2 l3 : Addr) : Prop where
 z_TI : z ≠ TI
 z_TO : z ≠ TO
 z_i1 : z ≠ i1
 z_i2 : z ≠ i2
 z_i3 : z ≠ i3
 TI_TO : TI ≠ TO
 TI_i1 : TI ≠ i1
 TI_i2 : TI ≠ i2
 TI_i3 : TI ≠ i3
 TO_i1 : TO ≠ i1
 TO_i2 : TO ≠ i2
 TO_i3 : TO ≠ i3
 i1_i2 : i1 ≠ i2
 i1_i3 : i1 ≠ i3
 i2_i3 : i2 ≠ i3
 l1_z : l1 ≠ z
 l1_TO : l1 ≠ TO
 l1_i1 : l1 ≠ i1
 l1_i2 : l1 ≠ i2
 l1_i3 : l1 ≠ i3
 l2_z : l2 ≠ z
 l2_TO : l2 ≠ TO
 l2_i1 : l2 ≠ i1
 l2_i2 : l2 ≠ i2
 l2_i3 : l2 ≠ i3
 l3_z : l3 ≠ z
 l3_TO : l3 ≠ TO
 l3_i1 : l3 ≠ i1
 l3_i2 : l3 ≠ i2
 l3_i3 : l3 ≠ i3
section
variable {prog : Program} {w : World} {A : Around} {E : Value -> Shared -> Prop} {s : Shared}
theorem F_ {T : Addr} {a b c x : Value} {k : Nat} {Q : Unit -> Shared -> Prop} (hT : kH s.heap T a b c)
  (h : ∀ h', h'.get? T = some { cls := .type "tuple", data := .seq ((#[a, b, c] : Array Value).setIfInBounds k x) } -> Heap.SameBut T s.heap h' -> Q () { s with heap := h' }) :
  wpAny (model prog w) A (updateSeq T (·.setIfInBounds k x)) Q E s := by
 refine wpAny_updateSeq hT rfl (h _ ?_ (Heap.SameBut.update ..))
 rw [Heap.get?_update_self _ hT rfl]
 simp [Obj.mapSeq]
variable {z TI TO i1 i2 i3 l1 l2 l3 : Addr}
noncomputable def A0 (z TO i1 i2 i3 c : Addr) : Prop := c ≠ z /\ c ≠ TO /\ c ≠ i1 /\ c ≠ i2 /\ c ≠ i3
theorem KC {k : Nat} {xs ys us : Array Value} {x y u a b c : Value} {Q : Value -> Shared -> Prop} (D : Z3 z TI TO i1 i2 i3 l1 l2 l3)
  (hz : o_ s.heap z TI TO .none) (hTI : kH s.heap TI (.ref i1) (.ref i2) (.ref i3)) (hTO : kH s.heap TO a b c)
  (h1 : s.heap.IsListIter i1 l1 k) (h2 : s.heap.IsListIter i2 l2 k) (h3 : s.heap.IsListIter i3 l3 k) (hl1 : s.heap.IsList l1 xs) (hl2 : s.heap.IsList l2 ys) (hl3 : s.heap.IsList l3 us) (hx : xs[k]? = some x) (hy : ys[k]? = some y) (hu : us[k]? = some u)
  (hQ : ∀ h', o_ h' z TI TO (rawInt s.heap.objs.size) -> kH h' TO x y u -> h'.IsListIter i1 l1 (k + 1) -> h'.IsListIter i2 l2 (k + 1) -> h'.IsListIter i3 l3 (k + 1) -> kH h' s.heap.objs.size x y u ->
   (∀ c o, A0 z TO i1 i2 i3 c -> s.heap.get? c = some o -> h'.get? c = some o) -> Q (.ref s.heap.objs.size) { s with heap := h' }) :
  wpAny (model prog w) A (Builtin.«zip.__next__» ⟨[.ref z], []⟩) (fun fin s' => ∃ v, fin = .done (.ret v) /\ Q v s') E s := by
 show wpAny _ _ (field (.ref z) 2 >>= _) _ _ _
 refine wpAny_bind (wpAny_field hz rfl (x := .bool false) rfl ?_)
 show wpAny _ _ (field (.ref z) 3 >>= _) _ _ _
 refine wpAny_bind (wpAny_field hz rfl (x := .ref TI) rfl ?_)
 refine wpAny_bind (wpAny_seqItems hTI rfl ?_)
 show wpAny _ _ (Builtin.SmallTypes.ownedTupleIsFree (.ref z) >>= _) _ _ _
 refine wpAny_bind ?_
 unfold Builtin.SmallTypes.ownedTupleIsFree
 refine wpAny_bind (wpAny_field hz rfl (x := .none) rfl (wpAny_pure ?_))
 simp only [if_true]
 refine wpAny_bind (wpAny_rule ?_)
 refine wpAny_bind (wpAny_field hz rfl (x := .ref TO) rfl ?_)
 refine wpAny_bind (wpAny_setField_rec hz (by simp) fun tD oG aB => ?_)
 replace oG : o_ tD z TI TO .ellipsis := oG
 refine wpAny_bind ?_
 simp only [List.zipIdx_cons, List.zipIdx_nil, List.forIn_cons, List.forIn_nil]
 refine wpAny_bind (wpAny_bind (wpAny_onRaise ?_))
 show wpAny _ _ (Builtin.SmallTypes.nextOf (.ref i1) >>= _) _ _ _
 refine wpAny_bind (wpAny_nextOf_list_item (h1.extBut aB.extBut D.z_i1.symm) (hl1.extBut aB.extBut D.l1_z) hx fun tE p1 bQ => wpAny_pure ?_)
 have s8 : kH tE TO a b c := bQ.extBut _ _ D.TO_i1 (aB.extBut _ _ D.z_TO.symm hTO)
 refine wpAny_bind (wpAny_seqItems s8 rfl ?_)
 refine wpAny_bind (F_ s8 fun PP XF dG => ?_)
 replace XF : kH PP TO x b c := XF
 refine wpAny_bind (wpAny_letGo (wpAny_pure ?_))
 refine wpAny_bind (wpAny_bind (wpAny_onRaise ?_))
 show wpAny _ _ (Builtin.SmallTypes.nextOf (.ref i2) >>= _) _ _ _
 refine wpAny_bind (wpAny_nextOf_list_item (((h2.extBut aB.extBut D.z_i2.symm).extBut bQ.extBut D.i1_i2.symm).extBut dG.extBut D.TO_i2.symm)
  (((hl2.extBut aB.extBut D.l2_z).extBut bQ.extBut D.l2_i1).extBut dG.extBut D.l2_TO) hy fun J8 p2 hK => wpAny_pure ?_)
 have s9 : kH J8 TO x b c := hK.extBut _ _ D.TO_i2 XF
 refine wpAny_bind (wpAny_seqItems s9 rfl ?_)
 refine wpAny_bind (F_ s9 fun J9 XG jW => ?_)
 replace XG : kH J9 TO x y c := XG
 refine wpAny_bind (wpAny_letGo (wpAny_pure ?_))
 refine wpAny_bind (wpAny_bind (wpAny_onRaise ?_))
 show wpAny _ _ (Builtin.SmallTypes.nextOf (.ref i3) >>= _) _ _ _
 refine wpAny_bind (wpAny_nextOf_list_item (((((h3.extBut aB.extBut D.z_i3.symm).extBut bQ.extBut D.i1_i3.symm).extBut dG.extBut D.TO_i3.symm).extBut hK.extBut D.i2_i3.symm).extBut jW.extBut D.TO_i3.symm)
  (((((hl3.extBut aB.extBut D.l3_z).extBut bQ.extBut D.l3_i1).extBut dG.extBut D.l3_TO).extBut hK.extBut D.l3_i2).extBut jW.extBut D.l3_TO) hu fun K0 p3 LG => wpAny_pure ?_)
 have t0 : kH K0 TO x y c := LG.extBut _ _ D.TO_i3 XG
 refine wpAny_bind (wpAny_seqItems t0 rfl ?_)
 refine wpAny_bind (F_ t0 fun qN TK LH => ?_)
 replace TK : kH qN TO x y u := TK
 refine wpAny_bind (wpAny_letGo (wpAny_pure (wpAny_pure ?_)))
 refine wpAny_bind (wpAny_seqItems TK rfl ?_)
 refine wpAny_bind (wpAny_newTuple ?_)
 have hsz : qN.objs.size = s.heap.objs.size := by rw [LH.1, LG.1, jW.1, hK.1, dG.1, bQ.1, aB.1]
 have keep : ∀ c o, A0 z TO i1 i2 i3 c -> s.heap.get? c = some o -> qN.get? c = some o := fun c o hc e =>
  LH.extBut _ _ hc.2.1 (LG.extBut _ _ hc.2.2.2.2 (jW.extBut _ _ hc.2.1 (hK.extBut _ _ hc.2.2.2.1 (dG.extBut _ _ hc.2.1 (bQ.extBut _ _ hc.2.2.1 (aB.extBut _ _ hc.1 e))))))
 have t6 : o_ qN z TI TO .ellipsis := LH.extBut _ _ D.z_TO (LG.extBut _ _ D.z_i3 (jW.extBut _ _ D.z_TO (hK.extBut _ _ D.z_i2 (dG.extBut _ _ D.z_TO (bQ.extBut _ _ D.z_i1 oG)))))
 have q1 : qN.IsListIter i1 l1 (k + 1) := ((((p1.extBut dG.extBut D.TO_i1.symm).extBut hK.extBut D.i1_i2).extBut jW.extBut D.TO_i1.symm).extBut LG.extBut D.i1_i3).extBut LH.extBut D.TO_i1.symm
 have q2 : qN.IsListIter i2 l2 (k + 1) := ((p2.extBut jW.extBut D.TO_i2.symm).extBut LG.extBut D.i2_i3).extBut LH.extBut D.TO_i2.symm
 have q3 : qN.IsListIter i3 l3 (k + 1) := p3.extBut LH.extBut D.TO_i3.symm
 have zlt : z < qN.objs.size := Heap.lt_size t6
 show wpAny _ _ (Builtin.SmallTypes.ownedTupleHandOut (.ref z) (.ref qN.objs.size) >>= _) _ _ _
 refine wpAny_bind ?_
 unfold Builtin.SmallTypes.ownedTupleHandOut
 have K1 : o_ (qN.push { cls := .type "tuple", data := .seq #[x, y, u] }) z TI TO .ellipsis := Heap.get?_push_of_some _ t6
 refine wpAny_bind (wpAny_setField_rec K1 (by simp) fun K2 XH t7 => ?_)
 replace XH : o_ K2 z TI TO (rawInt qN.objs.size) := XH
 refine wpAny_setField_rec XH (by simp) fun g' z' s' => ?_
 replace z' : o_ g' z TI TO (rawInt qN.objs.size) := z'
 have up : ∀ c o, c ≠ z -> qN.get? c = some o -> g'.get? c = some o := fun c o c1 e => s'.extBut _ _ c1 (t7.extBut _ _ c1 (Heap.get?_push_of_some _ e))
 have hT' : kH g' qN.objs.size x y u := s'.extBut _ _ (Nat.ne_of_gt zlt) (t7.extBut _ _ (Nat.ne_of_gt zlt) (Heap.get?_push_size _ rfl))
 rw [hsz] at z' hT'
 refine wpAny_pure ⟨_, rfl, ?_⟩
 show Q (.ref qN.objs.size) _
 rw [hsz]
 exact hQ g' z' (up _ _ D.z_TO.symm TK) (q1.at fun o e => up _ o D.z_i1.symm e) (q2.at fun o e => up _ o D.z_i2.symm e) (q3.at fun o e => up _ o D.z_i3.symm e) hT' fun c o hc e => up c o hc.1 (keep c o hc e)
theorem OB {k : Nat} {xs : Array Value} {a b c : Value} {Q : Fin -> Shared -> Prop} (hh : A.handled = none) (D : Z3 z TI TO i1 i2 i3 l1 l2 l3)
  (hz : o_ s.heap z TI TO .none) (hTI : kH s.heap TI (.ref i1) (.ref i2) (.ref i3)) (h1 : s.heap.IsListIter i1 l1 k) (hl1 : s.heap.IsList l1 xs) (hx : xs[k]? = none)
  (hE : ∀ h' e, (∀ c o, c ≠ z -> c ≠ i1 -> s.heap.get? c = some o -> h'.get? c = some o) -> (∃ o, h'.get? e = some o /\ o.cls = .type "StopIteration") -> E (.ref e) { s with heap := h' }) :
  wpAny (model prog w) A (Builtin.«zip.__next__» ⟨[.ref z], []⟩) Q E s := by
 show wpAny _ _ (field (.ref z) 2 >>= _) _ _ _
 refine wpAny_bind (wpAny_field hz rfl (x := .bool false) rfl ?_)
 show wpAny _ _ (field (.ref z) 3 >>= _) _ _ _
 refine wpAny_bind (wpAny_field hz rfl (x := .ref TI) rfl ?_)
 refine wpAny_bind (wpAny_seqItems hTI rfl ?_)
 show wpAny _ _ (Builtin.SmallTypes.ownedTupleIsFree (.ref z) >>= _) _ _ _
 refine wpAny_bind ?_
 unfold Builtin.SmallTypes.ownedTupleIsFree
 refine wpAny_bind (wpAny_field hz rfl (x := .none) rfl (wpAny_pure ?_))
 simp only [if_true]
 refine wpAny_bind (wpAny_rule ?_)
 refine wpAny_bind (wpAny_field hz rfl (x := .ref TO) rfl ?_)
 refine wpAny_bind (wpAny_setField_rec hz (by simp) fun tD oG aB => ?_)
 replace oG : o_ tD z TI TO .ellipsis := oG
 refine wpAny_bind ?_
 simp only [List.zipIdx_cons, List.zipIdx_nil, List.forIn_cons, List.forIn_nil]
 refine wpAny_bind (wpAny_bind (wpAny_onRaise ?_))
 show wpAny _ _ (Builtin.SmallTypes.nextOf (.ref i1) >>= _) _ _ _
 refine wpAny_bind (wpAny_nextOf_list_end hh (h1.extBut aB.extBut D.z_i1.symm) (hl1.extBut aB.extBut D.l1_z) hx fun tE e bQ he => ?_)
 obtain ⟨oe, hoe, hce⟩ := he
 have PQ : o_ tE z TI TO .ellipsis := bQ _ _ D.z_i1 oG
 have hez : e ≠ z := fun x => by subst x; rw [PQ] at hoe; cases hoe; simp at hce
 exact wpAny_setField_rec PQ (by simp) fun PP zz dG => hE PP e (fun c o c1 c2 x => dG.extBut _ _ c1 (bQ _ _ c2 (aB.extBut _ _ c1 x))) ⟨oe, dG.extBut _ _ hez hoe, hce⟩
theorem KV {k : Nat} {xs ys us : Array Value} {x y u a b c : Value} {Q : Option Value -> Shared -> Prop} (D : Z3 z TI TO i1 i2 i3 l1 l2 l3)
  (hz : o_ s.heap z TI TO .none) (hTI : kH s.heap TI (.ref i1) (.ref i2) (.ref i3)) (hTO : kH s.heap TO a b c)
  (h1 : s.heap.IsListIter i1 l1 k) (h2 : s.heap.IsListIter i2 l2 k) (h3 : s.heap.IsListIter i3 l3 k) (hl1 : s.heap.IsList l1 xs) (hl2 : s.heap.IsList l2 ys) (hl3 : s.heap.IsList l3 us) (hx : xs[k]? = some x) (hy : ys[k]? = some y) (hu : us[k]? = some u)
  (hQ : ∀ h', o_ h' z TI TO (rawInt s.heap.objs.size) -> kH h' TO x y u -> h'.IsListIter i1 l1 (k + 1) -> h'.IsListIter i2 l2 (k + 1) -> h'.IsListIter i3 l3 (k + 1) -> kH h' s.heap.objs.size x y u ->
   (∀ c o, A0 z TO i1 i2 i3 c -> s.heap.get? c = some o -> h'.get? c = some o) -> Q (some (.ref s.heap.objs.size)) { s with heap := h' }) :
  wpAny (model prog w) A (pyNext (.ref z)) Q E s := by
 have hT : s.TypeIs (.ref z) "zip" := ⟨_, hz, rfl⟩
 unfold pyNext
 exact wpAny_bind (wpAny_attempt (wpAny_callSpecial?_slot (name := Str.ofString "__next__") hT F.slot_zip_next
  (wpAny_call_entry F.slot_zip_next hT F.entry_zip_next (KC D hz hTI hTO h1 h2 h3 hl1 hl2 hl3 hx hy hu fun h' a1 a2 a3 a4 a5 a6 a7 => wpAny_pure (hQ h' a1 a2 a3 a4 a5 a6 a7)) (F.args_zip_next_1 _))))
theorem yR {k : Nat} {xs : Array Value} {Q : Option Value -> Shared -> Prop} (hh : A.handled = none) (D : Z3 z TI TO i1 i2 i3 l1 l2 l3)
  (hz : o_ s.heap z TI TO .none) (hTI : kH s.heap TI (.ref i1) (.ref i2) (.ref i3)) (h1 : s.heap.IsListIter i1 l1 k) (hl1 : s.heap.IsList l1 xs) (hx : xs[k]? = none)
  (hQ : ∀ h', (∀ c o, c ≠ z -> c ≠ i1 -> s.heap.get? c = some o -> h'.get? c = some o) -> Q none { s with heap := h' }) : wpAny (model prog w) A (pyNext (.ref z)) Q E s := by
 have hT : s.TypeIs (.ref z) "zip" := ⟨_, hz, rfl⟩
 unfold pyNext
 refine wpAny_bind (wpAny_attempt (wpAny_callSpecial?_slot (name := Str.ofString "__next__") hT F.slot_zip_next
  (wpAny_call_entry F.slot_zip_next hT F.entry_zip_next (OB (a := .none) (b := .none) (c := .none) hh D hz hTI h1 hl1 hx fun h' e hk he => ?_) (F.args_zip_next_1 _))))
 obtain ⟨o, ho, hc⟩ := he
 refine wpAny_bind (wpAny_isInstance (T := "StopIteration") (b := true) ⟨o, ho, hc⟩ isSubtype_stop ?_)
 exact wpAny_pure (hQ _ hk)
end
abbrev LP (h : Heap) (l1 : Addr) : Heap := h.push { cls := .type "list_iterator", data := .fields #[.ref l1, .int 0 0] }
abbrev OW (h : Heap) (l1 l2 : Addr) : Heap := (LP h l1).push { cls := .type "list_iterator", data := .fields #[.ref l2, .int 0 0] }
abbrev MU (h : Heap) (l1 l2 l3 : Addr) : Heap := (OW h l1 l2).push { cls := .type "list_iterator", data := .fields #[.ref l3, .int 0 0] }
abbrev NR (h : Heap) (l1 l2 l3 : Addr) : Heap := (MU h l1 l2 l3).push { cls := .type "tuple", data := .seq #[.ref h.objs.size, .ref (LP h l1).objs.size, .ref (OW h l1 l2).objs.size] }
abbrev OU (h : Heap) (l1 l2 l3 : Addr) : Heap := (NR h l1 l2 l3).push { cls := .type "tuple", data := .seq #[.none, .none, .none] }
abbrev sS (h : Heap) (l1 l2 l3 : Addr) : Heap := (OU h l1 l2 l3).push { cls := .type "zip", data := .fields #[.none, .bool false, .bool false, .ref (MU h l1 l2 l3).objs.size, .ref (NR h l1 l2 l3).objs.size] }
set_option maxHeartbeats 4000000 in
theorem LW (l1 l2 l3 : Addr) (xs ys us : Array Value) :
  Meets (Builtin.«zip.__new__» ⟨[.type "zip", .ref l1, .ref l2, .ref l3], []⟩) (fun zz R s => s.heap.IsList l1 xs /\ s.heap.IsList l2 ys /\ s.heap.IsList l3 us /\
   R (.ok (.ret (.ref (OU s.heap l1 l2 l3).objs.size))) { s with heap := sS s.heap l1 l2 l3 }) :=
 .of_wp fun prog w A R s h => by
  obtain ⟨hp, g, d, tk, os⟩ := s; obtain ⟨hl1, hl2, hl3, h⟩ := h
  have hsub := sub_zip
  have hL1 : Heap.IsList (Shared.heap ⟨hp, g, d, tk, os⟩) l1 xs := hl1
  have hL2 : Heap.IsList (Shared.heap ⟨hp.push { cls := .type "list_iterator", data := .fields #[.ref l1, .int 0 0] }, g, d, tk, os⟩) l2 ys := Heap.IsList.push hl2 _
  have hL3 : Heap.IsList (Shared.heap ⟨(hp.push { cls := .type "list_iterator", data := .fields #[.ref l1, .int 0 0] }).push { cls := .type "list_iterator", data := .fields #[.ref l2, .int 0 0] }, g, d, tk, os⟩) l3 us := Heap.IsList.push (Heap.IsList.push hl3 _) _
  wp_walk using wpAny_pyIter_list hL1, wpAny_pyIter_list hL2, wpAny_pyIter_list hL3
  exact ⟨_, rfl, h⟩
theorem CZ (a b c : Value) : checkTypeCall "zip" ⟨[a, b, c], []⟩ = pure () := by kernel_rfl
theorem FZ (a b c : Value) : checkBuiltinCall "zip.__new__" ⟨[.type "zip", a, b, c], []⟩ = pure () := by kernel_rfl
theorem GY (a b c d : Value) : argsOk "object.__init__" ⟨[a, b, c, d], []⟩ := by
 unfold argsOk
 rw [signature?_of (id := "object.__init__") (n := ['_', '_', 't', 'i', 'n', 'i', '_', '_']) (o := ['t', 'c', 'e', 'j', 'b', 'o']) (by ext) F.owner_object]
 kernel_rfl
section
variable {prog : Program} {w : World} {A : Around} {E : Value -> Shared -> Prop} {s : Shared}
theorem RA {l1 l2 l3 : Addr} {xs ys us : Array Value} {Q : Value -> Shared -> Prop} (hl1 : s.heap.IsList l1 xs) (hl2 : s.heap.IsList l2 ys) (hl3 : s.heap.IsList l3 us)
  (h : ∀ h', o_ h' (s.heap.objs.size + 5) (s.heap.objs.size + 3) (s.heap.objs.size + 4) .none -> kH h' (s.heap.objs.size + 3) (.ref s.heap.objs.size) (.ref (s.heap.objs.size + 1)) (.ref (s.heap.objs.size + 2)) ->
   kH h' (s.heap.objs.size + 4) .none .none .none -> h'.IsListIter s.heap.objs.size l1 0 -> h'.IsListIter (s.heap.objs.size + 1) l2 0 -> h'.IsListIter (s.heap.objs.size + 2) l3 0 ->
   (∀ c o, s.heap.get? c = some o -> h'.get? c = some o) -> Q (.ref (s.heap.objs.size + 5)) { s with heap := h' }) :
  wpAny (model prog w) A (call (.type "zip") [.ref l1, .ref l2, .ref l3]) Q E s := by
 refine callType_new F.called_zip (by decide) (CZ _ _ _) (FZ _ _ _) (fun obj => GY obj _ _ _) F.entry_zip_new
  (LW l1 l2 l3 xs ys us) ⟨hl1, hl2, hl3, ?_⟩
 have e1 : (LP s.heap l1).objs.size = s.heap.objs.size + 1 := Heap.size_push ..
 have e2 : (OW s.heap l1 l2).objs.size = s.heap.objs.size + 2 := by rw [Heap.size_push, e1]
 have e3 : (MU s.heap l1 l2 l3).objs.size = s.heap.objs.size + 3 := by rw [Heap.size_push, e2]
 have e4 : (NR s.heap l1 l2 l3).objs.size = s.heap.objs.size + 4 := by rw [Heap.size_push, e3]
 have e5 : (OU s.heap l1 l2 l3).objs.size = s.heap.objs.size + 5 := by rw [Heap.size_push, e4]
 have p6 : ∀ {c o}, (OU s.heap l1 l2 l3).get? c = some o -> (sS s.heap l1 l2 l3).get? c = some o := fun e => Heap.get?_push_of_some _ e
 have p5 : ∀ {c o}, (NR s.heap l1 l2 l3).get? c = some o -> (sS s.heap l1 l2 l3).get? c = some o := fun e => p6 (Heap.get?_push_of_some _ e)
 have p4 : ∀ {c o}, (MU s.heap l1 l2 l3).get? c = some o -> (sS s.heap l1 l2 l3).get? c = some o := fun e => p5 (Heap.get?_push_of_some _ e)
 have p3 : ∀ {c o}, (OW s.heap l1 l2).get? c = some o -> (sS s.heap l1 l2 l3).get? c = some o := fun e => p4 (Heap.get?_push_of_some _ e)
 have p2 : ∀ {c o}, (LP s.heap l1).get? c = some o -> (sS s.heap l1 l2 l3).get? c = some o := fun e => p3 (Heap.get?_push_of_some _ e)
 have p1 : ∀ {c o}, s.heap.get? c = some o -> (sS s.heap l1 l2 l3).get? c = some o := fun e => p2 (Heap.get?_push_of_some _ e)
 have q6 : (sS s.heap l1 l2 l3).get? (OU s.heap l1 l2 l3).objs.size = some _ := Heap.get?_push_size _ rfl
 have q5 : (sS s.heap l1 l2 l3).get? (NR s.heap l1 l2 l3).objs.size = some _ := p6 (Heap.get?_push_size _ rfl)
 have q4 : (sS s.heap l1 l2 l3).get? (MU s.heap l1 l2 l3).objs.size = some _ := p5 (Heap.get?_push_size _ rfl)
 have q3 : (sS s.heap l1 l2 l3).get? (OW s.heap l1 l2).objs.size = some _ := p4 (Heap.get?_push_size _ rfl)
 have q2 : (sS s.heap l1 l2 l3).get? (LP s.heap l1).objs.size = some _ := p3 (Heap.get?_push_size _ rfl)
 have q1 : (sS s.heap l1 l2 l3).get? s.heap.objs.size = some _ := p2 (Heap.get?_push_size _ rfl)
 show _ /\ _
 rw [e3, e4, e5] at q6
 rw [e4] at q5
 rw [e1, e2, e3] at q4
 rw [e2] at q3
 rw [e1] at q2
 rw [e5]
 exact ⟨⟨_, q6, rfl⟩, h _ q6 q4 q5 ⟨_, q1, rfl, rfl⟩ ⟨_, q2, rfl, rfl⟩ ⟨_, q3, rfl, rfl⟩ fun c o x => p1 x⟩
theorem QK (hh : A.handled = none) (z TI TO i1 i2 i3 l1 l2 l3 : Addr) (D : Z3 z TI TO i1 i2 i3 l1 l2 l3) (xs ys us : Array Value) (n : Nat) (hx : xs.size = n) (hy : ys.size = n) (hu : us.size = n) :
  WalksT prog w A z [z, TI, TO, i1, i2, i3, l1, l2, l3] [z, TO, i1, i2, i3] n
   (fun i vals => ∃ x y u, xs[i]? = some x /\ ys[i]? = some y /\ us[i]? = some u /\ vals = #[x, y, u])
   (fun i h => o_ h z TI TO .none /\ kH h TI (.ref i1) (.ref i2) (.ref i3) /\ (∃ a b c, kH h TO a b c) /\ h.IsListIter i1 l1 i /\ h.IsListIter i2 l2 i /\ h.IsListIter i3 l3 i /\ h.IsList l1 xs /\ h.IsList l2 ys /\ h.IsList l3 us)
   (fun i T h => o_ h z TI TO (rawInt T) /\ kH h TI (.ref i1) (.ref i2) (.ref i3) /\ (∃ a b c, kH h TO a b c) /\ h.IsListIter i1 l1 (i + 1) /\ h.IsListIter i2 l2 (i + 1) /\ h.IsListIter i3 l3 (i + 1) /\ h.IsList l1 xs /\ h.IsList l2 ys /\ h.IsList l3 us /\
    T ∉ [z, TO, i1, i2, i3]) where
 sub := fun c hc => by simp at hc |-; rcases hc with rfl | rfl | rfl | rfl | rfl <;> simp
 frame := fun i h h' hst hk => by
  obtain ⟨hz, hTI, ⟨a, b, c, hTO⟩, h1, h2, h3, hl1, hl2, hl3⟩ := hst
  exact ⟨hk z (by simp) _ hz, hk TI (by simp) _ hTI, ⟨a, b, c, hk TO (by simp) _ hTO⟩, h1.at fun o e => hk i1 (by simp) o e, h2.at fun o e => hk i2 (by simp) o e, h3.at fun o e => hk i3 (by simp) o e,
   hl1.at fun o e => hk l1 (by simp) o e, hl2.at fun o e => hk l2 (by simp) o e, hl3.at fun o e => hk l3 (by simp) o e⟩
 item := fun i s Q E hi hst hQ => by
  obtain ⟨hz, hTI, ⟨a, b, c, hTO⟩, h1, h2, h3, hl1, hl2, hl3⟩ := hst
  have ix : i < xs.size := by omega
  have iy : i < ys.size := by omega
  have iu : i < us.size := by omega
  refine KV D hz hTI hTO h1 h2 h3 hl1 hl2 hl3 (Array.getElem?_eq_getElem ix) (Array.getElem?_eq_getElem iy) (Array.getElem?_eq_getElem iu) fun h' a1 a2 a3 a4 a5 a6 hk => ?_
  have lt : ∀ {c o}, s.heap.get? c = some o -> s.heap.objs.size ≠ c := fun e => Nat.ne_of_gt (Heap.lt_size e)
  have o1 := lt hz
  have o2 := lt hTO
  have o3 : s.heap.objs.size ≠ i1 := by obtain ⟨_, e, _⟩ := h1; exact lt e
  have o4 : s.heap.objs.size ≠ i2 := by obtain ⟨_, e, _⟩ := h2; exact lt e
  have o5 : s.heap.objs.size ≠ i3 := by obtain ⟨_, e, _⟩ := h3; exact lt e
  exact hQ s.heap.objs.size #[xs[i], ys[i], us[i]] h' s.toks ⟨_, _, _, Array.getElem?_eq_getElem ix, Array.getElem?_eq_getElem iy, Array.getElem?_eq_getElem iu, rfl⟩ (Nat.le_refl _) ⟨_, a6, rfl, _, rfl⟩
   ⟨a1, hk _ _ ⟨D.z_TI.symm, D.TI_TO, D.TI_i1, D.TI_i2, D.TI_i3⟩ hTI, ⟨_, _, _, a2⟩, a3, a4, a5, hl1.at fun o e => hk _ o ⟨D.l1_z, D.l1_TO, D.l1_i1, D.l1_i2, D.l1_i3⟩ e, hl2.at fun o e => hk _ o ⟨D.l2_z, D.l2_TO, D.l2_i1, D.l2_i2, D.l2_i3⟩ e, hl3.at fun o e => hk _ o ⟨D.l3_z, D.l3_TO, D.l3_i1, D.l3_i2, D.l3_i3⟩ e,
    by simp [o1, o2, o3, o4, o5]⟩
   fun c o hc e => hk c o ⟨fun x => hc (by simp [x]), fun x => hc (by simp [x]), fun x => hc (by simp [x]), fun x => hc (by simp [x]), fun x => hc (by simp [x])⟩ e
 go := fun elts k pos i T s Q E hm hQ => by
  obtain ⟨hz, hTI, ⟨a, b, c, hTO⟩, h1, h2, h3, hl1, hl2, hl3, _⟩ := hm
  refine wpAny_letOwnedTupleGo_zip hz fun h' hz' hs' => hQ h' ⟨hz', hs'.extBut _ _ D.z_TI.symm hTI, ⟨a, b, c, hs'.extBut _ _ D.z_TO.symm hTO⟩, h1.extBut hs'.extBut D.z_i1.symm, h2.extBut hs'.extBut D.z_i2.symm, h3.extBut hs'.extBut D.z_i3.symm,
   hl1.extBut hs'.extBut D.l1_z, hl2.extBut hs'.extBut D.l2_z, hl3.extBut hs'.extBut D.l3_z⟩ fun c o hc e => hs'.extBut _ _ (fun x => hc (by simp [x])) e
 apart := fun i T h hm => hm.2.2.2.2.2.2.2.2.2
 done := fun s Q E hst hQ => by
  obtain ⟨hz, hTI, ⟨a, b, c, hTO⟩, h1, h2, h3, hl1, hl2, hl3⟩ := hst
  exact yR hh D hz hTI h1 hl1 (Array.getElem?_eq_none (by omega)) fun h' hk => hQ h' s.toks fun c o hc e =>
   hk c o (fun x => hc (by simp [x])) (fun x => hc (by simp [x])) e
 self := fun i s Q E hst hQ => wpAny_pyIter_zip hst.1 hQ
theorem OQ {z TI TO i1 i2 l1 : Addr} {k : Nat} {xs : Array Value} {Q : Fin -> Shared -> Prop} (hh : A.handled = none) (d1 : i1 ≠ z) (d2 : l1 ≠ z)
  (hz : IsZip s.heap z TI TO .none) (hTI : IsPair s.heap TI (.ref i1) (.ref i2)) (h1 : s.heap.IsListIter i1 l1 k) (hl1 : s.heap.IsList l1 xs) (hx : xs[k]? = none)
  (hE : ∀ h' e, (∀ c o, c ≠ z -> c ≠ i1 -> s.heap.get? c = some o -> h'.get? c = some o) -> (∃ o, h'.get? e = some o /\ o.cls = .type "StopIteration") -> E (.ref e) { s with heap := h' }) :
  wpAny (model prog w) A (Builtin.«zip.__next__» ⟨[.ref z], []⟩) Q E s := by
 show wpAny _ _ (field (.ref z) 2 >>= _) _ _ _
 refine wpAny_bind (wpAny_field hz rfl (x := .bool false) rfl ?_)
 show wpAny _ _ (field (.ref z) 3 >>= _) _ _ _
 refine wpAny_bind (wpAny_field hz rfl (x := .ref TI) rfl ?_)
 refine wpAny_bind (wpAny_seqItems hTI rfl ?_)
 show wpAny _ _ (Builtin.SmallTypes.ownedTupleIsFree (.ref z) >>= _) _ _ _
 refine wpAny_bind ?_
 unfold Builtin.SmallTypes.ownedTupleIsFree
 refine wpAny_bind (wpAny_field hz rfl (x := .none) rfl (wpAny_pure ?_))
 simp only [if_true]
 refine wpAny_bind (wpAny_rule ?_)
 refine wpAny_bind (wpAny_field hz rfl (x := .ref TO) rfl ?_)
 refine wpAny_bind (wpAny_setField_rec hz (by simp) fun tD oG aB => ?_)
 replace oG : IsZip tD z TI TO .ellipsis := oG
 refine wpAny_bind ?_
 simp only [List.zipIdx_cons, List.zipIdx_nil, List.forIn_cons, List.forIn_nil]
 refine wpAny_bind (wpAny_bind (wpAny_onRaise ?_))
 show wpAny _ _ (Builtin.SmallTypes.nextOf (.ref i1) >>= _) _ _ _
 refine wpAny_bind (wpAny_nextOf_list_end hh (h1.extBut aB.extBut d1) (hl1.extBut aB.extBut d2) hx fun tE e bQ he => ?_)
 obtain ⟨oe, hoe, hce⟩ := he
 have PQ : IsZip tE z TI TO .ellipsis := bQ _ _ d1.symm oG
 have hez : e ≠ z := fun x => by subst x; rw [PQ] at hoe; cases hoe; simp at hce
 exact wpAny_setField_rec PQ (by simp) fun PP zz dG => hE PP e (fun c o c1 c2 x => dG.extBut _ _ c1 (bQ _ _ c2 (aB.extBut _ _ c1 x))) ⟨oe, dG.extBut _ _ hez hoe, hce⟩
theorem LC {z TI TO i1 i2 l1 : Addr} {k : Nat} {xs : Array Value} {Q : Option Value -> Shared -> Prop} (hh : A.handled = none) (d1 : i1 ≠ z) (d2 : l1 ≠ z)
  (hz : IsZip s.heap z TI TO .none) (hTI : IsPair s.heap TI (.ref i1) (.ref i2)) (h1 : s.heap.IsListIter i1 l1 k) (hl1 : s.heap.IsList l1 xs) (hx : xs[k]? = none)
  (hQ : ∀ h', (∀ c o, c ≠ z -> c ≠ i1 -> s.heap.get? c = some o -> h'.get? c = some o) -> Q none { s with heap := h' }) : wpAny (model prog w) A (pyNext (.ref z)) Q E s := by
 have hT : s.TypeIs (.ref z) "zip" := ⟨_, hz, rfl⟩
 unfold pyNext
 refine wpAny_bind (wpAny_attempt (wpAny_callSpecial?_slot (name := Str.ofString "__next__") hT F.slot_zip_next
  (wpAny_call_entry F.slot_zip_next hT F.entry_zip_next (OQ hh d1 d2 hz hTI h1 hl1 hx fun h' e hk he => ?_) (F.args_zip_next_1 _))))
 obtain ⟨o, ho, hc⟩ := he
 refine wpAny_bind (wpAny_isInstance (T := "StopIteration") (b := true) ⟨o, ho, hc⟩ isSubtype_stop ?_)
 exact wpAny_pure (hQ _ hk)
end
noncomputable def DX : List AV -> dM kN := fun args hp => PV args fun x y => bL hp x fun r xs k => bL hp y fun q ys k' => bG (xs.length = ys.length) (some (⟨[(r, (.list xs, k)), (q, (.list ys, k')), (hp.length, (.junk, 0))], (xs.zip ys).map fun p => .tup [p.1, p.2]⟩, hp ++ [(.junk, 0)]))
noncomputable def LU (m : AM (List AV)) : AM kN := do
 let vs <- m
 fB (DX vs)
noncomputable def L8 {β : Type} (l : List AV) (f : AV -> AV -> AV -> Option β) : Option β := l.casesOn none fun a t => PV t (f a)
theorem M5 {G : a_} {μ : List Addr} {β : Type} {hh : Heap} {args : List AV} {vs : List Value} {f : AV -> AV -> AV -> Option β} {b : β} (rs : dX G μ hh args vs) (hm : L8 args f = some b) {P : List Value -> Prop} (k : ∀ x y z w u t, VR G μ hh x w -> VR G μ hh y u -> VR G μ hh z t -> f x y z = some b -> P [w, u, t]) : P vs := by
 cases rs with
 | nil => cases hm
 | cons r rs => exact TP (P := fun l => P (_ :: l)) rs hm fun y z u t r' r'' hm => k _ _ _ _ _ _ r r' r'' hm
noncomputable def DD : List AV -> dM kN := fun args hp => L8 args fun x y z => bL hp x fun r xs k => bL hp y fun q ys k' => bL hp z fun t us k'' => bG (xs.length = ys.length /\ xs.length = us.length) (some (⟨[(r, (.list xs, k)), (q, (.list ys, k')), (t, (.list us, k'')), (hp.length, (.junk, 0))], (xs.zip (ys.zip us)).map fun p => .tup [p.1, p.2.1, p.2.2]⟩, hp ++ [(.junk, 0)]))
noncomputable def NB (m : AM (List AV)) : AM kN := do
 let vs <- m
 fB (DD vs)
section
variable {G : a_} {sc : SC} {d : Nat}
theorem jD.withJk {A : Around} {tgt : Expr} {I : Addr} {fp wr jk : List Addr} {n : Nat} {P : Nat -> Value -> Heap -> Heap -> Prop} {St : Nat -> Heap -> Prop} (W : jD G A tgt I fp wr [] n P St)
  (hd : ∀ (s : Shared) (Q : Option Value -> Shared -> Prop) (E : Value -> Shared -> Prop), St n s.heap -> (∀ h' tk, (∀ b o, b ∉ wr -> s.heap.get? b = some o -> h'.get? b = some o) -> (∀ b ∈ jk, ∃ o, h'.get? b = some o) -> Q none { s with heap := h', toks := tk }) -> wpAny G.M A (pyNext (.ref I)) Q E s) : jD G A tgt I fp wr jk n P St :=
 ⟨W.sub, W.frame, W.item, hd, W.self⟩
theorem ZJ {N i j : Nat} (h : i ≠ j) : @Ne Addr (N + i) (N + j) := fun e => h (Nat.add_left_cancel e)
theorem a9 {N i : Nat} (h : 0 < i) : @Ne Addr (N + i) N := Nat.ne_of_gt (Nat.lt_add_of_pos_right h)
theorem j5 {N i : Nat} (h : 0 < i) : @Ne Addr N (N + i) := Nat.ne_of_lt (Nat.lt_add_of_pos_right h)
theorem JZ {a N : Nat} (i : Nat) (h : a < N) : @Ne Addr a (N + i) := Nat.ne_of_lt (Nat.lt_of_lt_of_le h (Nat.le_add_right _ _))
theorem NS {a N : Nat} (i : Nat) (h : a < N) : @Ne Addr (N + i) a := (JZ i h).symm
theorem DB {α : Type} {w1 w : List α} {n : Nat} (h : w1.length = n) {i : Nat} {y : α} (e : w1.toArray[i]? = some y) : i < n /\ (w1 ++ w)[i]? = some y := by
 have e' : w1[i]? = some y := by simpa using e
 have h1 := (List.getElem?_eq_some_iff.mp e').1
 exact ⟨h ▸ h1, (getElem?_append_left h1).trans e'⟩
theorem IO {α : Type} {w1 w : List α} {i : Nat} {y : α} (e : w[i]? = some y) : (w1 ++ w)[w1.length + i]? = some y := by
 rw [getElem?_append_right (Nat.le_add_right _ _), Nat.add_sub_cancel_left]; exact e
theorem GJ {ys y : List AV} {i : Nat} {z : AV} (hi : i < ys.length) (e : (ys ++ y)[i]? = some z) : ys[i]? = some z := (getElem?_append_left hi).symm.trans e
theorem zN {ys y : List AV} {n i : Nat} {z : AV} (h : ys.length = n) (e : (ys ++ y)[n + i]? = some z) : y[i]? = some z := by
 rw [<- h, getElem?_append_right (Nat.le_add_right _ _), Nat.add_sub_cancel_left] at e; exact e
theorem WI {G : a_} {μ : List Addr} {h : Heap} {ys ys' : List AV} {w1 w2 : List Value} {i : Nat} {y1 y2 : Value} (k : dX G μ h (ys ++ ys') (w1 ++ w2)) (l1 : ys.length = w1.length) (l2 : ys'.length = w2.length)
  (e1 : w1.toArray[i]? = some y1) (e2 : w2.toArray[i]? = some y2) : ∃ z1 z2, (ys.zip ys')[i]? = some (z1, z2) /\ VR G μ h z1 y1 /\ VR G μ h z2 y2 := by
 obtain ⟨i1, b1⟩ := DB (w := w2) l1.symm e1
 obtain ⟨i2, b2⟩ := DB (w := []) l2.symm e2
 rw [append_nil] at b2
 obtain ⟨z1, hz1, r1⟩ := k.get' b1
 obtain ⟨z2, hz2, r2⟩ := k.get' (IO b2)
 exact ⟨z1, z2, List.getElem?_zip_eq_some.mpr ⟨GJ i1 hz1, zN l1 hz2⟩, r1, r2⟩
theorem WW {G : a_} {μ : List Addr} {h : Heap} {ys ys' ys'' : List AV} {w1 w2 w3 : List Value} {i : Nat} {y1 y2 y3 : Value} (k : dX G μ h (ys ++ (ys' ++ ys'')) (w1 ++ (w2 ++ w3))) (l1 : ys.length = w1.length) (l2 : ys'.length = w2.length) (l3 : ys''.length = w3.length)
  (e1 : w1.toArray[i]? = some y1) (e2 : w2.toArray[i]? = some y2) (e3 : w3.toArray[i]? = some y3) : ∃ z1 z2 z3, (ys.zip (ys'.zip ys''))[i]? = some (z1, (z2, z3)) /\ VR G μ h z1 y1 /\ VR G μ h z2 y2 /\ VR G μ h z3 y3 := by
 obtain ⟨i1, b1⟩ := DB (w := w2 ++ w3) l1.symm e1
 obtain ⟨i2, b2⟩ := DB (w := w3) l2.symm e2
 obtain ⟨i3, b3⟩ := DB (w := []) l3.symm e3
 rw [append_nil] at b3
 obtain ⟨z1, hz1, r1⟩ := k.get' b1
 obtain ⟨z2, hz2, r2⟩ := k.get' (IO b2)
 obtain ⟨z3, hz3, r3⟩ := k.get' (IO (IO b3))
 exact ⟨z1, z2, z3, List.getElem?_zip_eq_some.mpr ⟨GJ i1 hz1, List.getElem?_zip_eq_some.mpr ⟨GJ i2 (zN l1 hz2), zN l2 (zN l1 hz3)⟩⟩, r1, r2, r3⟩
theorem pJ {α : Type} {P : α -> Prop} : ∀ b ∈ ([] : List α), P b := fun zz h => absurd h not_mem_nil
theorem cK {α : Type} {P : α -> Prop} {x : α} {l : List α} (h : P x) (t : ∀ b ∈ l, P b) : ∀ b ∈ x :: l, P b := List.forall_mem_cons.mpr ⟨h, t⟩
theorem JK {x : String} {p pos tp : Pos} {m : AM (List AV)} {es ts : List Expr} {kk : Nat} (gk : GOk G) (hx : sc.scope.names.lookup (Str.ofString x) = some .globalImplicit) (hw : cZ G x (.type "zip"))
  (SA : bX G sc true d m es) (hdb : autoParam ((Str.ofString x == ("__debug__" : PySem.Str)) = false) aR) : nB G sc d (.Tuple ts kk tp) (NB m) (.Call (.Name (Str.ofString x) p) es [] pos) := by
 intro A fr env own μ st s ai st' hA I hm Q E h
 obtain ⟨vs, st₁, h1, h2⟩ := aF hm
 obtain ⟨hp', hv, rfl⟩ := cR h2
 refine mF gk hx hw cY SA hA I h1 (fun ws aB aD aT aJ bH => ?_) hdb
 have hh := hA.hnd rfl
 apply M5 bH hv; intro vx vy vz wx wy wz bH dE iY hv
 apply tM aJ.h bH hv; intro r ys k a w1 n1 hr ha g1 v1 hv
 apply tM aJ.h dE hv; intro q ys' k' b w2 n2 hq hb g2 v2 hv
 apply tM aJ.h iY hv; intro t ys'' k'' c w3 n3 ht hc g3 v3 hv
 refine bA hv fun hlen hv => ?_
 cases hv
 have L1 : aB.heap.IsList a w1.toArray := ⟨_, g1, rfl, n1, rfl⟩
 have L2 : aB.heap.IsList b w2.toArray := ⟨_, g2, rfl, n2, rfl⟩
 have L3 : aB.heap.IsList c w3.toArray := ⟨_, g3, rfl, n3, rfl⟩
 refine RA L1 L2 L3 fun h' hZ hTI hTO it1 it2 it3 hkp => ?_
 refine wpAny_pyIter_zip hZ ?_
 obtain ⟨N, hN⟩ : ∃ N : Nat, aB.heap.objs.size = N := ⟨_, rfl⟩
 have la : @LT.lt Nat instLTNat a N := hN ▸ Heap.lt_size g1
 have lb : @LT.lt Nat instLTNat b N := hN ▸ Heap.lt_size g2
 have lc : @LT.lt Nat instLTNat c N := hN ▸ Heap.lt_size g3
 have fresh : ∀ j : Nat, mC G aD aB (N + j) := fun j => hN ▸ aJ.h.fresh (Heap.get?_none_of_le (Nat.le_add_right _ _))
 rw [hN] at hZ hTI hTO it1 it2 it3 |-
 have gr := aJ.h.alloc (h' := h') (tk := aB.toks) (x := .junk) hkp (fresh 4).n hTO (.junk rfl)
 have D : Z3 (N + 5) (N + 3) (N + 4) N (N + 1) (N + 2) a b c := by
  constructor <;> first | exact ZJ (by decide) | exact a9 (by decide) | exact j5 (by decide) | exact JZ _ la | exact NS _ la | exact Nat.ne_of_lt la | exact Nat.ne_of_gt la | exact JZ _ lb | exact NS _ lb | exact Nat.ne_of_lt lb | exact Nat.ne_of_gt lb | exact JZ _ lc | exact NS _ lc | exact Nat.ne_of_lt lc | exact Nat.ne_of_gt lc
 have W := QK (prog := G.prog) (w := G.w) hh _ _ _ _ _ _ _ _ _ D w1.toArray w2.toArray w3.toArray ys.length (by simp [v1.length]) (by simp [<- v2.length, hlen.1]) (by simp [<- v3.length, hlen.2])
 have hsz : ((ys.zip (ys'.zip ys'')).map fun p => AV.tup [p.1, p.2.1, p.2.2]).length = ys.length := by simp; omega
 have WG := (jD.ofWalksT (es := ts) (kk := kk) (pos := tp) W).withJk (jk := [N + 4]) fun s Q E st hQ => by
  obtain ⟨q1, q2, ⟨a', b', c', q3⟩, q4, q5, q6, q7, q8, q9⟩ := st
  refine yR hh D q1 q2 q4 q7 (Array.getElem?_eq_none (by simp [v1.length])) fun h' hk => hQ h' s.toks (fun c o hc e => hk c o (fun x => hc (by simp [x])) (fun x => hc (by simp [x])) e) fun b hb => ?_
  rw [mem_singleton.mp hb]
  exact ⟨_, hk _ _ D.z_TO.symm D.TO_i1 q3⟩
 rw [<- hsz] at WG
 have F0 : mC G aD aB N := fresh 0
 have hlast : (aD ++ [N + 4])[st₁.hp.length]? = some (N + 4) := by rw [<- aJ.h.len]; simp
 have nin : ∀ j : Nat, j ≠ 4 -> N + j ∉ aD ++ [N + 4] := fun j hj hm => by
  rcases mem_append.mp hm with hm | hm
  ·exact (fresh j).μ hm
  ·have : (N + j : Nat) = N + 4 := mem_singleton.mp hm
   omega
 have up : ∀ {n : Nat} {c : Addr}, aD[n]? = some c -> (aD ++ [N + 4])[n]? = some c := fun {n c} e => by
  rw [getElem?_append_left (List.getElem?_eq_some_iff.mp e).1]; exact e
 have hupg : ∀ {n : Nat} {x : aI × Nat}, st₁.hp[n]? = some x -> (st₁.hp ++ [(aI.junk, 0)])[n]? = some x := fun {n x} e => by
  rw [getElem?_append_left (List.getElem?_eq_some_iff.mp e).1]; exact e
 have jm : (st₁.hp.length, ((.junk : aI), 0)) ∈ [(r, (.list ys, k)), (q, (.list ys', k')), (t, (.list ys'', k'')), (st₁.hp.length, ((.junk : aI), 0))] := mem_cons_of_mem _ (mem_cons_of_mem _ (mem_cons_of_mem _ mem_cons_self))
 refine h _ _ (aD ++ [N + 4]) _ _ [N + 4] _ _ (ys ++ (ys' ++ ys'')) (w1 ++ (w2 ++ w3)) (aT.trans I.h.len gr.2.weaken) (aJ.heap gr.2 gr.1) ⟨WG, ⟨hZ, hTI, ⟨_, _, _, hTO⟩, it1, it2, it3, L1.at fun o e => hkp _ o e, L2.at fun o e => hkp _ o e, L3.at fun o e => hkp _ o e⟩, ?_, ?_, ?_, fun i fZ hs => ?_, fun b' hb' ⟨g, hg, hg2, q⟩ => ?_, fun b' hb' => by rw [mem_singleton.mp hb']; exact mem_cons_of_mem _ mem_cons_self, ?_, fun i v fZ PJ bM hi hP hvs hal => ?_⟩
 ·exact cK (hupg hr) (cK (hupg hq) (cK (hupg ht) (cK (List.getElem?_concat_length) pJ)))
 ·obtain ⟨_, p1, _, p2⟩ := it1
  obtain ⟨_, p3, _, p4⟩ := it2
  obtain ⟨_, p5, _, p6⟩ := it3
  exact cK (.inr ⟨nin 5 (by decide), _, hZ, .inl (cH rfl)⟩) (cK (.inr ⟨nin 3 (by decide), _, hTI, .inl fun k => k.noTup rfl ⟨_, _, rfl⟩⟩) (cK (.inl ⟨_, jm, hlast⟩)
   (cK (.inr ⟨nin 0 (by decide), _, p1, .inl (cH p2)⟩) (cK (.inr ⟨nin 1 (by decide), _, p3, .inl (cH p4)⟩) (cK (.inr ⟨nin 2 (by decide), _, p5, .inl (cH p6)⟩)
   (cK (.inl ⟨_, mem_cons_self, up ha⟩) (cK (.inl ⟨_, mem_cons_of_mem _ mem_cons_self, up hb⟩) (cK (.inl ⟨_, mem_cons_of_mem _ (mem_cons_of_mem _ mem_cons_self), up hc⟩) pJ))))))))
 ·have low : ∀ {c : Addr}, aB.heap.get? c = none -> s.heap.get? c = none := fun {c} hc => by
   cases e : s.heap.get? c with
   | none => rfl
   | some o => obtain ⟨o', e'⟩ := aT.alive _ _ e; rw [hc] at e'; cases e'
  exact cK ⟨low (fresh 5).n, (fresh 5).low, .inr (nin 5 (by decide))⟩ (cK ⟨low (fresh 4).n, (fresh 4).low, .inl ⟨_, jm, rfl, hlast⟩⟩ (cK ⟨low F0.n, F0.low, .inr (nin 0 (by decide))⟩
   (cK ⟨low (fresh 1).n, (fresh 1).low, .inr (nin 1 (by decide))⟩ (cK ⟨low (fresh 2).n, (fresh 2).low, .inr (nin 2 (by decide))⟩ pJ))))
 ·obtain ⟨q1, q2, ⟨a', b', c', q3⟩, ⟨o4, q4, _, q4'⟩, ⟨o5, q5, _, q5'⟩, ⟨o6, q6, _, q6'⟩, q7, q8, q9⟩ := hs
  have k1 : ∀ {x : Addr}, x ≠ N + 4 -> x ∈ [N + 4] -> ∃ o, fZ.get? x = some o := fun n m => absurd (mem_singleton.mp m) n
  exact cK ⟨k1 D.z_TO, .inr ⟨_, _, q1, rfl⟩⟩ (cK ⟨fun zz => ⟨_, q3⟩, .inl ⟨_, jm, rfl, hlast⟩⟩ (cK ⟨k1 D.TO_i1.symm, .inr ⟨_, _, q4, q4'⟩⟩ (cK ⟨k1 D.TO_i2.symm, .inr ⟨_, _, q5, q5'⟩⟩ (cK ⟨k1 D.TO_i3.symm, .inr ⟨_, _, q6, q6'⟩⟩ pJ))))
 ·exact (cK (P := fun g : Nat × (aI × Nat) => g.2 = (aI.junk, 0) -> (aD ++ [N + 4])[g.1]? = some b' -> b' ∈ [N + 4]) (fun e => by cases e) (cK (fun e => by cases e) (cK (fun e => by cases e) (cK (fun zz q => by rw [hlast] at q; cases q; exact mem_cons_self) pJ)))) g hg hg2 q
 ·exact (v1.append (v2.append v3)).ext aJ.h (by intro a ha; cases ha) gr.2
 ·obtain ⟨T, vals, rfl, hT, ⟨o, q1, q2, q3, q4⟩, y1, y2, y3, e1, e2, e3, e4⟩ := hP
  obtain ⟨z1, z2, z3, hz, r1, r2, r3⟩ := WW hvs v1.length v2.length v3.length e1 e2 e3
  refine ⟨.tup [z1, z2, z3], ?_, .tup (vs := [y1, y2, y3]) q1 q2 (by rw [q4, e4]) (fun hm => ?_) (.cons r1 (.cons r2 (.cons r3 .nil)))⟩
  ·rw [getElem?_map, hz]; rfl
  ·obtain ⟨o', ho'⟩ := hal T hm
   rw [hT] at ho'; cases ho'
theorem JO {x : String} {p pos tp : Pos} {m : AM (List AV)} {es ts : List Expr} {kk : Nat} (gk : GOk G) (hx : sc.scope.names.lookup (Str.ofString x) = some .globalImplicit) (hw : cZ G x (.type "zip"))
  (SA : bX G sc true d m es) (hdb : autoParam ((Str.ofString x == ("__debug__" : PySem.Str)) = false) aR) : nB G sc d (.Tuple ts kk tp) (LU m) (.Call (.Name (Str.ofString x) p) es [] pos) := by
 intro A fr env own μ st s ai st' hA I hm Q E h
 obtain ⟨vs, st₁, h1, h2⟩ := aF hm
 obtain ⟨hp', hv, rfl⟩ := cR h2
 refine mF gk hx hw cY SA hA I h1 (fun ws aB aD aT aJ bH => ?_) hdb
 have hh := hA.hnd rfl
 apply TP bH hv; intro vx vy wx wy bH dE hv
 apply tM aJ.h bH hv; intro r ys k a w1 n1 hr ha g1 v1 hv
 apply tM aJ.h dE hv; intro q ys' k' b w2 n2 hq hb g2 v2 hv
 refine bA hv fun hlen hv => ?_
 cases hv
 have L1 : aB.heap.IsList a w1.toArray := ⟨_, g1, rfl, n1, rfl⟩
 have L2 : aB.heap.IsList b w2.toArray := ⟨_, g2, rfl, n2, rfl⟩
 refine call_zip_2 L1 L2 fun h' hZ hTI hTO it1 it2 zz hkp => ?_
 refine wpAny_pyIter_zip hZ ?_
 obtain ⟨N, hN⟩ : ∃ N : Nat, aB.heap.objs.size = N := ⟨_, rfl⟩
 have la : @LT.lt Nat instLTNat a N := hN ▸ Heap.lt_size g1
 have lb : @LT.lt Nat instLTNat b N := hN ▸ Heap.lt_size g2
 have fresh : ∀ j : Nat, mC G aD aB (N + j) := fun j => hN ▸ aJ.h.fresh (Heap.get?_none_of_le (Nat.le_add_right _ _))
 rw [hN] at hZ hTI hTO it1 it2 |-
 have gr := aJ.h.alloc (h' := h') (tk := aB.toks) (x := .junk) hkp (fresh 3).n hTO (.junk rfl)
 have D : ZipApart (N + 4) (N + 2) (N + 3) N (N + 1) a b := by
  constructor <;> first | exact ZJ (by decide) | exact a9 (by decide) | exact j5 (by decide) | exact JZ _ la | exact NS _ la | exact Nat.ne_of_lt la | exact Nat.ne_of_gt la | exact JZ _ lb | exact NS _ lb | exact Nat.ne_of_lt lb | exact Nat.ne_of_gt lb
 have hmin : min w1.toArray.size w2.toArray.size = ys.length := by simp [<- v1.length, <- v2.length, hlen]
 have W := WalksT.zip2 (prog := G.prog) (w := G.w) hh _ _ _ _ _ _ _ D w1.toArray w2.toArray
 rw [hmin] at W
 have hsz : ((ys.zip ys').map fun p => AV.tup [p.1, p.2]).length = ys.length := by simp; omega
 have WG := (jD.ofWalksT (es := ts) (kk := kk) (pos := tp) W).withJk (jk := [N + 3]) fun s Q E st hQ => by
  obtain ⟨q1, q2, ⟨a', b', q3⟩, q4, q5, q6, q7⟩ := st
  refine LC hh D.i1z D.l1z q1 q2 q4 q6 (Array.getElem?_eq_none (by simp [v1.length])) fun h' hk => hQ h' s.toks (fun c o hc e => hk c o (fun x => hc (by simp [x])) (fun x => hc (by simp [x])) e) fun b hb => ?_
  rw [mem_singleton.mp hb]
  exact ⟨_, hk _ _ D.TOz D.TOi1 q3⟩
 rw [<- hsz] at WG
 have F0 : mC G aD aB N := fresh 0
 have hlast : (aD ++ [N + 3])[st₁.hp.length]? = some (N + 3) := by rw [<- aJ.h.len]; simp
 have nin : ∀ j : Nat, j ≠ 3 -> N + j ∉ aD ++ [N + 3] := fun j hj hm => by
  rcases mem_append.mp hm with hm | hm
  ·exact (fresh j).μ hm
  ·have : (N + j : Nat) = N + 3 := mem_singleton.mp hm
   omega
 have up : ∀ {n : Nat} {c : Addr}, aD[n]? = some c -> (aD ++ [N + 3])[n]? = some c := fun {n c} e => by
  rw [getElem?_append_left (List.getElem?_eq_some_iff.mp e).1]; exact e
 have hupg : ∀ {n : Nat} {x : aI × Nat}, st₁.hp[n]? = some x -> (st₁.hp ++ [(aI.junk, 0)])[n]? = some x := fun {n x} e => by
  rw [getElem?_append_left (List.getElem?_eq_some_iff.mp e).1]; exact e
 have jm : (st₁.hp.length, ((.junk : aI), 0)) ∈ [(r, (.list ys, k)), (q, (.list ys', k')), (st₁.hp.length, ((.junk : aI), 0))] := mem_cons_of_mem _ (mem_cons_of_mem _ mem_cons_self)
 refine h _ _ (aD ++ [N + 3]) _ _ [N + 3] _ _ (ys ++ ys') (w1 ++ w2) (aT.trans I.h.len gr.2.weaken) (aJ.heap gr.2 gr.1) ⟨WG, ⟨hZ, hTI, ⟨_, _, hTO⟩, it1, it2, L1.at fun o e => hkp _ o e, L2.at fun o e => hkp _ o e⟩, ?_, ?_, ?_, fun i fZ hs => ?_, fun b' hb' ⟨g, hg, hg2, q⟩ => ?_, fun b' hb' => by rw [mem_singleton.mp hb']; exact mem_cons_of_mem _ mem_cons_self, ?_, fun i v fZ PJ bM hi hP hvs hal => ?_⟩
 ·exact cK (hupg hr) (cK (hupg hq) (cK (List.getElem?_concat_length) pJ))
 ·obtain ⟨_, p1, _, p2⟩ := it1
  obtain ⟨_, p3, _, p4⟩ := it2
  exact cK (.inr ⟨nin 4 (by decide), _, hZ, .inl (cH rfl)⟩) (cK (.inr ⟨nin 2 (by decide), _, hTI, .inl fun k => k.noTup rfl ⟨_, _, rfl⟩⟩) (cK (.inl ⟨_, jm, hlast⟩)
   (cK (.inr ⟨nin 0 (by decide), _, p1, .inl (cH p2)⟩) (cK (.inr ⟨nin 1 (by decide), _, p3, .inl (cH p4)⟩)
   (cK (.inl ⟨_, mem_cons_self, up ha⟩) (cK (.inl ⟨_, mem_cons_of_mem _ mem_cons_self, up hb⟩) pJ))))))
 ·have low : ∀ {c : Addr}, aB.heap.get? c = none -> s.heap.get? c = none := fun {c} hc => by
   cases e : s.heap.get? c with
   | none => rfl
   | some o => obtain ⟨o', e'⟩ := aT.alive _ _ e; rw [hc] at e'; cases e'
  exact cK ⟨low (fresh 4).n, (fresh 4).low, .inr (nin 4 (by decide))⟩ (cK ⟨low (fresh 3).n, (fresh 3).low, .inl ⟨_, jm, rfl, hlast⟩⟩ (cK ⟨low F0.n, F0.low, .inr (nin 0 (by decide))⟩
   (cK ⟨low (fresh 1).n, (fresh 1).low, .inr (nin 1 (by decide))⟩ pJ)))
 ·obtain ⟨q1, q2, ⟨a', b', q3⟩, ⟨o4, q4, _, q4'⟩, ⟨o5, q5, _, q5'⟩, q7, q8⟩ := hs
  have k1 : ∀ {x : Addr}, x ≠ N + 3 -> x ∈ [N + 3] -> ∃ o, fZ.get? x = some o := fun n m => absurd (mem_singleton.mp m) n
  exact cK ⟨k1 (Ne.symm D.TOz), .inr ⟨_, _, q1, rfl⟩⟩ (cK ⟨fun zz => ⟨_, q3⟩, .inl ⟨_, jm, rfl, hlast⟩⟩ (cK ⟨k1 (Ne.symm D.TOi1), .inr ⟨_, _, q4, q4'⟩⟩ (cK ⟨k1 (Ne.symm D.TOi2), .inr ⟨_, _, q5, q5'⟩⟩ pJ)))
 ·exact (cK (P := fun g : Nat × (aI × Nat) => g.2 = (aI.junk, 0) -> (aD ++ [N + 3])[g.1]? = some b' -> b' ∈ [N + 3]) (fun e => by cases e) (cK (fun e => by cases e) (cK (fun zz q => by rw [hlast] at q; cases q; exact mem_cons_self) pJ))) g hg hg2 q
 ·exact (v1.append v2).ext aJ.h (by intro a ha; cases ha) gr.2
 ·obtain ⟨T, vals, rfl, hT, ⟨o, q1, q2, q3, q4⟩, y1, y2, e1, e2, e4⟩ := hP
  obtain ⟨z1, z2, hz, r1, r2⟩ := WI hvs v1.length v2.length e1 e2
  refine ⟨.tup [z1, z2], ?_, .tup (vs := [y1, y2]) q1 q2 (by rw [q4, e4]) (fun hm => ?_) (.cons r1 (.cons r2 .nil))⟩
  ·rw [getElem?_map, hz]; rfl
  ·obtain ⟨o', ho'⟩ := hal T hm
   rw [hT] at ho'; cases ho'
end
section
variable {G : a_} {sc : SC} {hd : Bool} {d : Nat} {fr : List Env} {μ : List Addr} {hp : AH} {s : Shared}
noncomputable def qG : List AV -> dM AV := fun args hp => PV args fun o i => bI i fun k => bL hp o fun zz xs zz => bO (sQ xs) fun ns => some (.int (ns.count k), hp)
theorem zM {k : Int} {vs : List Value} {ns : List Int} (h : IntsAre vs ns) : vs.countP (PyProof.Rows.isInt k) = ns.count k := by
 induction h with
 | nil => rfl
 | cons n t h ih =>
  rw [List.countP_cons, count_cons, ih]
  congr 1
theorem pV : cO G true d (.builtin "list.count") qG := by
 rintro args A fr μ hp s z hp' tr hA H zI11 hm Q E h
 obtain ⟨vs, rs, rfl⟩ := zI11
 apply TP rs hm; intro o i w u ro ri hm
 apply xH ri hm; intro k t hm
 apply tM H ro hm; intro q xs ver a ws n hr ha g1 k1 hm
 refine aL hm fun ns hns hz => ?_
 cases hz
 rw [oK hns] at k1
 have hi := k1.ints
 refine call_meets F.slot_list_count ⟨_, g1, rfl⟩ F.entry_list_count (F.args_list_count_2 _ _)
  (MeetsSeq.list_count a ws.toArray n (.int k t) (PyProof.Rows.isInt k) (fun y hy => kf_eq (zU hi) y (by simpa using hy))) ⟨g1, ?_⟩
 rw [List.toList_toArray, zM hi]
 exact h _ _ μ (cN.tok _) (H.tok _) (.int _ _)
noncomputable def hY : List AV -> dM AV := fun args hp => BU args fun o => bO (bE (bL hp o fun zz xs zz => some xs) o.tup?) fun xs => bG (xs.length <= 1000000) (gJ (.list xs) hp)
theorem l_ : cO G hd d (.type "list") hY := by
 rintro args A fr μ hp s z hp' tr hA H zI11 hm Q E h
 obtain ⟨vs, rs, rfl⟩ := zI11
 apply EM rs hm; intro o w ro hm
 refine aL hm fun xs hx hm1 => bA hm1 fun hl hz => ?_
 clear hm hm1
 have fin : ∀ {vs : List Value} {h' : Heap} {c' : Nat}, dX G μ s.heap xs vs -> (∀ b o', s.heap.get? b = some o' -> h'.get? b = some o') -> h'.get? s.heap.objs.size = some { cls := .type "list", dict := none, data := .seq vs.toArray c', slots := #[] } -> Q (.ref s.heap.objs.size) { s with heap := h' } := fun {vs h' c'} k hk hD => by
  cases hz
  have g := H.alloc (tk := s.toks) (x := .list xs) hk (Heap.get?_none_of_le (Nat.le_refl _)) hD (.list k)
  exact h _ _ _ g.2 g.1 (gM H.len)
 refine dO hx (fun hx => ?_) fun hx => ?_
 ·apply tM H ro hx; intro r xs' k a ws n hr ha g1 k1 hx
  cases hx
  exact call_list_seq _ (.inl rfl) g1 rfl rfl (fun h' c' hk hD => fin k1 hk hD) (by rw [size_toArray, <- k1.length, sizeLine_eq]; omega)
 ·rw [AV.of_tup? hx] at ro
  obtain ⟨_, _, _, _, rfl, h1, h2, h3, h4, h5⟩ := ro.of_tup
  exact call_list_seq _ (.inr rfl) h1 h2 h3 (fun h' c' hk hD => fin h5 hk hD) (by rw [size_toArray, <- h5.length, sizeLine_eq]; omega)
theorem EQ {A : Around} {E : Value -> Shared -> Prop} {l : Addr} {items : Array Value} {k : Int} {t : Tok} {v : Value} {Q : Unit -> Shared -> Prop} (hl : s.heap.IsList l items) (h0 : 0 <= k) (hfit : k < 2 ^ 63) (hn : k < items.size)
  (hQ : Q () { s with heap := s.heap.update l (Obj.mapSeq (·.setIfInBounds k.toNat v)) }) : wpAny G.M A (setItem (.ref l) (.int k t) v) Q E s := by
 obtain ⟨o, ho, hc, ne, hdd⟩ := id hl
 unfold setItem
 try with_reducible refine wpAny_holding ?_
 first | refine wpAny_bind (wpAny_pure ?_) | skip
 refine wpAny_bind (wpAny_sequenceKey hl.typeIs (by decide) ?_)
 refine wpAny_bind (wpAny_callSpecial?_slot (name := Str.ofString "__setitem__") hl.typeIs slot_list_setitem
  (wpAny_call_entry slot_list_setitem hl.typeIs entry_list_setitem ?_ (args_list_setitem _ _ _)))
 show wpAny _ _ (Builtin.List.listSubscript? (.int k t) >>= _) _ _ s
 refine wpAny_bind (wpAny_listSubscript_int (fitsIndex_of h0 hfit) ?_)
 clear hfit
 obtain ⟨j, rfl⟩ := Int.eq_ofNat_of_zero_le h0
 have hj : j < items.size := by omega
 have hx' : items[j]? = some items[j] := Array.getElem?_eq_getElem hj
 show wpAny _ _ ((seqItemAt l j >>= fun r => pure (r.map (j, ·))) >>= _) _ _ s
 refine wpAny_bind (wpAny_bind (wpAny_seqItemAt ho hdd (wpAny_pure ?_)))
 rw [hx']
 show wpAny _ _ (setSeqItemAt l j v >>= _) _ _ s
 refine wpAny_bind (wpAny_setSeqItemAt ho hdd ?_)
 first
  | exact wpAny_bind (wpAny_pure (wpAny_pure ⟨.none, rfl, wpAny_pure hQ⟩))
  | exact wpAny_pure ⟨.none, rfl, wpAny_pure hQ⟩
noncomputable def sA (o i v : AV) : dM Unit := fun hp => bI i fun k => bL hp o fun r xs ver => bG (0 <= k /\ k < xs.length /\ xs.length <= 1000000) (some ((), hp.set r (.list (xs.set k.toNat v), ver + 1)))
theorem dX.set' {h : Heap} {xs : List AV} {vs : List Value} {v : AV} {w : Value} (k : dX G μ h xs vs) (r : VR G μ h v w) : ∀ j : Nat, dX G μ h (xs.set j v) (vs.set j w) :=
 k.ind (P := fun xs vs => ∀ j : Nat, dX G μ h (xs.set j v) (vs.set j w)) (fun zz => .nil) fun h1 k ih j => by
  cases j with
  | zero => exact .cons r k
  | succ j => exact .cons h1 (ih j)
theorem ML {A : Around} {Q : Unit -> Shared -> Prop} {E : Value -> Shared -> Prop} {hp' : AH} (H : bK G fr μ hp s) {o i v : AV} {ov iv vv : Value} (ro : VR G μ s.heap o ov) (ri : VR G μ s.heap i iv) (rv : VR G μ s.heap v vv) (h : sA o i v hp = some ((), hp'))
  (k : ∀ s', cN [] fr μ hp s μ hp' s' -> bK G fr μ hp' s' -> Q () s') : wpAny G.M A (setItem ov iv vv) Q E s := by
 apply xH ri h; intro n t h
 apply tM H ro h; intro r xs ver a ws n' hr ha g1 k1 h
 refine bA h fun hz h1 => ?_
 clear h
 cases h1
 have hlen := k1.length
 refine EQ ⟨_, g1, rfl, n', rfl⟩ hz.1 (by omega) (by rw [size_toArray, <- hlen]; exact hz.2.1) ?_
 have g := kZ H hr ha g1 (f := (·.setIfInBounds n.toNat vv)) (ws := ws.set n.toNat vv) (by simp) (k1.set' rv n.toNat) s.toks
 exact k _ g.2 g.1
noncomputable def zJ (o : iZ) (mo mi mv : AM AV) : AM aN := do
 let ov <- mo
 let iv <- mi
 let old <- nQ (oX ov iv)
 let v <- mv
 let new <- BS o old v
 fB (sA ov iv new)
 pure .next
theorem DP {o : iZ} {op : Operator} {mo mi mv : AM AV} {oe ie value : Expr} {tp pos : Pos} (ho : LX o) (So : b_ G sc hd d mo oe) (Si : b_ G sc hd d mi ie) (Sv : b_ G sc hd d mv value) (hop : autoParam (op = o.op) aR)
  (hi : autoParam (∀ ov iv new, augStore ie ov iv new = (do holding [new, ov, iv] (setItem ov iv new); release [new, ov, iv] []; pure .next)) aR) :
  jY G sc hd d (zJ o mo mi mv) (.AugAssign (.Subscript oe ie tp) op value pos) := by
 subst hop
 intro A outer env own μ st s fl st' hA hf I hm Q E h hE
 refine wpAny_AugAssign_SubscriptAny (aQ So hA I hm fun ov st₁ ow aB aD bP aT aJ bH => aQ Si hA aJ bP fun iv st₂ iw bQ bY e_ bJ bF dE => ?_) hi
 obtain ⟨old, K3, h1, oE⟩ := aF e_
 obtain ⟨rfl, hv⟩ := cV h1
 refine (OL bF.h (aJ.vr bJ bH) dE hv fun w tk rw' => ?_).2
 have IX := bF.tok tk
 refine aQ Sv hA IX oE fun v oC vw dG eO w_ cI cF iY => ?_
 obtain ⟨new, lE, h3, t8⟩ := aF w_
 obtain ⟨u, pQ, h4, h5⟩ := aF t8
 cases h5
 have r1' := IX.vr cI (aJ.vr bJ bH)
 have r2' := IX.vr cI dE
 have rold := IX.vr cI rw'
 have X := I.trans aT (aJ.trans bJ (cN.trans bF.h.len (cN.tok tk) cI))
 obtain ⟨hp', h6, rfl⟩ := cR h3
 apply xH rold h6; intro a t h6
 apply xH iY h6; intro b u h6
 refine IT ho h6 fun c e1 e2 => ?_
 subst e1 e2
 obtain ⟨hp'', h7, rfl⟩ := cR h4
 exact ML (cF.tok _).h r1' r2' (.int _ _) h7 fun s' x' H' => h _ _ _ (I.trans X (cN.trans cF.h.len (cN.tok _) x'.weaken)) ((cF.tok _).heap x' H') .next
theorem TT {a b c : String} {xW BN PR p : Pos} {kk : Nat} (fZ : d_ sc a) (xV : d_ sc b) (EH : d_ sc c) : fY G sc d (dR [a, b, c]) (.Tuple [.Name (Str.ofString a) xW, .Name (Str.ofString b) BN, .Name (Str.ofString c) PR] kk p) :=
 sK (ps := [xW, BN, PR]) (fun x hx => by simp at hx; rcases hx with rfl | rfl | rfl <;> assumption) rfl rfl
theorem n0 {a b c e : String} {xW BN PR t9 p : Pos} {kk : Nat} (fZ : d_ sc a) (xV : d_ sc b) (EH : d_ sc c) (O5 : d_ sc e) : fY G sc d (dR [a, b, c, e]) (.Tuple [.Name (Str.ofString a) xW, .Name (Str.ofString b) BN, .Name (Str.ofString c) PR, .Name (Str.ofString e) t9] kk p) :=
 sK (ps := [xW, BN, PR, t9]) (fun x hx => by simp at hx; rcases hx with rfl | rfl | rfl | rfl <;> assumption) rfl rfl
noncomputable def CH (ns : List String) (x : String) (args : List AV) : Option (List (String × AV)) := if args.length = ns.length then some (ns.zip args ++ [(x, .none)]) else if args.length = ns.length + 1 then some ((ns ++ [x]).zip args) else none
theorem FQ {fd : FuncData} {ns : List String} {x : String} {T : Addr} {o : Obj} {n : Nat} (hd : fd.defaults = .ref T) (ho : G.h₀.get? T = some o) (hs : o.data = .seq #[.none] n)
  (hb : ∀ vs : List Value, vs.length = ns.length + 1 -> ∃ k, bindArgs fd ⟨vs, []⟩ = (seqItems? fd.defaults >>= k) /\ k (some #[.none]) = pure (((ns ++ [x]).map Str.ofString).zip vs))
  (hb0 : ∀ vs : List Value, vs.length = ns.length -> ∃ k, bindArgs fd ⟨vs, []⟩ = (seqItems? fd.defaults >>= k) /\ k (some #[.none]) = pure ((ns.map Str.ofString).zip vs ++ [(Str.ofString x, .none)])) : oN G fd (CH ns x) := by
 intro A fr μ hp s args vs bs H rs hm Q E h
 unfold CH at hm
 split at hm
 ·rename_i hl
  cases hm
  obtain ⟨k, e1, e2⟩ := hb0 vs (by rw [<- rs.length]; exact hl)
  rw [e1, hd]
  refine wpAny_bind (wpAny_seqItems (H.base _ _ ho) hs ?_)
  rw [e2]
  refine wpAny_pure (h _ _ cN.refl H ?_)
  have app : ∀ {xs ys : List (String × AV)} {us ws : List (PySem.Str × Value)}, BR G μ s.heap xs us -> BR G μ s.heap ys ws -> BR G μ s.heap (xs ++ ys) (us ++ ws) := by
   intro xs ys us ws a b
   induction a with
   | nil => exact b
   | cons r _ ih => exact .cons r ih
  exact app (FT rs) (.cons .none .nil)
 ·split at hm
  ·rename_i hl
   cases hm
   obtain ⟨k, e1, e2⟩ := hb vs (by rw [<- rs.length]; exact hl)
   rw [e1, hd]
   refine wpAny_bind (wpAny_seqItems (H.base _ _ ho) hs ?_)
   rw [e2]
   exact wpAny_pure (h _ _ cN.refl H (FT rs))
  ·cases hm
end
noncomputable def ND : List ((String × String) × Option Nat) := [(("_NodeInfo", "node"), some 0), (("_NodeInfo", "npredecessors"), some 1), (("_NodeInfo", "successors"), some 2), (("filterfalse", "_func"), some 0), (("filterfalse", "_it"), some 1),
 (("TopologicalSorter", "_node2info"), none), (("TopologicalSorter", "_ready_nodes"), none), (("TopologicalSorter", "_npassedout"), none), (("TopologicalSorter", "_nfinished"), none)]
noncomputable def dA (c n : String) : Option (Option Nat) := ND.lookup (c, n)
noncomputable def jA (ns : List String) (args : List AV) : Option (List (String × AV)) := if args.length = ns.length then some (ns.zip args) else none
noncomputable def niInit.prog : AM aN :=
 bU (fE dA "node" (aG "self") (aG "node"))
  (bU (fE dA "npredecessors" (aG "self") (pure (AV.int 0)))
   (fE dA "successors" (aG "self") (gD (pure []))))
noncomputable def AL : List AV -> dM AV := mR (jA ["self", "node"]) niInit.prog
noncomputable def sR : List AV -> dM AV := yN "_NodeInfo" true AL
noncomputable def ffInit.prog : AM aN :=
 bU (fE dA "_it" (aG "self") (dF tT (aO (aG "iterable") (pure []))))
  (fE dA "_func" (aG "self") (aG "function"))
noncomputable def ffIter.prog : AM aN :=
 lT (aG "self")
noncomputable def ffNext.prog : AM aN :=
 bU (dZ "func" (gB dA "_func" (aG "self")))
  (kY (jX (pure (AV.bool true)))
   (bU (BZ "item" (GA DT (aO (gB dA "_it" (aG "self")) (pure []))))
    (jR
     (VB (fI kB.is (aG "func") (pure AV.none))
      (VB (fI kB.is (aG "func") (pure (AV.ty "bool"))) (pure false)))
     (jR (NA (jX (aG "item"))) (lT (aG "item")) (pure aN.next))
     (jR (NA (jX (y8 (pX (aG "func") (aO (aG "item") (pure [])))))) (lT (aG "item"))
      (pure aN.next))))
   (pure aN.next))
noncomputable def AY : List AV -> dM AV := mR (jA ["self", "function", "iterable"]) ffInit.prog
noncomputable def uF : List AV -> dM AV := mR (jA ["self"]) ffIter.prog
noncomputable def mT : List AV -> dM (Except String AV) := EE (jA ["self"]) ffNext.prog
noncomputable def B4 : List AV -> dM AV := yN "filterfalse" true AY
noncomputable def zP : List AV -> dM AV := rA "filterfalse" uF mT
noncomputable def filter.prog : AM aN :=
 lT
  (dF zP
   (aO (dF B4 (aO (HS "__contains__" (aG "skip")) (aO (aG "flist") (pure [])))) (pure [])))
noncomputable def qX : List AV -> dM AV := mR (jA ["flist", "skip"]) filter.prog
noncomputable def uld.prog : AM aN :=
 bU (dZ "missing" (gD (pure [])))
  (bU
   (kY (jX (aG "expected"))
    (bU (dZ "item" (eY "list" uX (aG "expected") (pure [])))
     (KZ "ValueError" (A_ (GR "list" qQ (aG "actual") (aO (aG "item") (pure []))))
      (fP (eY "list" cW (aG "missing") (aO (aG "item") (pure []))))))
    (pure aN.next))
   (lT (sJ (aO (aG "missing") (aO (aG "actual") (pure []))))))
noncomputable def US : List AV -> dM AV := mR (jA ["expected", "actual"]) uld.prog
noncomputable def gni.prog : AM aN :=
 bU
  (jR
   (fI kB.is
    (BD "result" (eY "dict" AE (gB dA "_node2info" (aG "self")) (aO (aG "node") (pure []))))
    (pure AV.none))
   (mU (gB dA "_node2info" (aG "self")) (aG "node") "result"
    (dF sR (aO (aG "node") (pure []))))
   (pure aN.next))
  (lT (aG "result"))
noncomputable def QJ : List AV -> dM AV := mR (jA ["self", "node"]) gni.prog
noncomputable def findCycle.prog : AM aN :=
 bU (dZ "n2i" (gB dA "_node2info" (aG "self")))
  (bU (dZ "stack" (gD (pure [])))
   (bU (dZ "itstack" (gD (pure [])))
    (bU (dZ "seen" (dF DG (pure [])))
     (bU (dZ "node2stacki" (fB (gJ (aI.dict []))))
      (bU
       (rF (iJ (aG "n2i")) (fun v => cD "node" v)
        (bU (jR (fI kB.mem (aG "node") (aG "seen")) (pure aN.cont) (pure aN.next))
         (kY (jX (pure (AV.bool true)))
          (bU
           (jR (fI kB.mem (aG "node") (aG "seen"))
            (jR (fI kB.mem (aG "node") (aG "node2stacki"))
             (lT
              (gT iZ.add
               (lU (aG "stack") (nP (iA (aG "node2stacki") (aG "node"))) (pure none)
                (pure none))
               (gD (aO (aG "node") (pure [])))))
             (pure aN.next))
            (bU (fP (eY "set" JP (aG "seen") (aO (aG "node") (pure []))))
             (bU
              (fP
               (eY "list" cW (aG "itstack")
                (aO
                 (HS "__next__"
                  (dF tT
                   (aO (gB dA "successors" (iA (aG "n2i") (aG "node"))) (pure []))))
                 (pure []))))
              (bU
               (wC (aG "node2stacki") (aG "node") (dF tZ (aO (aG "stack") (pure []))))
               (fP (eY "list" cW (aG "stack") (aO (aG "node") (pure []))))))))
           (kY (jX (aG "stack"))
            (KZ "StopIteration"
             (bU (BZ "node" (pX (iA (aG "itstack") (JA (pure (AV.int 1)))) (pure [])))
              (pure aN.brk))
             (bU (QQ (aG "node2stacki") (eY "list" uX (aG "stack") (pure [])))
              (fP (eY "list" uX (aG "itstack") (pure [])))))
            (pure aN.brk)))
          (pure aN.next))))
       (lT (pure AV.none)))))))
noncomputable def qH : List AV -> dM AV := mR (jA ["self"]) findCycle.prog
noncomputable def getReady.prog : AM aN :=
 bU (jR (fI kB.is (gB dA "_ready_nodes" (aG "self")) (pure AV.none)) AM.bad (pure aN.next))
  (bU (dZ "result" (dF n_ (aO (gB dA "_ready_nodes" (aG "self")) (pure []))))
   (bU (dZ "n2i" (gB dA "_node2info" (aG "self")))
    (bU
     (rF (iJ (aG "result")) (fun v => cD "node" v)
      (fE dA "npredecessors" (iA (aG "n2i") (aG "node")) (pure (AV.int (-1)))))
     (bU (fP (eY "list" wR (gB dA "_ready_nodes" (aG "self")) (pure [])))
      (bU (mB dA "_npassedout" iZ.add (aG "self") (dF tZ (aO (aG "result") (pure []))))
       (lT (aG "result")))))))
noncomputable def kO : List AV -> dM AV := mR (jA ["self"]) getReady.prog
noncomputable def done.prog : AM aN :=
 bU (jR (fI kB.is (gB dA "_ready_nodes" (aG "self")) (pure AV.none)) AM.bad (pure aN.next))
  (bU (dZ "n2i" (gB dA "_node2info" (aG "self")))
   (rF (iJ (aG "nodes")) (fun v => cD "node" v)
    (bU
     (jR
      (fI kB.is (BD "nodeinfo" (eY "dict" AE (aG "n2i") (aO (aG "node") (pure []))))
       (pure AV.none))
      AM.bad (pure aN.next))
     (bU (dZ "stat" (gB dA "npredecessors" (aG "nodeinfo")))
      (bU
       (jR (fI kB.ne (aG "stat") (pure (AV.int (-1))))
        (jR (fI kB.ge (aG "stat") (pure (AV.int 0))) AM.bad
         (jR (fI kB.eq (aG "stat") (pure (AV.int (-2)))) AM.bad AM.bad))
        (pure aN.next))
       (bU (fE dA "npredecessors" (aG "nodeinfo") (pure (AV.int (-2))))
        (bU
         (rF (iJ (gB dA "successors" (aG "nodeinfo"))) (fun v => cD "successor" v)
          (bU (dZ "successor_info" (iA (aG "n2i") (aG "successor")))
           (bU (mB dA "npredecessors" iZ.sub (aG "successor_info") (pure (AV.int 1)))
            (jR (fI kB.eq (gB dA "npredecessors" (aG "successor_info")) (pure (AV.int 0)))
             (fP
              (eY "list" cW (gB dA "_ready_nodes" (aG "self"))
               (aO (aG "successor") (pure []))))
             (pure aN.next)))))
         (mB dA "_nfinished" iZ.add (aG "self") (pure (AV.int 1))))))))))
noncomputable def HR : List AV -> dM AV := mR (tO ["self"] "nodes") done.prog
noncomputable def add.prog : AM aN :=
 bU (jR (fI kB.nis (gB dA "_ready_nodes" (aG "self")) (pure AV.none)) AM.bad (pure aN.next))
  (bU
   (dZ "nodeinfo" (gR "TopologicalSorter" "_get_nodeinfo" QJ (aG "self") (aO (aG "node") (pure []))))
   (bU (mB dA "npredecessors" iZ.add (aG "nodeinfo") (dF tZ (aO (aG "predecessors") (pure []))))
    (rF (iJ (aG "predecessors")) (fun v => cD "pred" v)
     (bU
      (dZ "pred_info"
       (gR "TopologicalSorter" "_get_nodeinfo" QJ (aG "self") (aO (aG "pred") (pure []))))
      (fP
       (eY "list" cW (gB dA "successors" (aG "pred_info")) (aO (aG "node") (pure []))))))))
noncomputable def qC : List AV -> dM AV := mR (tO ["self", "node"] "predecessors") add.prog
noncomputable def prepare.prog : AM aN :=
 bU (jR (fI kB.nis (gB dA "_ready_nodes" (aG "self")) (pure AV.none)) AM.bad (pure aN.next))
  (bU
   (fE dA "_ready_nodes" (aG "self")
    (fF [] (AD (eY "dict" (vR "dict_values") (gB dA "_node2info" (aG "self")) (pure [])))
     (fun v => cD "i" v) (fI kB.eq (gB dA "npredecessors" (aG "i")) (pure (AV.int 0)))
     (fH (gB dA "node" (aG "i")))))
   (bU (dZ "cycle" (gR "TopologicalSorter" "_find_cycle" qH (aG "self") (pure [])))
    (jR (jX (aG "cycle"))
     (EZ "CycleError" (aO (pure (AV.str "nodes are in a cycle")) (aO (aG "cycle") (pure []))))
     (pure aN.next))))
noncomputable def vZ : List AV -> dM (Except String AV) := EE (jA ["self"]) prepare.prog
noncomputable def tsInit.prog : AM aN :=
 bU (fE dA "_node2info" (aG "self") (fB (gJ (aI.dict []))))
  (bU (fE dA "_ready_nodes" (aG "self") (pure AV.none))
   (bU (fE dA "_npassedout" (aG "self") (pure (AV.int 0)))
    (bU (fE dA "_nfinished" (aG "self") (pure (AV.int 0)))
     (jR (fI kB.nis (aG "graph") (pure AV.none))
      (rF (EN (eY "dict" (vR "dict_items") (aG "graph") (pure [])))
       (dR ["node", "predecessors"])
       (fP
        (gR "TopologicalSorter" "add" qC (aG "self") (sM (aG "node") (aG "predecessors")))))
      (pure aN.next)))))
section
variable {α β : Type}
noncomputable def cB (m : AM α) (Q : α -> AS -> Prop) (st : AS) : Prop := m.wp Q st
noncomputable def dB (f : α -> AM β) (Q : β -> AS -> Prop) : α -> AS -> Prop := fun a st => cB (f a) Q st
theorem V_ (a : α) (Q : α -> AS -> Prop) (st : AS) : mY Q st (some a) = Q a st := rfl
theorem WN (Q : α -> AS -> Prop) (st : AS) : mY Q st none = False := rfl
theorem UY (a : α) (h : AH) (K : α -> AH -> Prop) : dI K (some (a, h)) = K a h := rfl
theorem VL (K : α -> AH -> Prop) : dI K none = False := rfl
theorem CJ (e : List (String × AV)) (Q : α -> AS -> Prop) (a : α) (h : AH) : yA e Q a h = Q a ⟨e, h⟩ := rfl
theorem DZ (a : α) (Q : α -> AS -> Prop) (e : List (String × AV)) (h : AH) : cB (pure a) Q ⟨e, h⟩ = Q a ⟨e, h⟩ := rfl
theorem x5 (Q : α -> AS -> Prop) (st : AS) : cB AM.bad Q st = False := rfl
theorem ZU (m : AM α) (f : α -> AM β) (Q : β -> AS -> Prop) (st : AS) : cB (m >>= f) Q st = cB m (dB f Q) st := rfl
theorem qF {f : dM α} {K : α -> AH -> Prop} {h h' : AH} {a : α} (e : f h = some (a, h')) (k : K a h') : iF f K h := by unfold iF; rw [e]; exact k
theorem RY (f : AH -> Option α) (Q : α -> AS -> Prop) (e : List (String × AV)) (h : AH) : cB (nQ f) Q ⟨e, h⟩ = mY Q ⟨e, h⟩ (f h) := rfl
theorem YI (f : dM α) (Q : α -> AS -> Prop) (e : List (String × AV)) (h : AH) : cB (fB f) Q ⟨e, h⟩ = iF f (yA e Q) h := rfl
end
theorem x3 (x : String) (Q : AV -> AS -> Prop) (e : List (String × AV)) (h : AH) : cB (aG x) Q ⟨e, h⟩ = mY Q ⟨e, h⟩ (e.lookup x) := rfl
theorem WF (x : String) (v : AV) (Q : Unit -> AS -> Prop) (e : List (String × AV)) (h : AH) : cB (cD x v) Q ⟨e, h⟩ = Q () ⟨put x v e, h⟩ := rfl
theorem YA (n : Nat) (Q : Unit -> AS -> Prop) (e : List (String × AV)) (h : AH) : cB (zA n) Q ⟨e, h⟩ = (n <= 1000000 /\ Q () ⟨e, h⟩) := rfl
section
variable (x : String) (Q : aN -> AS -> Prop) (QV : AV -> AS -> Prop) (QB : Bool -> AS -> Prop) (QL : List AV -> AS -> Prop) (QU : Unit -> AS -> Prop) (QI : kN -> AS -> Prop) (QE : Except String AV -> AS -> Prop) (QP : Option Int -> AS -> Prop) (e : List (String × AV)) (h : AH) (st : AS)
noncomputable def KH (k : AM aN) : aN -> AS -> Prop := dB (fun f => match f with
 | .next => k
 | f => pure f) Q
theorem F8 (m k : AM aN) : cB (bU m k) Q st = cB m (KH Q k) st := rfl
theorem yF (k : AM aN) : KH Q k .next st = cB k Q st := rfl
theorem m6 (k : AM aN) : KH Q k .brk st = Q .brk st := rfl
theorem XR (k : AM aN) : KH Q k .cont st = Q .cont st := rfl
theorem YG (k : AM aN) (v : AV) : KH Q k (.ret v) st = Q (.ret v) st := rfl
theorem YK (k : AM aN) (v : String) : KH Q k (.exc v) st = Q (.exc v) st := rfl
noncomputable def j9 : AV -> AS -> Prop := fun v st => Q .next ⟨put x v st.env, st.hp⟩
theorem UV (m : AM AV) : cB (dZ x m) Q st = cB m (j9 x Q) st := rfl
theorem QZ (v : AV) : j9 x Q v ⟨e, h⟩ = Q .next ⟨put x v e, h⟩ := rfl
noncomputable def VW : AV -> AS -> Prop := fun v st => Q (.ret v) st
theorem E9 (m : AM AV) : cB (lT m) Q st = cB m (VW Q) st := rfl
theorem w6 (v : AV) : VW Q v st = Q (.ret v) st := rfl
noncomputable def UD : AV -> AS -> Prop := fun zz st => Q .next st
theorem z5 (m : AM AV) : cB (fP m) Q st = cB m (UD Q) st := rfl
theorem YJ (v : AV) : UD Q v st = Q .next st := rfl
noncomputable def FE : Except String AV -> AS -> Prop := dB (fun r => match r with
 | .ok _ => pure .next
 | .error k => pure (.exc k)) Q
theorem c6 (m : AM (Except String AV)) : cB (A_ m) Q st = cB m (FE Q) st := rfl
theorem JN (v : AV) : FE Q (.ok v) st = Q .next st := rfl
theorem LD (k : String) : FE Q (.error k) st = Q (.exc k) st := rfl
noncomputable def OI : Except String AV -> AS -> Prop := dB (fun r => match r with
 | .ok v => do
  cD x v
  pure .next
 | .error k => pure (.exc k)) Q
theorem v9 (m : AM (Except String AV)) : cB (BZ x m) Q st = cB m (OI x Q) st := rfl
theorem YZ (v : AV) : OI x Q (.ok v) ⟨e, h⟩ = Q .next ⟨put x v e, h⟩ := rfl
theorem m5 (k : String) : OI x Q (.error k) st = Q (.exc k) st := rfl
noncomputable def VZ (m k : AM aN) : Bool -> AS -> Prop := dB (fun b => if b = true then m else k) Q
theorem A3 (t : AM Bool) (m k : AM aN) : cB (jR t m k) Q st = cB t (VZ Q m k) st := rfl
theorem A4 (m k : AM aN) : VZ Q m k true st = cB m Q st := rfl
theorem B3 (m k : AM aN) : VZ Q m k false st = cB k Q st := rfl
noncomputable def RX (k : String) (hd : AM aN) : aN -> AS -> Prop := dB (fun f => match f with
 | .exc k' => if k' = k then DI hd else AM.bad
 | f => pure f) Q
theorem E5 (k : String) (m hd : AM aN) : cB (KZ k m hd) Q st = cB m (RX Q k hd) st := rfl
theorem JI (k : String) (hd : AM aN) : RX Q k hd .next st = Q .next st := rfl
theorem ZA (k : String) (hd : AM aN) : RX Q k hd .brk st = Q .brk st := rfl
theorem L_ (k : String) (hd : AM aN) : RX Q k hd (.exc k) st = cB (DI hd) Q st := by
 show cB (if k = k then DI hd else AM.bad) Q st = _
 rw [if_pos rfl]
noncomputable def LY : aN -> AS -> Prop := dB (fun f => match f with
 | .exc _ => AM.bad
 | f => pure f) Q
theorem MD (m : AM aN) : cB (DI m) Q st = cB m (LY Q) st := rfl
theorem CG : LY Q .next st = Q .next st := rfl
noncomputable def NE (k : String) : List AV -> AS -> Prop := fun vs st => vs.length <= 1000000 /\ Q (.exc k) st
theorem i8 (k : String) (m : AM (List AV)) : cB (EZ k m) Q st = cB m (NE Q k) st := rfl
theorem XU (k : String) (vs : List AV) : NE Q k vs st = (vs.length <= 1000000 /\ Q (.exc k) st) := rfl
noncomputable def uN (f : AV -> AM Unit) : AV -> AS -> Prop := fun v st => cB (f v) (kDone Q) st
where kDone (Q : aN -> AS -> Prop) : Unit -> AS -> Prop := fun zz st => Q .next st
theorem XK (m : AM AV) (f : AV -> AM Unit) : cB (qR m f) Q st = cB m (uN Q f) st := rfl
theorem WY (f : AV -> AM Unit) (v : AV) : uN Q f v st = cB (f v) (uN.kDone Q) st := rfl
theorem m4 (u : Unit) : uN.kDone Q u st = Q .next st := rfl
theorem YU {α β : Type} (f : α -> AM β) (Q : β -> AS -> Prop) (a : α) : dB f Q a st = cB (f a) Q st := rfl
theorem WB (mo mi mv : AM AV) : cB (wC mo mi mv) Q st = cB mv (dB (fun v => mo >>= fun o => mi >>= fun i => fB (gX o i v) >>= fun zz => pure .next) Q) st := rfl
theorem OE (mo mi mv : AM AV) : cB (mU mo mi x mv) Q st = cB mv (dB (fun v => mo >>= fun o => mi >>= fun i => fB (gX o i v) >>= fun zz => cD x v >>= fun zz => pure .next) Q) st := rfl
theorem D1 (mo mi : AM AV) : cB (QQ mo mi) Q st = cB mo (dB (fun o => mi >>= fun i => fB (mH o i) >>= fun zz => pure .next) Q) st := rfl
theorem VO (ix : String -> String -> Option (Option Nat)) (mo mv : AM AV) : cB (fE ix x mo mv) Q st = cB mv (dB (fun v => mo >>= fun o => fB (eX ix x o v) >>= fun zz => pure .next) Q) st := rfl
theorem YW (o : iZ) (a b : Int) : BS o (.int a) (.int b) = fB (oB o (.int a) (.int b)) := rfl
theorem VV (ix : String -> String -> Option (Option Nat)) (o : iZ) (mo mv : AM AV) : cB (mB ix x o mo mv) Q st = cB mo (dB (fun ov => nQ (gE ix x ov) >>= fun old => mv >>= fun v => BS o old v >>= fun nw => fB (eX ix x ov nw) >>= fun zz => pure .next) Q) st := rfl
theorem B6 (o : iZ) (m k : AM AV) : cB (gT o m k) QV st = cB m (dB (fun x => k >>= fun y => fB (oB o x y)) QV) st := rfl
theorem D7 (o : kB) (m k : AM AV) : cB (fI o m k) QB st = cB m (dB (fun x => k >>= fun y => nQ (SL o x y)) QB) st := rfl
noncomputable def c8 : Bool -> AS -> Prop := fun b st => QV (.bool b) st
theorem D4 (m : AM Bool) : cB (LV m) QV st = cB m (c8 QV) st := rfl
theorem x9 (b : Bool) : c8 QV b st = QV (.bool b) st := rfl
noncomputable def OS : AV -> AS -> Prop := fun v st => mY QB st (nK v st.hp)
theorem i7 (m : AM AV) : cB (jX m) QB st = cB m (OS QB) st := rfl
theorem XN (v : AV) : OS QB v ⟨e, h⟩ = mY QB ⟨e, h⟩ (nK v h) := rfl
noncomputable def ZV : Bool -> AS -> Prop := fun b st => QB (!b) st
theorem G0 (m : AM Bool) : cB (NA m) QB st = cB m (ZV QB) st := rfl
theorem y9 (b : Bool) : ZV QB b st = QB (!b) st := rfl
noncomputable def WA (k : AM Bool) : Bool -> AS -> Prop := dB (fun b => if b = true then k else pure false) QB
theorem D5 (m k : AM Bool) : cB (JB m k) QB st = cB m (WA QB k) st := rfl
noncomputable def A5 (k : AM Bool) : Bool -> AS -> Prop := dB (fun b => if b = true then pure true else k) QB
theorem L4 (m k : AM Bool) : cB (VB m k) QB st = cB m (A5 QB k) st := rfl
theorem z7 (k : AM Bool) : WA QB k true st = cB k QB st := rfl
theorem z9 (k : AM Bool) : WA QB k false st = QB false st := rfl
theorem K9 (k : AM Bool) : A5 QB k true st = QB true st := rfl
theorem M1 (k : AM Bool) : A5 QB k false st = cB k QB st := rfl
noncomputable def YY : AV -> AS -> Prop := dB ZQ QV
theorem D0 (m : AM AV) : cB (JA m) QV st = cB m (YY QV) st := rfl
theorem x6 (i : Int) : YY QV (.int i) st = QV (.int (-i)) st := rfl
noncomputable def BW (k : AM (List AV)) : AV -> AS -> Prop := fun x st => cB k (kC1 QL x) st
where kC1 (QL : List AV -> AS -> Prop) (x : AV) : List AV -> AS -> Prop := fun xs st => QL (x :: xs) st
theorem z0 (m : AM AV) (k : AM (List AV)) : cB (aO m k) QL st = cB m (BW QL k) st := rfl
theorem ZB (k : AM (List AV)) (v : AV) : BW QL k v st = cB k (BW.kC1 QL v) st := rfl
theorem B0 (v : AV) (vs : List AV) : BW.kC1 QL v vs st = QL (v :: vs) st := rfl
noncomputable def UF : List AV -> AS -> Prop := fun xs st => xs.length <= 1000000 /\ QV (.ref st.hp.length) ⟨st.env, st.hp ++ [(.list xs, 0)]⟩
theorem y7 (m : AM (List AV)) : cB (gD m) QV st = cB m (UF QV) st := rfl
theorem ZP (xs : List AV) : UF QV xs ⟨e, h⟩ = (xs.length <= 1000000 /\ QV (.ref h.length) ⟨e, h ++ [(.list xs, 0)]⟩) := rfl
noncomputable def YT : List AV -> AS -> Prop := fun xs st => xs.length <= 1000000 /\ QV (.tup xs) st
theorem C8 (m : AM (List AV)) : cB (sJ m) QV st = cB m (YT QV) st := rfl
theorem u7 (xs : List AV) : YT QV xs st = (xs.length <= 1000000 /\ QV (.tup xs) st) := rfl
theorem v0 (m : AM AV) : cB (iJ m) QI st = cB m (dB (fun v => nQ (fA v)) QI) st := rfl
theorem m9 (m : AM (List AV)) : cB (iV m) QI st = cB m (dB (fun vs => nQ fun zz => hX vs) QI) st := rfl
theorem x4 (m : AM (List AV)) : cB (ID m) QI st = cB m (dB (fun vs => nQ fun hp => AB hp vs) QI) st := rfl
theorem XJ (m : AM AV) : cB (AD m) QI st = cB m (dB (fun v => nQ (wA "dict_values" (·.2) v)) QI) st := rfl
theorem Y_ (m : AM AV) : cB (EN m) QI st = cB m (dB (fun v => nQ (wA "dict_items" (fun e => .tup [.int e.1, e.2]) v)) QI) st := rfl
noncomputable def PA {α : Type} (f : List AV -> dM α) (Q : α -> AS -> Prop) : List AV -> AS -> Prop := fun vs st => iF (f vs) (yA st.env Q) st.hp
theorem y6 (f : List AV -> dM AV) (m : AM (List AV)) : cB (dF f m) QV st = cB m (PA f QV) st := rfl
theorem YS (f : List AV -> dM (Except String AV)) (m : AM (List AV)) : cB (GA f m) QE st = cB m (PA f QE) st := rfl
theorem m0 {α : Type} (f : List AV -> dM α) (Q : α -> AS -> Prop) (vs : List AV) : PA f Q vs ⟨e, h⟩ = iF (f vs) (yA e Q) h := rfl
theorem v5 (T : String) (f : List AV -> dM AV) (m : AM AV) (as : AM (List AV)) : cB (eY T f m as) QV st = cB m (dB (fun o => JQ T o >>= fun zz => as >>= fun vs => fB (f (o :: vs))) QV) st := rfl
theorem ZZ (T : String) (f : List AV -> dM (Except String AV)) (m : AM AV) (as : AM (List AV)) : cB (GR T f m as) QE st = cB m (dB (fun o => JQ T o >>= fun zz => as >>= fun vs => fB (f (o :: vs))) QE) st := rfl
theorem ZL (c n : String) (f : List AV -> dM AV) (m : AM AV) (as : AM (List AV)) : cB (gR c n f m as) QV st = cB m (dB (fun o => nQ (uB c n o) >>= fun zz => as >>= fun vs => fB (f (o :: vs))) QV) st := rfl
theorem XW (c n : String) (f : List AV -> dM (Except String AV)) (m : AM AV) (as : AM (List AV)) : cB (zV c n f m as) QE st = cB m (dB (fun o => nQ (uB c n o) >>= fun zz => as >>= fun vs => fB (f (o :: vs))) QE) st := rfl
theorem u6 (T : String) (v : AV) : cB (JQ T v) QU ⟨e, h⟩ = (lW v h = some T /\ QU () ⟨e, h⟩) := by
 unfold JQ; rw [RY]; by_cases hx : lW v h = some T <;> simp [hx, mY]
theorem E0 (m k : AM AV) : cB (iA m k) QV st = cB m (dB (fun o => k >>= fun i => nQ (oX o i)) QV) st := rfl
theorem w9 (m : AM AV) : cB (nP m) QP st = cB m (dB (fun v => nQ fun zz => BG v) QP) st := rfl
theorem ZM (m : AM AV) (lo hi s : AM (Option Int)) : cB (lU m lo hi s) QV st = cB m (dB (fun o => lo >>= fun a => hi >>= fun b => s >>= fun c => fB (jE o a b c)) QV) st := rfl
noncomputable def NH : AV -> AS -> Prop := fun v st => QV v ⟨put x v st.env, st.hp⟩
theorem YQ (m : AM AV) : cB (BD x m) QV st = cB m (NH x QV) st := rfl
theorem XV (v : AV) : NH x QV v ⟨e, h⟩ = QV v ⟨put x v e, h⟩ := rfl
theorem z6 (ix : String -> String -> Option (Option Nat)) (m : AM AV) : cB (gB ix x m) QV st = cB m (dB (fun o => nQ (gE ix x o)) QV) st := rfl
theorem u9 (m : AM AV) : cB (HS x m) QV st = cB m (dB (fun o => fB (tS x o)) QV) st := rfl
theorem YR (m : AM AV) (as : AM (List AV)) : cB (pX m as) QE st = cB m (dB (fun f => as >>= fun vs => fB (lP f vs)) QE) st := rfl
noncomputable def G4 : Except String AV -> AS -> Prop := dB (fun r => match r with
 | .ok v => pure v
 | .error _ => AM.bad) QV
theorem K8 (m : AM (Except String AV)) : cB (y8 m) QV st = cB m (G4 QV) st := rfl
theorem G7 (v : AV) : G4 QV (.ok v) st = QV v st := rfl
theorem F6 (k : String) : G4 QV (.error k) st = False := rfl
theorem y0 (m : AM AV) : cB (LO m) QL st = cB m (dB (fun v => nQ (EO v)) QL) st := rfl
theorem T_ (m k : AM AV) : cB (sM m k) QL st = cB m (BW QL (LO k)) st := rfl
noncomputable def UI : AV -> AS -> Prop := fun v st => QL [v] st
theorem v7 (m : AM AV) : cB (fH m) QL st = cB m (UI QL) st := rfl
theorem YP (v : AV) : UI QL v st = QL [v] st := rfl
theorem ZW (xs : List String) (ys : List AV) : cB (dR xs (.tup ys)) QU st = cB (kE xs ys) QU st := rfl
theorem N_ : cB (kE [] []) QU ⟨e, h⟩ = QU () ⟨e, h⟩ := DZ _ _ _ _
theorem LK (xs : List String) (y : AV) (ys : List AV) : cB (kE (x :: xs) (y :: ys)) QU ⟨e, h⟩ = cB (kE xs ys) QU ⟨put x y e, h⟩ := rfl
end
end Mine
theorem Mine.gen {α : Sort _} (a : α) {P : Prop} (k : ∀ b, a = b -> P) : P := k a rfl
namespace Mine
section
variable (Q : aN -> AS -> Prop) (J : AS -> Prop) (st : AS)
noncomputable def mL : aN -> AS -> Prop := fun f st => f.casesOn (J st) (Q .next st) (J st) (fun v => Q (.ret v) st) fun k => Q (.exc k) st
theorem TY : mL Q J .next st = J st := rfl
theorem TS : mL Q J .cont st = J st := rfl
theorem VH : mL Q J .brk st = Q .next st := rfl
theorem VP (v : AV) : mL Q J (.ret v) st = Q (.ret v) st := rfl
theorem UX (v : String) : mL Q J (.exc v) st = Q (.exc v) st := rfl
noncomputable def MN (b e : AM aN) : Bool -> AS -> Prop := fun c st => if c = true then cB b (mL Q J) st else cB e Q st
theorem u5 (b e : AM aN) : MN Q J b e true st = cB b (mL Q J) st := rfl
theorem z4 (b e : AM aN) : MN Q J b e false st = cB e Q st := rfl
end
noncomputable def G5 (I : Nat -> AS -> Prop) (n : Nat) : AS -> Prop := fun st => ∃ m, m < n /\ I m st
noncomputable abbrev WK (t : AM Bool) (b e : AM aN) (n : Nat) : aN -> AM aN := OM (gC t b e n)
theorem lX {t : AM Bool} {b e : AM aN} {Q : aN -> AS -> Prop} (I : Nat -> AS -> Prop) (hs : ∀ n st, I n st -> cB t (MN Q (G5 I n) b e) st) : ∀ n st, I n st -> cB (kY t b e) Q st := by
 have key : ∀ n st, I n st -> ∃ k r st', gC t b e k st = some (r, st') /\ Q r st' := by
  intro n
  induction n using Nat.strongRecOn with
  | ind n ih =>
   intro st hI
   obtain ⟨c, st1, hc, hk⟩ := t.ok (hs n st hI)
   cases c with
   | false =>
    obtain ⟨r, st', he, hq⟩ := e.ok hk
    exact ⟨1, r, st', (AM.bindR_ok hc).trans he, hq⟩
   | true =>
    obtain ⟨f, st2, hb, hk⟩ := b.ok hk
    have go : ∀ (m : Nat) (r : aN) (st' : AS), WK t b e m f st2 = some (r, st') -> gC t b e (m + 1) st = some (r, st') := by
     intro m r st' hh
     exact (AM.bindR_ok hc).trans ((AM.bindR_ok hb).trans hh)
    cases f with
    | next =>
     obtain ⟨m, hm, hI'⟩ := hk
     obtain ⟨k, r, st', hh, hq⟩ := ih m hm st2 hI'
     exact ⟨k + 1, r, st', go k r st' hh, hq⟩
    | cont =>
     obtain ⟨m, hm, hI'⟩ := hk
     obtain ⟨k, r, st', hh, hq⟩ := ih m hm st2 hI'
     exact ⟨k + 1, r, st', go k r st' hh, hq⟩
    | brk => exact ⟨1, .next, st2, go 0 _ _ rfl, hk⟩
    | ret v => exact ⟨1, .ret v, st2, go 0 _ _ rfl, hk⟩
    | exc v => exact ⟨1, .exc v, st2, go 0 _ _ rfl, hk⟩
 intro n st hI
 obtain ⟨k, r, st', hh, hq⟩ := key n st hI
 exact ⟨r, st', tP.mpr ⟨k, hh⟩, hq⟩
noncomputable def ZS (tgt : AV -> AM Unit) (body : AM aN) (Q : aN -> AS -> Prop) : kN -> AS -> Prop := fun ai st => cB (forLoop ai.gs tgt body ai.items) Q st
theorem D2 (it : AM kN) (tgt : AV -> AM Unit) (body : AM aN) (Q : aN -> AS -> Prop) (st : AS) : cB (rF it tgt body) Q st = cB it (ZS tgt body Q) st := by
 rfl
theorem w7 (tgt : AV -> AM Unit) (body : AM aN) (Q : aN -> AS -> Prop) (gs : List (Nat × (aI × Nat))) (xs : List AV) (st : AS) : ZS tgt body Q ⟨gs, xs⟩ st = cB (forLoop gs tgt body xs) Q st := rfl
noncomputable def YH (body : AM aN) (Q : aN -> AS -> Prop) (J : AS -> Prop) : Unit -> AS -> Prop := fun zz st => cB body (mL Q J) st
theorem v6 (body : AM aN) (Q : aN -> AS -> Prop) (J : AS -> Prop) (u : Unit) (st : AS) : YH body Q J u st = cB body (mL Q J) st := rfl
theorem eZ {gs : List (Nat × (aI × Nat))} {tgt : AV -> AM Unit} {body : AM aN} {Q : aN -> AS -> Prop} (I : List AV -> AS -> Prop) (hg : ∀ xs st, I xs st -> ∀ g ∈ gs, st.hp[g.1]? = some g.2)
  (hs : ∀ x xs st, I (x :: xs) st -> cB (tgt x) (YH body Q (I xs)) st) (he : ∀ st, I [] st -> Q .next st) : ∀ xs st, I xs st -> cB (forLoop gs tgt body xs) Q st := by
 intro xs
 induction xs with
 | nil => exact fun st hI => ⟨hg _ _ hI, he _ hI⟩
 | cons x xs ih =>
  refine fun st hI => ⟨hg _ _ hI, (tgt x).mono (hs _ _ _ hI) fun zz st1 h1 => body.mono h1 fun f st2 h2 => ?_⟩
  cases f with
  | next => exact ih _ h2
  | cont => exact ih _ h2
  | brk => exact h2
  | ret v => exact h2
  | exc v => exact h2
theorem w8 (frees : List String) (it : AM kN) (f : AV -> AM Unit) (tst : AM Bool) (m : AM (List AV)) (Q : AV -> AS -> Prop) (st : AS) : cB (fF frees it f tst m) Q st = cB it (LR frees f tst m Q) st := by
 rfl
noncomputable def LZ (f : AV -> AM Unit) (tst : AM Bool) (m : AM (List AV)) (Q : List AV -> AS -> Prop) : kN -> AS -> Prop := fun ai st => cB (compLoop ai.gs f tst m ai.items) Q st
theorem n5 (it : AM kN) (f : AV -> AM Unit) (tst : AM Bool) (m : AM (List AV)) (Q : List AV -> AS -> Prop) (st : AS) : cB (pZ it f tst m) Q st = cB it (LZ f tst m Q) st := by
 rfl
theorem ZY (frees : List String) (f : AV -> AM Unit) (tst : AM Bool) (m : AM (List AV)) (Q : AV -> AS -> Prop) (gs : List (Nat × (aI × Nat))) (xs : List AV) (e : List (String × AV)) (h : AH) :
  LR frees f tst m Q ⟨gs, xs⟩ ⟨e, h⟩ = cB (compLoop gs f tst m xs) (q_ e Q) ⟨fT frees e, h⟩ := rfl
theorem XY (f : AV -> AM Unit) (tst : AM Bool) (m : AM (List AV)) (Q : List AV -> AS -> Prop) (gs : List (Nat × (aI × Nat))) (xs : List AV) (st : AS) :
  LZ f tst m Q ⟨gs, xs⟩ st = cB (compLoop gs f tst m xs) Q st := rfl
noncomputable def SP (m : AM (List AV)) (P : List AV -> AS -> Prop) : Bool -> AS -> Prop := dB (fun b => if b = true then m else pure []) P
theorem D6 (m : AM (List AV)) (P : List AV -> AS -> Prop) (st : AS) : SP m P true st = cB m P st := rfl
theorem A7 (m : AM (List AV)) (P : List AV -> AS -> Prop) (st : AS) : SP m P false st = P [] st := rfl
noncomputable def HZ (tst : AM Bool) (m : AM (List AV)) (P : List AV -> AS -> Prop) : Unit -> AS -> Prop := fun zz st => cB tst (SP m P) st
theorem d8 (tst : AM Bool) (m : AM (List AV)) (P : List AV -> AS -> Prop) (u : Unit) (st : AS) : HZ tst m P u st = cB tst (SP m P) st := rfl
noncomputable def qY (ns : List String) (e e' : List (String × AV)) : Prop := ∀ y ∈ ns, e'.lookup y = e.lookup y
theorem fC (ns : List String) (y : String) (hy : y ∈ ns) : ∀ e : List (String × AV), (fT ns e).lookup y = e.lookup y
 | [] => rfl
 | (z, w) :: r => by
  have ih := fC ns y hy r
  unfold fT at ih |-
  by_cases hz : y = z
  ·subst hz
   simp [List.filter, hy, List.lookup]
  ·have hb : (y == z) = false := by simpa using hz
   by_cases hm : z ∈ ns
   ·simp [List.filter, hm, List.lookup, hb]; simpa using ih
   ·simp [List.filter, hm, List.lookup, hb]; simpa using ih
noncomputable def TQ (P : AS -> Prop) (ys : List AV) : List AV -> AS -> Prop := fun zs st => zs = ys /\ P st
theorem aS {h h' : AH} (p : h <+: h') {i : Nat} {x : aI × Nat} (e : h[i]? = some x) : h'[i]? = some x := by
 obtain ⟨t, rfl⟩ := p
 have hi := (List.getElem?_eq_some_iff.mp e).1
 rw [getElem?_append_left hi]; exact e
theorem c_ {β : Type} {frees : List String} {gs : List (Nat × (aI × Nat))} {f : AV -> AM Unit} {tst : AM Bool} {m : AM (List AV)} {Q : AV -> AS -> Prop} {e : List (String × AV)} {h : AH} (inj : β -> AV) (xs : List β) (p : β -> Bool) (out : β -> AV)
  (hg : ∀ x ∈ gs, h[x.1]? = some x.2)
  (hs : ∀ x ∈ xs, ∀ e' h', qY frees e e' -> h <+: h' -> cB (f (inj x)) (HZ tst m (TQ (fun st => qY frees e st.env /\ h <+: st.hp) (if p x = true then [out x] else []))) ⟨e', h'⟩)
  (hl : xs.length <= 1000000) (hq : ∀ h', h <+: h' -> Q (.ref h'.length) ⟨e, h' ++ [(.list ((xs.filter p).map out), 0)]⟩) : cB (compLoop gs f tst m (xs.map inj)) (q_ e Q) ⟨fT frees e, h⟩ := by
 have key : ∀ (xs : List β) (Q : List AV -> AS -> Prop) (st : AS), (∀ x ∈ xs, ∀ e' h', qY frees e e' -> h <+: h' -> cB (f (inj x)) (HZ tst m (TQ (fun st => qY frees e st.env /\ h <+: st.hp) (if p x = true then [out x] else []))) ⟨e', h'⟩) -> (qY frees e st.env /\ h <+: st.hp) ->
   (∀ st', qY frees e st'.env /\ h <+: st'.hp -> Q ((xs.filter p).map out) st') -> cB (compLoop gs f tst m (xs.map inj)) Q st := by
  intro xs
  induction xs with
  | nil => exact fun Q st hs hI hq => ⟨fun x hx => aS hI.2 (hg x hx), hq _ hI⟩
  | cons x xs ih =>
   refine fun Q st hs hI hq => ⟨fun x hx => aS hI.2 (hg x hx), (f (inj x)).mono (hs x mem_cons_self _ _ hI.1 hI.2) fun zz st1 h1 => tst.mono h1 fun b st2 h2 => ?_⟩
   have hs' := fun y (hy : y ∈ xs) => hs y (mem_cons_of_mem _ hy)
   cases b with
   | true =>
    refine m.mono h2 fun ys st3 h3 => ?_
    refine ih _ st3 hs' h3.2 fun st4 h4 => ?_
    have := hq _ h4
    show Q (ys ++ _) st4
    rw [h3.1]
    cases hp : p x with
    | true => rw [List.filter_cons_of_pos hp] at this; exact this
    | false => rw [List.filter_cons_of_neg (by rw [hp]; exact Bool.false_ne_true)] at this; exact this
   | false =>
    refine ih _ st2 hs' h2.2 fun st4 h4 => ?_
    have := hq _ h4
    have hz := h2.1
    cases hp : p x with
    | true => rw [if_pos hp] at hz; cases hz
    | false => rw [List.filter_cons_of_neg (by rw [hp]; exact Bool.false_ne_true)] at this; exact this
 refine key xs _ _ hs ⟨fun y hy => fC _ _ hy _, prefix_refl _⟩ fun st' h' => ⟨?_, hq _ h'.2⟩
 rw [length_map]
 exact Nat.le_trans (length_filter_le _ _) hl
noncomputable def zB (K : AV -> AH -> Prop) : aN -> AS -> Prop := fun f st => match f with
 | .ret v => K v st.hp
 | .next => K .none st.hp
 | _ => False
noncomputable def AK (K : Except String AV -> AH -> Prop) : aN -> AS -> Prop := fun f st => match f with
 | .ret v => K (.ok v) st.hp
 | .next => K (.ok .none) st.hp
 | .exc k => K (.error k) st.hp
 | _ => False
theorem XZ (K : AV -> AH -> Prop) (v : AV) (e : List (String × AV)) (h : AH) : zB K (.ret v) ⟨e, h⟩ = K v h := rfl
theorem VJ (K : AV -> AH -> Prop) (e : List (String × AV)) (h : AH) : zB K .next ⟨e, h⟩ = K .none h := rfl
theorem VF (K : Except String AV -> AH -> Prop) (v : AV) (e : List (String × AV)) (h : AH) : AK K (.ret v) ⟨e, h⟩ = K (.ok v) h := rfl
theorem TR (K : Except String AV -> AH -> Prop) (e : List (String × AV)) (h : AH) : AK K .next ⟨e, h⟩ = K (.ok .none) h := rfl
theorem UU (K : Except String AV -> AH -> Prop) (k : String) (e : List (String × AV)) (h : AH) : AK K (.exc k) ⟨e, h⟩ = K (.error k) h := rfl
theorem gH {f : List AV -> Option (List (String × AV))} {body : AM aN} {args : List AV} {bs : List (String × AV)} {K : AV -> AH -> Prop} {h : AH} (hf : f args = some bs) (hb : cB body (zB K) ⟨bs, h⟩) : iF (mR f body args) K h := by
 obtain ⟨fl, st, e, k⟩ := body.ok hb
 cases fl with
 | ret v => exact qF (by show bO (f args) _ = _; rw [hf]; show bO (body _) _ = _; rw [e]; rfl) k
 | next => exact qF (by show bO (f args) _ = _; rw [hf]; show bO (body _) _ = _; rw [e]; rfl) k
 | brk => exact k.elim
 | cont => exact k.elim
 | exc _ => exact k.elim
theorem IU {f : List AV -> Option (List (String × AV))} {body : AM aN} {args : List AV} {bs : List (String × AV)} {K : Except String AV -> AH -> Prop} {h : AH} (hf : f args = some bs) (hb : cB body (AK K) ⟨bs, h⟩) : iF (EE f body args) K h := by
 obtain ⟨fl, st, e, k⟩ := body.ok hb
 cases fl with
 | ret v => exact qF (by show bO (f args) _ = _; rw [hf]; show bO (body _) _ = _; rw [e]; rfl) k
 | next => exact qF (by show bO (f args) _ = _; rw [hf]; show bO (body _) _ = _; rw [e]; rfl) k
 | exc v => exact qF (by show bO (f args) _ = _; rw [hf]; show bO (body _) _ = _; rw [e]; rfl) k
 | brk => exact k.elim
 | cont => exact k.elim
noncomputable def IC (r : Nat) (K : AV -> AH -> Prop) : AV -> AH -> Prop := fun v h => v = .none /\ K (.ref r) h
theorem u4 (c : String) (sl : Bool) (init : List AV -> dM AV) (args : List AV) (K : AV -> AH -> Prop) (h : AH) : iF (yN c sl init args) K h = iF (init (.ref (h.length + 1) :: args)) (IC (h.length + 1) K) (h ++ [(.attrs [], 0), (if sl = true then .sinst c h.length [] else .inst c h.length, 0)]) := by
 show dI K (yN c sl init args h) = dI (IC (h.length + 1) K) _
 show dI K (bO (init _ _) _) = _
 generalize init _ _ = x
 cases x with
 | none => rfl
 | some p =>
  obtain ⟨v, h'⟩ := p
  show dI K (bG (v.isNone = true) _) = (v = .none /\ K _ h')
  by_cases q : v.isNone = true
  ·rw [oH q]
   exact propext ⟨fun k => ⟨rfl, k⟩, fun k => k.2⟩
  ·unfold bG
   rw [if_neg q]
   exact propext ⟨fun k => k.elim, fun k => q (by rw [k.1]; rfl)⟩
theorem ZR (r : Nat) (K : AV -> AH -> Prop) (h : AH) : IC r K .none h = K (.ref r) h := by simp [IC]
section
variable (x : String) (Q : aN -> AS -> Prop) (QV : AV -> AS -> Prop) (QB : Bool -> AS -> Prop) (QI : kN -> AS -> Prop) (e : List (String × AV)) (h : AH) (st : AS)
noncomputable def C9 (m k : AM AV) : Bool -> AS -> Prop := dB (fun b => if b = true then m else k) QV
theorem G2 (t : AM Bool) (m k : AM AV) : cB (A8 t m k) QV st = cB t (C9 QV m k) st := rfl
theorem L9 (m k : AM AV) : C9 QV m k true st = cB m QV st := rfl
theorem K4 (m k : AM AV) : C9 QV m k false st = cB k QV st := rfl
theorem w5 (m k : AM AV) : cB (OT m k) QV st = cB m (dB (fun v => nQ (nK v) >>= fun b => if b = true then k else pure v) QV) st := rfl
theorem w4 (m : AM (List AV)) : cB (LU m) QI st = cB m (dB (fun vs => fB (DX vs)) QI) st := rfl
theorem y5 (m : AM (List AV)) : cB (NB m) QI st = cB m (dB (fun vs => fB (DD vs)) QI) st := rfl
theorem XP (o : iZ) (mo mi mv : AM AV) : cB (zJ o mo mi mv) Q st = cB mo (dB (fun ov => mi >>= fun iv => nQ (oX ov iv) >>= fun old => mv >>= fun v => BS o old v >>= fun nw => fB (sA ov iv nw) >>= fun zz => pure .next) Q) st := rfl
theorem WT (vs : List AV) (K : AV -> AH -> Prop) (h : AH) : iF (qG vs) K h = dI K (qG vs h) := rfl
theorem UJ (vs : List AV) (K : AV -> AH -> Prop) (h : AH) : iF (hY vs) K h = dI K (hY vs h) := rfl
theorem VA (x y z : AV) (K : Unit -> AH -> Prop) (h : AH) : iF (sA x y z) K h = dI K (sA x y z h) := rfl
theorem X_ (vs : List AV) (K : kN -> AH -> Prop) (h : AH) : iF (DX vs) K h = dI K (DX vs h) := rfl
theorem YB (vs : List AV) (K : kN -> AH -> Prop) (h : AH) : iF (DD vs) K h = dI K (DD vs h) := rfl
end
end Mine
set_option backward.defeqAttrib.useBackward true
namespace Mine
theorem UK (vs : List AV) (K : AV -> AH -> Prop) (h : AH) : iF (cW vs) K h = dI K (cW vs h) := rfl
theorem i6 (vs : List AV) (K : AV -> AH -> Prop) (h : AH) : iF (uX vs) K h = dI K (uX vs h) := rfl
theorem VI (vs : List AV) (K : AV -> AH -> Prop) (h : AH) : iF (wR vs) K h = dI K (wR vs h) := rfl
theorem b9 (vs : List AV) (K : AV -> AH -> Prop) (h : AH) : iF (AE vs) K h = dI K (AE vs h) := rfl
theorem ZC (vs : List AV) (K : AV -> AH -> Prop) (h : AH) : iF (JP vs) K h = dI K (JP vs h) := rfl
theorem XQ (vs : List AV) (K : AV -> AH -> Prop) (h : AH) : iF (tT vs) K h = dI K (tT vs h) := rfl
theorem YD (vs : List AV) (K : AV -> AH -> Prop) (h : AH) : iF (tZ vs) K h = dI K (tZ vs h) := rfl
theorem ZI (vs : List AV) (K : AV -> AH -> Prop) (h : AH) : iF (OO vs) K h = dI K (OO vs h) := rfl
theorem i9 (vs : List AV) (K : AV -> AH -> Prop) (h : AH) : iF (BB vs) K h = dI K (BB vs h) := rfl
theorem SR (vs : List AV) (K : AV -> AH -> Prop) (h : AH) : iF (n_ vs) K h = dI K (n_ vs h) := rfl
theorem UH (vs : List AV) (K : AV -> AH -> Prop) (h : AH) : iF (lM vs) K h = dI K (lM vs h) := rfl
theorem XM (vs : List AV) (K : AV -> AH -> Prop) (h : AH) : iF (DG vs) K h = dI K (DG vs h) := rfl
theorem XL (vs : List AV) (K : Except String AV -> AH -> Prop) (h : AH) : iF (DT vs) K h = dI K (DT vs h) := rfl
theorem UB (vs : List AV) (K : Except String AV -> AH -> Prop) (h : AH) : iF (qQ vs) K h = dI K (qQ vs h) := rfl
theorem XI (T : String) (vs : List AV) (K : AV -> AH -> Prop) (h : AH) : iF (vR T vs) K h = dI K (vR T vs h) := rfl
theorem VN (o : aI) (K : AV -> AH -> Prop) (h : AH) : dI K (gJ o h) = K (.ref h.length) (h ++ [(o, 0)]) := rfl
theorem i5 (o : aI) (K : AV -> AH -> Prop) (h : AH) : iF (gJ o) K h = K (.ref h.length) (h ++ [(o, 0)]) := rfl
theorem c7 (o : iZ) (x y : AV) (K : AV -> AH -> Prop) (h : AH) : iF (oB o x y) K h = dI K (oB o x y h) := rfl
theorem RG (x y z : AV) (K : Unit -> AH -> Prop) (h : AH) : iF (gX x y z) K h = dI K (gX x y z h) := rfl
theorem QO (x y : AV) (K : Unit -> AH -> Prop) (h : AH) : iF (mH x y) K h = dI K (mH x y h) := rfl
theorem SU (ix : String -> String -> Option (Option Nat)) (n : String) (x y : AV) (K : Unit -> AH -> Prop) (h : AH) : iF (eX ix n x y) K h = dI K (eX ix n x y h) := rfl
theorem XO (n : String) (x : AV) (K : AV -> AH -> Prop) (h : AH) : iF (tS n x) K h = dI K (tS n x h) := rfl
theorem WP (x : AV) (vs : List AV) (K : Except String AV -> AH -> Prop) (h : AH) : iF (lP x vs) K h = dI K (lP x vs h) := rfl
theorem UW (x : AV) (a b c : Option Int) (K : AV -> AH -> Prop) (h : AH) : iF (jE x a b c) K h = dI K (jE x a b c h) := rfl
theorem eJ (h l : AH) (i : Nat) : (h ++ l)[h.length + i]? = l[i]? := by rw [getElem?_append_right (by omega)]; congr 1; omega
theorem bW (h l : AH) : (h ++ l)[h.length]? = l[0]? := eJ h l 0
theorem set_at (h l : AH) (i : Nat) (x : aI × Nat) : (h ++ l).set (h.length + i) x = h ++ l.set i x := by rw [List.set_append_right _ _ (by omega)]; congr 2; omega
theorem v4 (h l : AH) (x : aI × Nat) : (h ++ l).set h.length x = h ++ l.set 0 x := set_at h l 0 x
theorem PT (x : String) (v : AV) (ρ : List (String × AV)) : (put x v ρ).lookup x = some v := by rw [kX, if_pos rfl]
theorem PU {x y : String} (h : (y == x) = false) (v : AV) (ρ : List (String × AV)) : (put x v ρ).lookup y = ρ.lookup y := by rw [kX, if_neg (by simpa using h)]
theorem ZF (i : Int) : (AV.int i).int? = some i := rfl
theorem d7 (r : Nat) : (AV.ref r).ref? = some r := rfl
theorem YM (xs : List AV) : (AV.tup xs).tup? = some xs := rfl
theorem z8 (x : String) : (AV.ty x).ty? = some x := rfl
theorem OK (xs : List Int) : (AV.script xs).script? = some xs := rfl
theorem ZG (r : Nat) : (AV.ref r).int? = none := rfl
theorem n4 (r : Nat) : (AV.ref r).tup? = none := rfl
theorem UC (xs : List Int) : (AV.script xs).ref? = none := rfl
theorem j7 (xs : List AV) : (AV.tup xs).ref? = none := rfl
theorem ZH (i : Int) : (AV.int i).ref? = none := rfl
theorem UT (xs : List AV) : (aI.list xs).list? = some xs := rfl
theorem VS (xs : List (Int × AV)) : (aI.dict xs).dict? = some xs := rfl
theorem WS (xs : List Int) : (aI.iset xs).iset? = some xs := rfl
theorem RE (xs : List (String × AV)) : (aI.attrs xs).attrs? = some xs := rfl
theorem VX (c : String) (d : Nat) : (aI.inst c d).inst? = some (c, d) := rfl
theorem QH (c : String) (d : Nat) (fs : List (Option AV)) : (aI.sinst c d fs).sinst? = some (c, d, fs) := rfl
theorem PX (a b : Nat) : (aI.liter a b).liter? = some (a, b) := rfl
theorem SQ (xs : List AV) (i : Nat) : (aI.titer xs i).titer? = some (xs, i) := rfl
theorem PY (T : String) (d : Nat) : (aI.dview T d).dview? = some (T, d) := rfl
theorem RQ (x : String) (n : Nat) : (aI.bound x n).bound? = some (x, n) := rfl
theorem WX (xs : List (Int × AV)) : (aI.dict xs).list? = none := rfl
theorem WH (xs : List Int) : (aI.iset xs).list? = none := rfl
theorem VG (xs : List AV) : (aI.list xs).dict? = none := rfl
theorem VQ (xs : List Int) : (aI.iset xs).dict? = none := rfl
theorem TM (c : String) (d : Nat) (fs : List (Option AV)) : (aI.sinst c d fs).inst? = none := rfl
theorem QA (xs : List AV) (i : Nat) : (aI.titer xs i).liter? = none := rfl
theorem YX (xs : List AV) : (aI.list xs).ty? = some "list" := rfl
theorem k9 (xs : List (Int × AV)) : (aI.dict xs).ty? = some "dict" := rfl
theorem ZE (xs : List Int) : (aI.iset xs).ty? = some "set" := rfl
theorem WQ (xs : List AV) : (aI.list xs).iset? = none := rfl
theorem WU (xs : List (Int × AV)) : (aI.dict xs).iset? = none := rfl
theorem VY (r : Nat) : (AV.ref r).isNone = false := rfl
theorem VE (i : Int) : (AV.int i).isNone = false := rfl
theorem XS (x : String) : (AV.ty x).isNone = false := rfl
theorem isNone_none : AV.none.isNone = true := rfl
local macro_rules
 | `(tactic| simp! [$ts,*] $[$loc]?) =>
 let b : List Lean.Syntax := ("V_ WN UY VL CJ DZ x5 ZU RY YI x3 WF YA F8 yF m6 XR YG YK UV QZ E9 w6 z5 YJ c6 JN LD v9 YZ m5 A3 A4 B3 E5 JI ZA L_ MD CG i8 XU XK WY m4 YU WB OE D1 VO YW VV B6 D7 D4 x9 i7 XN G0 y9 D5 L4 z7 z9 K9 M1 D0 x6 z0 ZB B0 y7 ZP C8 u7 v0 m9 x4 XJ Y_ y6 YS m0 v5 ZZ ZL XW u6 E0 w9 ZM YQ XV z6 u9 YR K8 G7 F6 y0 T_ v7 YP ZW N_ LK D2 w7 w8 ZY n5 XY D6 A7 d8 v6 TY TS VH VP UX u5 z4 XZ VJ VF TR UU u4 ZR eJ bW set_at v4 List.set_cons_zero List.set_cons_succ List.length_append List.length_cons List.length_nil Nat.zero_add Nat.reduceAdd Nat.add_assoc Nat.reduceLeDiff Nat.zero_le List.length_map List.append_assoc List.cons_append List.nil_append UK i6 VI b9 ZC XQ YD ZI i9 SR UH XM XL UB XI i5 VN c7 RG QO SU XO WP UW PT PU List.lookup String.reduceEq String.reduceBEq beq_self_eq_true reduceIte true_and and_true Option.some.injEq Option.bind_some Option.map_some id_eq uG List.getElem?_cons_zero List.getElem?_cons_succ Option.join exists_eq_left' SL NZ N4 Bool.false_eq_true K7 M0 K5 bC bL bD bS bI bG N7 M9 N2 M6 ZF d7 YM z8 OK ZG n4 UC j7 ZH UT VS WS RE VX QH PX SQ PY RQ WX WH VG VQ TM QA YX k9 ZE WQ WU VY VE XS isNone_none G2 L9 K4 w5 w4 y5 XP WT UJ VA X_ YB".splitOn " ").flatMap fun s => [Mine.d "/0null /0null @0 /3Lean.Parser.Tactic.simpLemma" [Lean.mkIdent s.toName], .atom .none ","]
 pure (Mine.d "'simp /0null /1Lean.Parser.Tactic.optConfig /0null 'only /1null '[ @0 '] /3null @1 /6Lean.Parser.Tactic.simp" [Mine.dN (b ++ ts.elemsAndSeps.toList), Mine.dN (loc.toList.map (·.raw))])
section
variable {h : AH} {r k : Nat} {xs : List AV} {es : List (Int × AV)} {i : Int} {x v : AV}
theorem jH (e : h[r]? = some (.list xs, k)) (hl : xs.length <= 1000000) : cW [.ref r, x] h = some (.none, h.set r (.list (xs ++ [x]), k + 1)) := (eS e).trans (lG hl _)
theorem RT (e : h[r]? = some (.list xs, k)) (hl : xs.length <= 1000000) : tZ [.ref r] h = some (.int xs.length, h) := vY ((eS e).trans (lG hl _))
theorem QR (e : h[r]? = some (.list xs, k)) (hl : xs.length <= 1000000) (hv : xs.getLast? = some v) : uX [.ref r] h = some (v, h.set r (.list xs.dropLast, k + 1)) := (eS e).trans ((lG hl _).trans (eS hv))
theorem IP {j : Nat} (e : h[r]? = some (.list xs, k)) (hj : idxOf i xs.length = some j) (hv : xs[j]? = some v) : oX (.ref r) (.int i) h = some v := vY ((eS e).trans ((eS hj).trans hv))
theorem DN (e : h[r]? = some (.dict es, k)) (hv : xL es i = some v) : oX (.ref r) (.int i) h = some v := (d9 (eS e)).trans (vY ((eS e).trans hv))
theorem zQ (e : h[r]? = some (.dict es, k)) : AE [.ref r, .int i] h = some ((xL es i).getD .none, h) := eS e
theorem EC (e : h[r]? = some (.dict es, k)) (hl : es.length <= 1000000) : gX (.ref r) (.int i) v h = some ((), h.set r (.dict (DV es i v), k + 1)) := (eS e).trans (lG hl _)
theorem B_ (e : h[r]? = some (.dict es, k)) (hl : es.length <= 1000000 /\ (xL es i).isSome = true) : mH (.ref r) (.int i) h = some ((), h.set r (.dict (KN es i), k + 1)) := (eS e).trans (lG hl _)
theorem RO {ks : List Int} (e : h[r]? = some (.iset ks, k)) (hl : ks.length < 1000) : JP [.ref r, .int i] h = some (.none, h.set r (.iset (if ks.contains i then ks else ks ++ [i]), k + 1)) := (eS e).trans (lG hl _)
theorem KG {a b c : Option Int} (e : h[r]? = some (.list xs, k)) (hl : xs.length <= 1000000) (hc : c ≠ some 0) : jE (.ref r) a b c h = gJ (.list (pickL xs a b c)) h := (lG hc _).trans (vY ((eS e).trans (lG hl _)))
theorem CT (e : h[r]? = some (.list xs, k)) : tT [.ref r] h = gJ (.liter r 0) h := eS (vY (eS e))
theorem jL (e : h[r]? = some (.list xs, k)) : lW (.ref r) h = some "list" := eS e
theorem HJ (e : h[r]? = some (.dict es, k)) : lW (.ref r) h = some "dict" := eS e
theorem VM {ks : List Int} (e : h[r]? = some (.iset ks, k)) : lW (.ref r) h = some "set" := eS e
theorem uO {l p kl : Nat} (e : h[r]? = some (.liter l p, k)) (hl : h[l]? = some (.list xs, kl)) : tI (.ref r) h = yH r k xs[p]? (.liter l (p + 1)) h := by
 cases hx : xs[p]? with
 | none => exact (eS e).trans (vY ((eS hl).trans (congrArg (yH r k · _ h) hx)))
 | some y => exact (eS e).trans (vY ((eS hl).trans (congrArg (yH r k · _ h) hx)))
theorem IH {p : Nat} (e : h[r]? = some (.titer xs p, k)) : tI (.ref r) h = yH r k xs[p]? (.titer xs (p + 1)) h := eS e
end
theorem sV (h : AH) (n : Nat) (i : Int) : jB h (n + 1) (.int i) = some (.int i) := rfl
theorem wP (h : AH) (n : Nat) (xs : List Int) : tY (jB h (n + 1)) (xs.map .int) = some (xs.map .int) := by
 induction xs with
 | nil => rfl
 | cons x xs ih => rw [map_cons, yE, ih]; rfl
theorem uT (xs : List Int) : ∀ ys : List Int, PyData.eqvAll (xs.map .int) (ys.map .int) = decide (xs = ys) := by
 induction xs with
 | nil => intro ys; cases ys <;> simp [PyData.eqvAll]
 | cons x xs ih =>
  intro ys
  cases ys with
  | nil => simp [PyData.eqvAll]
  | cons y ys =>
   simp only [map_cons, PyData.eqvAll, PyData.eqv, ih ys]
   by_cases hx : x = y <;> by_cases hy : xs = ys <;> simp [hx, hy]
theorem HK (x y : Int) : PyData.eqv (.int x) (.int y) = decide (x = y) := by
 simp only [PyData.eqv]; by_cases h : x = y <;> simp [h]
theorem HV (x : Int) (ys : List Int) : ((ys.map PyData.int).any fun b => PyData.eqv b (.int x)) = ys.contains x := by
 induction ys with
 | nil => rfl
 | cons y ys ih =>
  simp only [map_cons, List.any_cons, ih, List.contains_cons, HK]
  by_cases h : y = x
  ·simp [h]
  ·have : x ≠ y := fun e => h e.symm
   simp [h, this]
noncomputable def IL (h : AH) (r : Nat) (xs : List Int) : Prop := ∃ k, h[r]? = some (.list (xs.map .int), k)
theorem IL.lt {h : AH} {r : Nat} {xs : List Int} (i : IL h r xs) : r < h.length := by
 obtain ⟨k, e⟩ := i; exact (List.getElem?_eq_some_iff.mp e).1
theorem bR {h : AH} {r : Nat} {x : aI × Nat} (e : h[r]? = some x) : r < h.length := (List.getElem?_eq_some_iff.mp e).1
theorem IL.mono {h h' : AH} {r : Nat} {xs : List Int} (i : IL h r xs) (p : h <+: h') : IL h' r xs := by
 obtain ⟨k, e⟩ := i; exact ⟨k, aS p e⟩
theorem yY {h : AH} {r : Nat} {ys : List Int} (x : Int) (i : IL h r ys) : sB (.int x) (.ref r) h = some (ys.contains x) := by
 obtain ⟨k, e⟩ := i
 simp! [sB, mZ, mZ, e, sV h 7, wP h 7, HV]
theorem qD {h : AH} {r : Nat} {ys : List Int} (n : Nat) (i : IL h r ys) : jB h (n + 2) (.ref r) = some (.list (ys.map .int)) := by
 obtain ⟨k, e⟩ := i
 simp! [JF, e, wP h n]
theorem lC {h : AH} {r q : Nat} {xs ys : List Int} (i : IL h r xs) (j : IL h q ys) : EL (.ref r) (.ref q) h = some (decide (xs = ys)) := by
 simp! [EL, qD 6 i, qD 6 j, PyData.eqv, uT]
theorem mP (x y : Int) (h : AH) : EL (.int x) (.int y) h = some (decide (x = y)) := by
 simp! [EL, sV h 7, HK]
theorem eP {h : AH} {r : Nat} {x : aI × Nat} (hr : r < h.length) : (h.set r x)[r]? = some x := by
 rw [List.getElem?_set]; simp [hr]
theorem bN {h : AH} {r q : Nat} {x : aI × Nat} (hn : r ≠ q) : (h.set r x)[q]? = h[q]? := by
 rw [List.getElem?_set]; simp [hn]
theorem rG {h l : AH} {r : Nat} (hr : r < h.length) : (h ++ l)[r]? = h[r]? := getElem?_append_left hr
theorem aZ (h l : AH) : h <+: h ++ l := ⟨l, rfl⟩
theorem f_ {h h' : AH} {r : Nat} {x : aI × Nat} (p : h <+: h') (hr : h.length <= r) : h <+: h'.set r x := by
 obtain ⟨t, rfl⟩ := p
 refine ⟨t.set (r - h.length) x, ?_⟩
 rw [List.set_append_right _ _ hr]
theorem jU {h h' : AH} (p : h <+: h') (l : AH) : h <+: h' ++ l := p.trans (aZ _ _)
theorem IL.set {h : AH} {r q : Nat} {xs : List Int} {x : aI × Nat} (i : IL h r xs) (hn : q ≠ r) : IL (h.set q x) r xs := by
 obtain ⟨k, e⟩ := i; exact ⟨k, by rw [bN hn]; exact e⟩
noncomputable def MF (h0 h : AH) (n : Nat) (xs : List Int) (i : Nat) : Prop :=
 (∃ k l, h[n]? = some (.liter l i, k) /\ IL h0 l xs) \/ (∃ k, h[n]? = some (.titer (xs.map .int) i, k))
theorem OV {h0 h : AH} {n : Nat} {xs : List Int} {i : Nat} (p : h0 <+: h) (I : MF h0 h n xs i) (hn : h0.length <= n) {x : Int} (hx : xs[i]? = some x) :
  ∃ o k, tI (.ref n) h = some (.ok (.int x), h.set n (o, k)) /\ MF h0 (h.set n (o, k)) n xs (i + 1) := by
 have hx' : (xs.map AV.int)[i]? = some (.int x) := by rw [getElem?_map, hx]; rfl
 rcases I with ⟨k, l, e, il⟩ | ⟨k, e⟩
 ·obtain ⟨kv, el⟩ := il.mono p
  refine ⟨.liter l (i + 1), k + 1, ?_, .inl ⟨k + 1, l, eP (bR e), il⟩⟩
  rw [uO e el, hx']; rfl
 ·refine ⟨.titer (xs.map .int) (i + 1), k + 1, ?_, .inr ⟨k + 1, eP (bR e)⟩⟩
  rw [IH e, hx']; rfl
theorem JM {h0 h : AH} {n : Nat} {xs : List Int} {i : Nat} (p : h0 <+: h) (I : MF h0 h n xs i) (hx : xs[i]? = none) :
  ∃ k, tI (.ref n) h = some (.error "StopIteration", h.set n (.junk, k)) := by
 have hx' : (xs.map AV.int)[i]? = none := by rw [getElem?_map, hx]; rfl
 rcases I with ⟨k, l, e, il⟩ | ⟨k, e⟩
 ·obtain ⟨kv, el⟩ := il.mono p
  exact ⟨k + 1, by rw [uO e el, hx']; rfl⟩
 ·exact ⟨k + 1, by rw [IH e, hx']; rfl⟩
theorem DR : dA "filterfalse" "_func" = some (some 0) := by decide
theorem ED : dA "filterfalse" "_it" = some (some 1) := by decide
theorem NW {α : Type} {xs : List α} {i : Nat} {x : α} (h : xs[i]? = some x) : xs.drop i = x :: xs.drop (i + 1) := by
 obtain ⟨hl, rfl⟩ := List.getElem?_eq_some_iff.mp h
 exact List.drop_eq_getElem_cons hl
structure wJ (h0 h : AH) (f d t b s : Nat) (xs : List Int) (i : Nat) : Prop where
 pre : h0 <+: h
 obj : ∃ k, h[f]? = some (.sinst "filterfalse" d [some (.ref b), some (.ref t)], k)
 bnd : ∃ k, h[b]? = some (.bound "list.__contains__" s, k)
 it : MF h0 h t xs i
theorem wJ.step {h0 h : AH} {f d t b s : Nat} {xs : List Int} {i j : Nat} (F : wJ h0 h f d t b s xs i) (ht : h0.length <= t) (hft : t ≠ f) (hbt : t ≠ b) {o : aI × Nat} (I : MF h0 (h.set t o) t xs j) : wJ h0 (h.set t o) f d t b s xs j where
 pre := f_ F.pre ht
 obj := by obtain ⟨k, e⟩ := F.obj; exact ⟨k, by rw [bN hft]; exact e⟩
 bnd := by obtain ⟨k, e⟩ := F.bnd; exact ⟨k, by rw [bN hbt]; exact e⟩
 it := I
theorem wG {h0 h : AH} {f d t b s i : Nat} {xs ys : List Int} (F : wJ h0 h f d t b s xs i) (hs : IL h0 s ys) (ht : h0.length <= t) (hft : t ≠ f) (hbt : t ≠ b) (K : Except String AV -> AH -> Prop)
  (hok : ∀ j x o, (xs.drop i).filter (fun z => !ys.contains z) = x :: (xs.drop j).filter (fun z => !ys.contains z) -> i < j -> wJ h0 (h.set t o) f d t b s xs j -> K (.ok (.int x)) (h.set t o))
  (hen : ∀ o, (xs.drop i).filter (fun z => !ys.contains z) = [] -> K (.error "StopIteration") (h.set t o)) : iF (mT [.ref f]) K h := by
 refine IU (bs := [("self", .ref f)]) rfl ?_
 unfold ffNext.prog
 obtain ⟨kf, hf⟩ := F.obj
 simp! [gE, hf, DR, List.lookup, uG, List.getElem?_cons_zero, Option.join]
 refine lX (fun n st => ∃ i', n = xs.length - i' /\ i <= i' /\ wJ h0 st.hp f d t b s xs i' /\ (∀ o, st.hp.set t o = h.set t o) /\ (xs.drop i').filter (fun z => !ys.contains z) = (xs.drop i).filter (fun z => !ys.contains z) /\ st.env.lookup "self" = some (.ref f) /\ st.env.lookup "func" = some (.ref b)) ?_ (xs.length - i) _ ?_
 rotate_left
 ·exact ⟨i, rfl, Nat.le_refl _, F, fun zz => rfl, rfl, rfl, rfl⟩
 rintro n ⟨e, h'⟩ zI2
 obtain ⟨i', rfl, hi, F', hset, hfil, he1, he2⟩ := zI2
 simp only at F' hset he1 he2
 obtain ⟨kf', hf'⟩ := F'.obj
 obtain ⟨kb', hb'⟩ := F'.bnd
 simp! [dJ, fR, gE, he1, hf', ED, List.lookup, uG, List.getElem?_cons_succ, List.getElem?_cons_zero, Option.join, DT]
 cases hx : xs[i']? with
 | none =>
  obtain ⟨k, e⟩ := JM F'.pre F'.it hx
  simp! [e]
  have hnil : xs.drop i' = [] := List.drop_eq_nil_iff.mpr (List.getElem?_eq_none_iff.mp hx)
  rw [hnil] at hfil
  rw [hset]
  exact hen _ hfil.symm
 | some x =>
  obtain ⟨o, k, e, I'⟩ := OV F'.pre F'.it ht hx
  have F'' := F'.step ht hft hbt I'
  obtain ⟨kb2, hb2⟩ := F''.bnd
  obtain ⟨ks, hks⟩ := hs.mono F''.pre
  have hm := yY x (hs.mono F''.pre)
  have hlt := (List.getElem?_eq_some_iff.mp hx).1
  have hd := NW hx
  simp! [e, SL, he2, lP, hb2, hks, hm, dJ, fR]
  by_cases hc : ys.contains x = true
  ·simp! [hc, Bool.not_true]
   refine ⟨xs.length - (i' + 1), by omega, i' + 1, rfl, by omega, F'', fun o => ?_, ?_, ?_, ?_⟩
   ·simp only [List.set_set]; exact hset o
   ·rw [<- hfil, hd, List.filter_cons_of_neg (by simpa using hc)]
   ·simp! [he1]
   ·simp! [he2]
  ·rw [Bool.not_eq_true] at hc
   simp! [hc, Bool.not_false]
   rw [hset] at F'' |-
   exact hok _ _ _ (by rw [<- hfil, hd, List.filter_cons_of_pos (by simpa using hc)]) (by omega) F''
theorem KP {cn : String} {mn : List AV -> dM (Except String AV)} {l r : Nat} (n : Nat) : ∀ {m : Nat} {h : AH} {a b : Unit × AH}, nJ cn mn l r n h = some a -> nJ cn mn l r m h = some b -> a = b := by
 induction n with
 | zero => intro m h a b h1; cases h1
 | succ n ih =>
  intro m h a b h1 h2
  cases m with
  | zero => cases h2
  | succ m =>
   rw [jQ] at h1 h2
   refine bA h1 fun zz h3 => aL h3 fun x ex h5 => bA h2 fun zz h4 => aL h4 fun y ey h6 => ?_
   cases ex.symm.trans ey
   clear h1 h2 h3 h4 ey
   obtain ⟨r, h'⟩ := x
   cases r with
   | error k =>
    refine bA h5 fun zz h1 => bA h6 fun zz h2 => ?_
    exact Option.some.inj (h1.symm.trans h2)
   | ok v =>
    refine aL h5 fun c ec h7 => aL h7 fun xs e1 h9 => bA h9 fun zz h1 => aL h6 fun c' ec' h8 => aL h8 fun ys e2 h10 => bA h10 fun zz h2 => ?_
    clear h5 h6 h7 h8 h9 h10
    cases ec.symm.trans ec'
    cases e1.symm.trans e2
    exact ih h1 h2
theorem BC {cn : String} {mn : List AV -> dM (Except String AV)} {l r n : Nat} {h h' : AH} {K : AV -> AH -> Prop} (e : nJ cn mn l r n h = some ((), h')) (k : K (.ref l) h') : iF (kS cn mn l r) K h := by
 have hx : ∃ hp', DC cn mn l r h hp' := ⟨h', n, e⟩
 refine qF ?_ k
 unfold kS
 rw [dif_pos hx]
 obtain ⟨m, hm⟩ := hx.choose_spec
 have := KP _ hm e
 simp only [Prod.mk.injEq, true_and] at this
 rw [this]
theorem uZ {h0 h : AH} {f d t b s i : Nat} {xs : List Int} (F : wJ h0 h f d t b s xs i) : pN "filterfalse" f h = true := by
 obtain ⟨k, e⟩ := F.obj
 simp! [pN, e, Option.getD_some]
theorem LB {h0 : AH} {f d t b s L : Nat} {xs ys : List Int} (hs : IL h0 s ys) (ht : h0.length <= t) (hft : t ≠ f) (hbt : t ≠ b) (hLt : t ≠ L) (hLf : L ≠ f) (hLb : L ≠ b) (hL0 : h0.length <= L) (hsm : xs.length < 1000000) : ∀ (n i : Nat) (h : AH) (acc : List Int), xs.length - i <= n -> wJ h0 h f d t b s xs i -> IL h L acc -> acc.length + (xs.drop i).length <= xs.length ->
  ∃ m h', nJ "filterfalse" mT L f m h = some ((), h') /\ h0 <+: h' /\ IL h' L (acc ++ (xs.drop i).filter (fun z => !ys.contains z)) := by
 intro n
 induction n with
 | zero =>
  intro i h acc hn F hL hlen
  have hnil : (xs.drop i).filter (fun z => !ys.contains z) = [] := by
   rw [List.drop_eq_nil_iff.mpr (by omega)]; rfl
  obtain ⟨r, h', e, k⟩ := mG <| show iF (mT [.ref f]) (fun r h' => r = .error "StopIteration" /\ ∃ o, h' = h.set t o) h by
   refine wG F hs ht hft hbt _ (fun j x o hx zz => ?_) (fun o zz => ⟨rfl, o, rfl⟩)
   rw [hnil] at hx; cases hx
  obtain ⟨rfl, o, rfl⟩ := k
  refine ⟨1, _, by rw [jQ, lG (uZ F), e]; rfl, f_ F.pre ht, ?_⟩
  rw [hnil, append_nil]
  exact hL.set hLt
 | succ n ih =>
  intro i h acc hn F hL hlen
  obtain ⟨r, h', e, k⟩ := mG <| show iF (mT [.ref f]) (fun r h' => (r = .error "StopIteration" /\ (xs.drop i).filter (fun z => !ys.contains z) = [] /\ ∃ o, h' = h.set t o) \/
   (∃ j x o, r = .ok (.int x) /\ (xs.drop i).filter (fun z => !ys.contains z) = x :: (xs.drop j).filter (fun z => !ys.contains z) /\ i < j /\ wJ h0 h' f d t b s xs j /\ h' = h.set t o)) h by
   refine wG F hs ht hft hbt _ (fun j x o hx hij F' => ?_) (fun o hx => .inl ⟨rfl, hx, o, rfl⟩)
   exact .inr ⟨j, x, o, rfl, hx, hij, F', rfl⟩
  rcases k with ⟨rfl, hnil, o, rfl⟩ | ⟨j, x, o, rfl, hx, hij, F', rfl⟩
  ·refine ⟨1, _, by rw [jQ, lG (uZ F), e]; rfl, f_ F.pre ht, ?_⟩
   rw [hnil, append_nil]
   exact hL.set hLt
  ·obtain ⟨kL, eL⟩ := hL.set (x := o) hLt
   have hxl : (xs.drop i).length ≠ 0 := by
    intro h0
    rw [length_eq_zero_iff.mp h0] at hx; cases hx
   rw [List.length_drop] at hxl hlen
   have hLl := bR eL
   let h2 : AH := (h.set t o).set L (.list (acc.map AV.int ++ [.int x]), kL + 1)
   have F2 : wJ h0 h2 f d t b s xs j := {
    pre := f_ F'.pre hL0
    obj := by obtain ⟨k, e⟩ := F'.obj; exact ⟨k, by rw [bN hLf]; exact e⟩
    bnd := by obtain ⟨k, e⟩ := F'.bnd; exact ⟨k, by rw [bN hLb]; exact e⟩
    it := by
     rcases F'.it with ⟨k, l, e, il⟩ | ⟨k, e⟩
     ·exact .inl ⟨k, l, by rw [bN (Ne.symm hLt)]; exact e, il⟩
     ·exact .inr ⟨k, by rw [bN (Ne.symm hLt)]; exact e⟩ }
   have IL2 : IL h2 L (acc ++ [x]) := ⟨kL + 1, by rw [eP hLl]; simp⟩
   obtain ⟨m, h', e', p', il'⟩ := ih j h2 (acc ++ [x]) (by omega) F2 IL2 (by simp only [length_append, List.length_drop, length_singleton]; omega)
   refine ⟨m + 1, h', ?_, p', ?_⟩
   ·rw [jQ, lG (uZ F), e]
    show bO ((h.set t o)[L]?) _ = _
    rw [eL]
    exact (lG (by rw [length_map]; omega) _).trans e'
   ·rw [hx, List.append_cons]; exact il'
noncomputable def FL (h : AH) (v : AV) (xs : List Int) : Prop := v = .tup (xs.map .int) \/ ∃ r, v = .ref r /\ IL h r xs
theorem GO (f : Nat) (h : AH) : uF [.ref f] h = some (.ref f, h) := by
 have : iF (uF [.ref f]) (fun v h' => v = .ref f /\ h' = h) h := by
  refine gH (bs := [("self", .ref f)]) rfl ?_
  unfold ffIter.prog
  simp! [id_eq]
 obtain ⟨v, h', e, rfl, rfl⟩ := mG this
 exact e
theorem BV {cn : String} {mi : List AV -> dM AV} {mn : List AV -> dM (Except String AV)} {r : Nat} {K : AV -> AH -> Prop} {h : AH} (hi : ∀ x, pN cn r (h ++ x) = true) (hm : ∀ H, mi [.ref r] H = some (.ref r, H))
  (hk : iF (kS cn mn h.length r) K (h ++ [(.list [], 2)])) : iF (rA cn mi mn [.ref r]) K h := by
 have hr : ∀ k, mE h.length (h ++ [(.list [], k)]) = some ((), h ++ [(.list [], k + 1)]) := by
  intro k
  simp! [mE]
  rfl
 obtain ⟨v, h', e, q⟩ := mG hk
 refine qF ?_ q
 simp! [rA, hr, hi, hm, and_self]
 exact e
theorem vE {h : AH} {s : Nat} {fl : AV} {xs ys : List Int} {K : AV -> AH -> Prop} (hf : FL h fl xs) (hs : IL h s ys) (hsm : xs.length < 1000000) (k : ∀ r h', h <+: h' -> h.length <= r -> IL h' r (xs.filter (fun z => !ys.contains z)) -> K (.ref r) h') : iF (qX [fl, .ref s]) K h := by
 refine gH (bs := [("flist", fl), ("skip", .ref s)]) rfl ?_
 unfold filter.prog B4 AY
 obtain ⟨ks, es⟩ := hs
 have hsl := bR es
 simp! [tS, es]
 refine gH (bs := [("self", .ref (h.length + 2)), ("function", .ref h.length), ("iterable", fl)]) rfl ?_
 unfold ffInit.prog
 have s1 : ∀ v, sput [] 1 v = [none, some v] := fun zz => rfl
 have s2 : ∀ u v, sput [none, some v] 0 u = [some u, some v] := fun zz zz => rfl
 obtain ⟨o, ho, hit⟩ : ∃ o, (∀ l, tT [fl] (h ++ l) = gJ o (h ++ l)) /\ (o = .titer (xs.map .int) 0 \/ ∃ r, o = .liter r 0 /\ IL h r xs) := by
  rcases hf with rfl | ⟨r, rfl, il⟩
  ·exact ⟨_, fun zz => rfl, .inl rfl⟩
  ·refine ⟨.liter r 0, fun l => ?_, .inr ⟨r, rfl, il⟩⟩
   obtain ⟨k, e⟩ := il.mono (aZ h l)
   exact CT e
 simp! [ho, eX, ED, DR, s1, s2]
 unfold zP
 have fin : ∀ (L : Nat) (H : AH), wJ h H (h.length + 2) (h.length + 1) (h.length + 3) h.length s xs 0 -> IL H L [] -> L = h.length + 4 -> iF (kS "filterfalse" mT L (h.length + 2)) (yA [("flist", fl), ("skip", AV.ref s)] (VW (zB K))) H := by
  rintro L H F hL rfl
  obtain ⟨m, h', e, p, il⟩ := LB (ys := ys) ⟨_, es⟩ (by omega) (by omega) (by omega) (by omega) (by omega) (by omega) (by omega) hsm _ 0 H [] (Nat.le_refl _) F hL (by simp)
  refine BC e ?_
  simp! [id_eq]
  exact k _ _ p (by omega) il
 refine BV (fun x => ?_) (GO _) ?_
 ·simp! [pN, Option.getD_some]
 ·simp! [id_eq]
  refine fin _ _ ⟨aZ _ _, ⟨2, ?_⟩, ⟨0, ?_⟩, ?_⟩ ⟨2, ?_⟩ rfl
  ·simp! [id_eq]
  ·simp! [id_eq]
  ·rcases hit with rfl | ⟨r, rfl, il⟩
   ·exact .inr ⟨0, by simp! [id_eq]⟩
   ·exact .inl ⟨0, r, by simp! [id_eq], il⟩
  ·simp! [id_eq]
   rfl
noncomputable def pE : List Int -> List Int -> List Int -> List Int × List Int := List.rec (fun act miss => (miss, act)) fun x zz ih act miss => if act.contains x then ih (act.erase x) miss else ih act (miss ++ [x])
theorem tC (x : Int) (r act miss : List Int) : pE (x :: r) act miss = if act.contains x then pE r (act.erase x) miss else pE r act (miss ++ [x]) := rfl
theorem sT (xs : List Int) (x : Int) : ((xs ++ [x]).map AV.int).getLast? = some (.int x) := by
 rw [map_append]; simp
theorem u_ {α : Type} (zs : List α) : zs = [] \/ ∃ w x, zs = w ++ [x] := by
 rcases List.eq_nil_or_concat zs with h | ⟨w, x, h⟩
 ·exact .inl h
 ·exact .inr ⟨w, x, by rw [h, List.concat_eq_append]⟩
theorem RU {h : AH} {r q : Nat} {xs ys : List Int} {K : AV -> AH -> Prop} (hx : IL h r xs) (hy : IL h q ys) (hn : r ≠ q) (sx : xs.length <= 100) (sy : ys.length <= 100)
  (k : ∀ h' m, h.length <= m -> h.length <= h'.length -> (∀ i, i < h.length -> i ≠ r -> i ≠ q -> h'[i]? = h[i]?) -> IL h' m (pE xs.reverse ys []).1 -> IL h' q (pE xs.reverse ys []).2 -> K (.tup [.ref m, .ref q]) h') : iF (US [.ref r, .ref q]) K h := by
 refine gH (bs := [("expected", .ref r), ("actual", .ref q)]) rfl ?_
 unfold uld.prog
 have hrl := hx.lt
 have hql := hy.lt
 simp! [id_eq]
 refine lX (fun n st => ∃ zs act miss, n = zs.length /\ zs.length <= 100 /\ act.length <= 100 /\ miss.length + zs.length <= 100 /\ IL st.hp r zs /\ IL st.hp q act /\ IL st.hp h.length miss /\ pE zs.reverse act miss = pE xs.reverse ys [] /\ h.length <= st.hp.length /\ (∀ i, i < h.length -> i ≠ r -> i ≠ q -> st.hp[i]? = h[i]?) /\
  st.env.lookup "expected" = some (.ref r) /\ st.env.lookup "actual" = some (.ref q) /\ st.env.lookup "missing" = some (.ref h.length)) ?_ xs.length _ ?_
 rotate_left
 ·refine ⟨xs, ys, [], rfl, sx, sy, by simpa using sx, hx.mono (aZ _ _), hy.mono (aZ _ _), ⟨0, by rw [bW]; rfl⟩, rfl, by simp, fun i hi zz zz => rG hi, ?_, ?_, ?_⟩ <;> simp! [id_eq]
  all_goals (simp! [hO, fN])
 rintro n ⟨e, h'⟩ zI2
 obtain ⟨zs, act, miss, rfl, sz, sa, sm, iz, ia, im, hu, hl, hkeep, e1, e2, e3⟩ := zI2
 simp only at iz ia im hl hkeep e1 e2 e3
 obtain ⟨kz, ez⟩ := iz
 obtain ⟨ka, ea⟩ := ia
 obtain ⟨km, em⟩ := im
 have lz := bR ez
 have la := bR ea
 have lm := bR em
 have nrm : r ≠ h.length := by omega
 have nqm : q ≠ h.length := by omega
 rcases u_ zs with rfl | ⟨w, x, rfl⟩
 ·simp! [e1, dJ, fR, ez, List.map_nil, List.isEmpty_nil, Bool.not_true, e3, e2]
  refine k _ _ (Nat.le_refl _) hl hkeep ?_ ?_
  ·rw [<- hu]; exact ⟨_, em⟩
  ·rw [<- hu]; exact ⟨_, ea⟩
 ·have hrev : (w ++ [x]).reverse = x :: w.reverse := by simp
  have hg := sT w x
  have hd : ((w ++ [x]).map AV.int).dropLast = w.map .int := by simp
  have hlen : w.length + 1 <= 100 := by simpa using sz
  have hie : ((w ++ [x]).map AV.int).isEmpty = false := by simp
  have hle : w.length + 1 <= 1000000 := by omega
  have hrz : r < (h'.set r (aI.list (w.map .int), kz + 1)).length := by simpa using lz
  refine Mine.gen (h'.set r (aI.list (w.map .int), kz + 1)) fun h1 eh1 => ?_
  have ea1 : h1[q]? = some (aI.list (act.map .int), ka) := by rw [<- eh1, bN hn]; exact ea
  have em1 : h1[h.length]? = some (aI.list (miss.map .int), km) := by rw [<- eh1, bN nrm]; exact em
  have er1 : h1[r]? = some (aI.list (w.map .int), kz + 1) := by rw [<- eh1]; exact eP lz
  have l1 : h1.length = h'.length := by rw [<- eh1]; exact length_set
  have k1 : ∀ i, i < h.length -> i ≠ r -> i ≠ q -> h1[i]? = h[i]? := fun i a b c => by rw [<- eh1, bN (Ne.symm b)]; exact hkeep i a b c
  have hact : act.length <= 1000000 := by omega
  have hmiss : miss.length <= 1000000 := by simp at sm; omega
  simp! [e1, dJ, fR, ez, hie, Bool.not_false, length_map, hle, e2, lW, uX, hg, hd, eh1, ea1, qQ, iE, hact]
  by_cases hc : act.contains x = true
  ·simp! [hc]
   refine ⟨w.length, by omega, w, act.erase x, miss, rfl, by omega, ?_, by simp at sm; omega, ⟨kz + 1, ?_⟩, ⟨ka + 1, eP (by omega)⟩, ⟨km, ?_⟩, ?_, by simp; omega, fun i a b c => ?_, ?_, ?_, ?_⟩
   ·have := List.length_erase_le (a := x) (l := act); omega
   ·rw [bN (Ne.symm hn)]; exact er1
   ·rw [bN nqm]; exact em1
   ·rw [<- hu, hrev, tC, if_pos hc]
   ·rw [bN (Ne.symm c)]; exact k1 i a b c
   ·simp! [e1]
   ·simp! [e2]
   ·simp! [e3]
  ·rw [Bool.not_eq_true] at hc
   simp! [hc, e3, lW, em1, cW, hmiss, Bool.false_eq_true]
   refine ⟨w.length, by omega, w, act, miss ++ [x], rfl, by omega, sa, by simp at sm |-; omega, ⟨kz + 1, ?_⟩, ⟨ka, ?_⟩, ⟨km + 1, ?_⟩, ?_, by simp; omega, fun i a b c => ?_, ?_, ?_, ?_⟩
   ·rw [bN (Ne.symm nrm)]; exact er1
   ·rw [bN (Ne.symm nqm)]; exact ea1
   ·rw [eP (by omega)]; simp
   ·rw [<- hu, hrev, tC, if_neg (by rw [hc]; simp)]
   ·rw [bN (by omega)]; exact k1 i a b c
   ·simp! [e1]
   ·simp! [e2]
   ·simp! [e3]
inductive vW (h : AH) : List Nat -> List (List Int) -> Prop
 | nil : vW h [] []
 | cons {r : Nat} {xs : List Int} {rs : List Nat} {xss : List (List Int)} : IL h r xs -> vW h rs xss -> vW h (r :: rs) (xs :: xss)
theorem vW.mono {h h' : AH} (p : ∀ r xs, IL h r xs -> IL h' r xs) {rs : List Nat} {xss : List (List Int)} (i : vW h rs xss) : vW h' rs xss := by
 induction i with
 | nil => exact .nil
 | cons a _ ih => exact .cons (p _ _ a) ih
theorem vW.set {h : AH} {q : Nat} {x : aI × Nat} {rs : List Nat} {xss : List (List Int)} (i : vW h rs xss) (hq : q ∉ rs) : vW (h.set q x) rs xss := by
 induction i with
 | nil => exact .nil
 | cons a _ ih =>
  simp only [mem_cons, not_or] at hq
  exact .cons (a.set hq.1) (ih hq.2)
theorem vW.snoc {h : AH} {rs : List Nat} {xss : List (List Int)} {r : Nat} {xs : List Int} (i : vW h rs xss) (j : IL h r xs) : vW h (rs ++ [r]) (xss ++ [xs]) := by
 induction i with
 | nil => exact .cons j .nil
 | cons a _ ih => exact .cons a ih
theorem vW.len {h : AH} {rs : List Nat} {xss : List (List Int)} (i : vW h rs xss) : rs.length = xss.length := by
 induction i with
 | nil => rfl
 | cons _ _ ih => simp [ih]
noncomputable def RL (h : AH) (lo R : Nat) (xss : List (List Int)) : Prop := ∃ refs k, h[R]? = some (.list (refs.map .ref), k) /\ (R ∉ refs /\ ∀ r ∈ refs, lo <= r) /\ vW h refs xss
theorem RL.mono {h h' : AH} {lo R : Nat} {xss : List (List Int)} (i : RL h lo R xss) (p : h <+: h') : RL h' lo R xss := by
 obtain ⟨refs, k, e, hn, is⟩ := i
 exact ⟨refs, k, aS p e, hn, is.mono fun zz zz a => a.mono p⟩
theorem RL.set {h : AH} {lo R q : Nat} {x : aI × Nat} {xss : List (List Int)} (i : RL h lo R xss) (h1 : q < lo) (h2 : q ≠ R) : RL (h.set q x) lo R xss := by
 obtain ⟨refs, k, e, hn, is⟩ := i
 exact ⟨refs, k, by rw [bN h2]; exact e, hn, is.set fun hq => by have := hn.2 q hq; omega⟩
theorem xM {α : Type} {p : α -> Bool} {xs : List α} {x : α} (hx : x ∈ xs) (hp : p x = false) : (xs.filter p).length < xs.length := by
 induction xs with
 | nil => cases hx
 | cons y ys ih =>
  rw [filter_cons, length_cons]
  rcases mem_cons.mp hx with rfl | hx
  ·rw [if_neg (by rw [hp]; exact Bool.false_ne_true)]
   exact Nat.lt_succ_of_le (length_filter_le p ys)
  ·have := ih hx
   split
   ·exact Nat.succ_lt_succ this
   ·exact Nat.lt_succ_of_lt this
theorem qY.put {ns : List String} {e e' : List (String × AV)} {x : String} {v : AV} (h : qY ns e e') (hx : x ∉ ns) : qY ns e (put x v e') := fun y hy => by
 rw [kX, if_neg (fun q => hx (by rw [<- q]; exact hy))]; exact h y hy
noncomputable def Sub (h h' : AH) : Prop := ∀ (i : Nat) (xs : List AV) (k : Nat), h[i]? = some (.list xs, k) -> h'[i]? = some (.list xs, k)
noncomputable def LI (xs : List Int) : PyData := .list (xs.map .int)
theorem OP (h : AH) (xs : List Int) {T k : Nat} (i : IL h T xs) : EL (.ref T) (.ref h.length) (h ++ [(.list [], k)]) = some (decide (xs = [])) :=
 lC (ys := []) (i.mono (aZ _ _)) ⟨k, bW _ _⟩
theorem fU {h h1 h2 : AH} (p : h <+: h1) (hs : ∀ i, i < h.length -> h2[i]? = h1[i]?) : h <+: h2 := by
 rw [List.prefix_iff_getElem?] at p |-
 intro i hi
 rw [hs i hi]; exact p i hi
theorem IL.same {h1 h2 : AH} {r : Nat} {xs : List Int} (i : IL h1 r xs) (hs : h2[r]? = h1[r]?) : IL h2 r xs := by
 obtain ⟨k, e⟩ := i; exact ⟨k, hs.trans e⟩
noncomputable def rS (xs ys : List Int) : List Int := xs.filter fun z => !ys.contains z
theorem JV (xs ys : List Int) : (rS xs ys).length <= xs.length := length_filter_le _ _
theorem FG {row kept found : List Int} (hs : ∀ x ∈ found, x ∈ row /\ x ∉ kept) (hne : found ≠ []) : (rS row (kept ++ found)).length < (rS row kept).length := by
 obtain ⟨x, hx⟩ := List.exists_mem_of_ne_nil _ hne
 obtain ⟨h1, h2⟩ := hs x hx
 have e : rS row (kept ++ found) = (rS row kept).filter fun z => !found.contains z := by
  unfold rS
  rw [List.filter_filter]
  congr 1; funext z
  simp only [List.contains_eq_mem, mem_append, Bool.decide_or, Bool.not_or]
  rw [Bool.and_comm]
 rw [e]
 exact xM (x := x) (mem_filter.mpr ⟨h1, by simpa using h2⟩) (by simpa using hx)
theorem pY {h : AH} {r q k k' : Nat} {xs ys : List AV} (e1 : h[r]? = some (.list xs, k)) (e2 : h[q]? = some (.list ys, k')) (hl : xs.length + ys.length <= 1000000) : oB .add (.ref r) (.ref q) h = gJ (.list (xs ++ ys)) h := by
 show bO h[r]? _ = _
 rw [e1]
 show bO h[q]? _ = _
 rw [e2]
 exact lG hl _
noncomputable def qP {α : Type} (f : Int -> α) (v : Int) (x : α) : Int -> α := fun w => if w = v then x else f w
theorem fM {α : Type} (f : Int -> α) (v : Int) (x : α) : qP f v x v = x := if_pos rfl
theorem dL {α : Type} (f : Int -> α) {v w : Int} (x : α) (h : w ≠ v) : qP f v x w = f w := if_neg h
structure mS (h : AH) (lo s a D : Nat) (rv : AV) (pa fi : Int) (ks : List Int) (ni sr dd : Int -> Nat) (np : Int -> Int) (su : Int -> List Int) : Prop where
 cls : ∃ k, h[s]? = some (.inst "TopologicalSorter" a, k)
 att : ∃ k, h[a]? = some (.attrs [("_node2info", .ref D), ("_ready_nodes", rv), ("_npassedout", .int pa), ("_nfinished", .int fi)], k)
 dct : ∃ k, h[D]? = some (.dict (ks.map fun k => (k, .ref (ni k))), k)
 inf : ∀ v ∈ ks, ∃ k, h[ni v]? = some (.sinst "_NodeInfo" (dd v) [some (.int v), some (.int (np v)), some (.ref (sr v))], k)
 suc : ∀ v ∈ ks, IL h (sr v) (su v)
 low : lo <= s /\ lo <= a /\ lo <= D /\ ∀ v ∈ ks, lo <= ni v /\ lo <= sr v
 inj : ∀ u ∈ ks, ∀ v ∈ ks, sr u = sr v -> u = v
 nd : ks.Nodup
 sml : ks.length <= 1000
theorem rQ (ni : Int -> Nat) (v : Int) : ∀ ks : List Int, xL (ks.map fun k => (k, AV.ref (ni k))) v = if v ∈ ks then some (.ref (ni v)) else none
 | [] => rfl
 | k :: ks => by
  have ih := rQ ni v ks
  unfold xL at ih |-
  rw [map_cons, List.find?_cons]
  by_cases h : k = v
  ·subst h; simp
  ·have h' : v ≠ k := fun e => h e.symm
   simp only [h, decide_false, ih, mem_cons, h', false_or]
theorem MM (ni : Int -> Nat) (v : Int) (x : AV) (ks : List Int) (hv : v ∉ ks) : DV (ks.map fun k => (k, AV.ref (ni k))) v x = ks.map (fun k => (k, AV.ref (ni k))) ++ [(v, x)] := by
 unfold DV
 rw [if_neg]
 simp only [List.any_map, List.any_eq_true, Function.comp, decide_eq_true_eq, not_exists, not_and]
 intro k hk e; exact hv (e ▸ hk)
theorem sD {h : AH} {D k : Nat} {ni : Int -> Nat} {ks : List Int} {v : Int} (e : h[D]? = some (.dict (ks.map fun k => (k, .ref (ni k))), k)) (hv : v ∈ ks) : oX (.ref D) (.int v) h = some (.ref (ni v)) := by
 exact DN e (by rw [rQ, if_pos hv])
theorem FI : dA "TopologicalSorter" "_node2info" = some none := by decide
theorem MZ : dA "TopologicalSorter" "_ready_nodes" = some none := by decide
theorem PC : dA "TopologicalSorter" "_npassedout" = some none := by decide
theorem PB : dA "TopologicalSorter" "_nfinished" = some none := by decide
theorem IK : dA "_NodeInfo" "node" = some (some 0) := by decide
theorem MC : dA "_NodeInfo" "npredecessors" = some (some 1) := by decide
theorem UE : dA "_NodeInfo" "successors" = some (some 2) := by decide
section
variable {h : AH} {lo s a D : Nat} {rv : AV} {pa fi : Int} {ks : List Int} {ni sr dd : Int -> Nat} {np : Int -> Int} {su : Int -> List Int}
theorem mS.own (S : mS h lo s a D rv pa fi ks ni sr dd np su) {n : String} (h1 : n ≠ "_node2info") (h2 : n ≠ "_ready_nodes") (h3 : n ≠ "_npassedout") (h4 : n ≠ "_nfinished") : uB "TopologicalSorter" n (.ref s) h = some () := by
 obtain ⟨k, e⟩ := S.cls
 obtain ⟨k', e'⟩ := S.att
 have b1 : (n == "_node2info") = false := by simpa using h1
 have b2 : (n == "_ready_nodes") = false := by simpa using h2
 have b3 : (n == "_npassedout") = false := by simpa using h3
 have b4 : (n == "_nfinished") = false := by simpa using h4
 simp! [uB, e, e', if_true, List.lookup, b1, b2, b3, b4, Option.isNone_none]
theorem mS.a_n2i (S : mS h lo s a D rv pa fi ks ni sr dd np su) : gE dA "_node2info" (.ref s) h = some (.ref D) := by
 obtain ⟨k, e⟩ := S.cls
 obtain ⟨k', e'⟩ := S.att
 simp! [gE, e, e', FI]
theorem mS.a_rn (S : mS h lo s a D rv pa fi ks ni sr dd np su) (hr : rv = .none \/ ∃ r, rv = .ref r) : gE dA "_ready_nodes" (.ref s) h = some rv := by
 obtain ⟨k, e⟩ := S.cls
 obtain ⟨k', e'⟩ := S.att
 rcases hr with rfl | ⟨r, rfl⟩ <;> simp! [gE, e, e', MZ]
theorem mS.a_po (S : mS h lo s a D rv pa fi ks ni sr dd np su) : gE dA "_npassedout" (.ref s) h = some (.int pa) := by
 obtain ⟨k, e⟩ := S.cls
 obtain ⟨k', e'⟩ := S.att
 simp! [gE, e, e', PC]
theorem mS.a_nf (S : mS h lo s a D rv pa fi ks ni sr dd np su) : gE dA "_nfinished" (.ref s) h = some (.int fi) := by
 obtain ⟨k, e⟩ := S.cls
 obtain ⟨k', e'⟩ := S.att
 simp! [gE, e, e', PB]
theorem mS.n_node (S : mS h lo s a D rv pa fi ks ni sr dd np su) {v : Int} (hv : v ∈ ks) : gE dA "node" (.ref (ni v)) h = some (.int v) := by
 obtain ⟨k, e⟩ := S.inf v hv
 simp! [gE, e, IK]
theorem mS.n_np (S : mS h lo s a D rv pa fi ks ni sr dd np su) {v : Int} (hv : v ∈ ks) : gE dA "npredecessors" (.ref (ni v)) h = some (.int (np v)) := by
 obtain ⟨k, e⟩ := S.inf v hv
 simp! [gE, e, MC]
theorem mS.n_su (S : mS h lo s a D rv pa fi ks ni sr dd np su) {v : Int} (hv : v ∈ ks) : gE dA "successors" (.ref (ni v)) h = some (.ref (sr v)) := by
 obtain ⟨k, e⟩ := S.inf v hv
 simp! [gE, e, UE]
theorem bT {h : AH} {i j : Nat} {x y : aI × Nat} (h1 : h[i]? = some x) (h2 : h[j]? = some y) (hn : x ≠ y) : i ≠ j := fun e => hn (by subst e; rw [h1] at h2; exact Option.some.inj h2)
noncomputable def hG (R : Nat) (h h' : AH) : Prop := (∀ x o k, h[x]? = some (.list o, k) -> x ≠ R -> h'[x]? = some (.list o, k)) /\ h.length <= h'.length
theorem hG.refl (R : Nat) (h : AH) : hG R h h := ⟨fun zz zz zz e zz => e, Nat.le_refl _⟩
theorem hG.trans {R : Nat} {h h' h'' : AH} (a : hG R h h') (b : hG R h' h'') : hG R h h'' := ⟨fun x o k e hn => b.1 _ _ _ (a.1 _ _ _ e hn) hn, Nat.le_trans a.2 b.2⟩
theorem mS.set_np (S : mS h lo s a D rv pa fi ks ni sr dd np su) {v : Int} (hv : v ∈ ks) (x : Int) : ∃ h', eX dA "npredecessors" (.ref (ni v)) (.int x) h = some ((), h') /\ mS h' lo s a D rv pa fi ks ni sr dd (qP np v x) su /\ (∀ i, i ≠ ni v -> h'[i]? = h[i]?) /\ h'.length = h.length /\ (∀ R, hG R h h') := by
 obtain ⟨k, e⟩ := S.inf v hv
 have hs : sput [some (.int v), some (.int (np v)), some (.ref (sr v))] 1 (.int x) = [some (.int v), some (.int x), some (.ref (sr v))] := rfl
 refine ⟨h.set (ni v) (.sinst "_NodeInfo" (dd v) [some (.int v), some (.int x), some (.ref (sr v))], k + 1), by simp! [eX, e, MC, hs], ?_, fun i hi => bN (Ne.symm hi), length_set, fun R => ⟨fun i o k' e' hn => ?_, by rw [length_set]; exact Nat.le_refl _⟩⟩
 ·obtain ⟨k1, e1⟩ := S.cls
  obtain ⟨k2, e2⟩ := S.att
  obtain ⟨k3, e3⟩ := S.dct
  refine ⟨⟨k1, ?_⟩, ⟨k2, ?_⟩, ⟨k3, ?_⟩, fun u hu => ?_, fun u hu => ?_, S.low, S.inj, S.nd, S.sml⟩
  ·rw [bN (bT e e1 (by simp))]; exact e1
  ·rw [bN (bT e e2 (by simp))]; exact e2
  ·rw [bN (bT e e3 (by simp))]; exact e3
  ·by_cases huv : u = v
   ·subst huv
    exact ⟨k + 1, by rw [eP (bR e), fM]⟩
   ·obtain ⟨k4, e4⟩ := S.inf u hu
    refine ⟨k4, ?_⟩
    rw [bN (bT e e4 (fun h => by simp only [Prod.mk.injEq, aI.sinst.injEq, List.cons.injEq, Option.some.injEq, AV.int.injEq, true_and] at h; exact huv h.1.2.1.symm)), dL _ _ huv]; exact e4
  ·obtain ⟨k5, e5⟩ := S.suc u hu
   exact ⟨k5, by rw [bN (bT e e5 (by simp))]; exact e5⟩
 ·rw [bN (bT e e' (by simp))]; exact e'
noncomputable def nC (ks : List Int) (v : Int) : List Int := if v ∈ ks then ks else ks ++ [v]
theorem nG {ks : List Int} {v x : Int} : x ∈ nC ks v ↔ x ∈ ks \/ x = v := by
 unfold nC; split
 ·rename_i h; exact ⟨.inl, fun | .inl a => a | .inr a => a ▸ h⟩
 ·simp
theorem GI {h : AH} {f d k : Nat} {v : Int} {K : AV -> AH -> Prop} (e : h[f]? = some (.sinst "_NodeInfo" d [], k)) (kk : K .none ((h ++ [(aI.list [], 0)]).set f (.sinst "_NodeInfo" d [some (.int v), some (.int 0), some (.ref h.length)], k + 3))) : iF (AL [.ref f, .int v]) K h := by
 refine gH (bs := [("self", .ref f), ("node", .int v)]) rfl ?_
 unfold niInit.prog
 have s1 : sput [] 0 (.int v) = [some (.int v)] := rfl
 have s2 : sput [some (.int v)] 1 (.int 0) = [some (.int v), some (.int 0)] := rfl
 have s3 : sput [some (.int v), some (.int 0)] 2 (.ref h.length) = [some (.int v), some (.int 0), some (.ref h.length)] := rfl
 have hf := bR e
 have e1 := fun x => eP (x := x) hf
 refine Mine.gen (h.set f (.sinst "_NodeInfo" d [some (.int v)], k + 1)) fun h1 eh1 => ?_
 have g1 : h1[f]? = some (.sinst "_NodeInfo" d [some (.int v)], k + 1) := eh1 ▸ eP hf
 have l1 : h1.length = h.length := eh1 ▸ length_set
 refine Mine.gen (h1.set f (.sinst "_NodeInfo" d [some (.int v), some (.int 0)], k + 2)) fun h2 eh2 => ?_
 have g2 : h2[f]? = some (.sinst "_NodeInfo" d [some (.int v), some (.int 0)], k + 2) := eh2 ▸ eP (by omega)
 have l2 : h2.length = h.length := by rw [<- eh2, length_set, l1]
 have g3 : (h2 ++ [(aI.list [], 0)])[f]? = some (.sinst "_NodeInfo" d [some (.int v), some (.int 0)], k + 2) := by rw [rG (by omega)]; exact g2
 have fin : (h2 ++ [(aI.list [], 0)]).set f (.sinst "_NodeInfo" d [some (.int v), some (.int 0), some (.ref h.length)], k + 3) = (h ++ [(aI.list [], 0)]).set f (.sinst "_NodeInfo" d [some (.int v), some (.int 0), some (.ref h.length)], k + 3) := by
  rw [<- eh2, <- eh1, List.set_set, List.set_append_left _ _ (by rw [length_set]; exact hf), List.set_append_left _ _ hf, List.set_set]
 simp! [eX, e, IK, MC, UE, s1, s2, s3, eh1, g1, eh2, g2, l2, g3, fin]
 exact kk
theorem H_ (S : mS h lo s a D rv pa fi ks ni sr dd np su) {v : Int} {K : AV -> AH -> Prop} (hlo : lo <= h.length) (hv : v ∈ ks \/ (np v = 0 /\ su v = [])) (hsm : ks.length < 1000)
  (k : ∀ h' ni' sr' dd', mS h' lo s a D rv pa fi (nC ks v) ni' sr' dd' np su -> h.length <= h'.length -> (∀ i, i < h.length -> i ≠ D -> h'[i]? = h[i]?) -> (∀ j, j < h.length -> (∀ u ∈ ks, sr u ≠ j) -> ∀ u ∈ nC ks v, sr' u ≠ j) -> K (.ref (ni' v)) h') : iF (QJ [.ref s, .int v]) K h := by
 refine gH (bs := [("self", .ref s), ("node", .int v)]) rfl ?_
 unfold gni.prog
 obtain ⟨kD, eD⟩ := S.dct
 have hn := S.a_n2i
 by_cases hm : v ∈ ks
 ·have ek : nC ks v = ks := if_pos hm
  have hg : AE [.ref D, .int v] h = some (.ref (ni v), h) := (zQ eD).trans (by rw [rQ, if_pos hm]; rfl)
  simp! [hn, lW, eD, hg]
  exact k h ni sr dd (by rw [ek]; exact S) (Nat.le_refl _) (fun zz zz zz => rfl) fun j zz hj => by rw [ek]; exact hj
 ·have ek : nC ks v = ks ++ [v] := if_neg hm
  have hg : AE [.ref D, .int v] h = some (.none, h) := (zQ eD).trans (by rw [rQ, if_neg hm]; rfl)
  simp! [hn, lW, eD, hg]
  unfold sR
  simp! [id_eq]
  obtain ⟨hnp, hsu⟩ := hv.resolve_left hm
  have lD := bR eD
  refine GI (d := h.length) (k := 0) ?_ ?_
  ·rw [eJ]; rfl
  simp! [id_eq]
  refine Mine.gen (h ++ [(aI.attrs [], 0), (aI.sinst "_NodeInfo" h.length [some (.int v), some (.int 0), some (.ref (h.length + 2))], 3), (aI.list [], 0)]) fun H eH => ?_
  have pH : h <+: H := eH ▸ aZ _ _
  have eDH := aS pH eD
  have kl : (ks.map fun k => (k, AV.ref (ni k))).length <= 1000000 := by rw [length_map]; omega
  obtain ⟨k1, e1⟩ := S.cls
  obtain ⟨k2, e2⟩ := S.att
  have hn2 : gE dA "_node2info" (.ref s) H = some (.ref D) := by
   have e1' := aS pH e1
   have e2' := aS pH e2
   simp! [gE, e1', e2', FI]
  have kl' : ks.length <= 1000000 := by omega
  simp! [eH, hn2, gX, eDH, kl', MM ni v _ ks hm]
  refine Mine.gen (H.set D (aI.dict (ks.map (fun k => (k, AV.ref (ni k))) ++ [(v, .ref (h.length + 1))]), kD + 1)) fun H2 eH2 => ?_
  rw [eH2]
  have same : ∀ i, i ≠ D -> H2[i]? = H[i]? := fun i hi => eH2 ▸ bN (Ne.symm hi)
  have gN : H[h.length + 1]? = some (.sinst "_NodeInfo" h.length [some (.int v), some (.int 0), some (.ref (h.length + 2))], 3) := eH ▸ eJ _ _ 1
  have gL : H[h.length + 2]? = some (.list [], 0) := eH ▸ eJ _ _ 2
  have hmv : ∀ u ∈ ks, u ≠ v := fun u hu e => hm (e ▸ hu)
  have hS : mS H2 lo s a D rv pa fi (nC ks v) (qP ni v (h.length + 1)) (qP sr v (h.length + 2)) (qP dd v h.length) np su := by
   rw [ek]
   refine ⟨⟨k1, ?_⟩, ⟨k2, ?_⟩, ⟨kD + 1, ?_⟩, fun u hu => ?_, fun u hu => ?_, ⟨S.low.1, S.low.2.1, S.low.2.2.1, fun u hu => ?_⟩, fun x hx y hy hxy => ?_, ?_, by simp; omega⟩
   ·rw [same _ (bT e1 eD (by simp))]; exact aS pH e1
   ·rw [same _ (bT e2 eD (by simp))]; exact aS pH e2
   ·rw [<- eH2, eP (by have := pH.length_le; omega), map_append]
    congr 3
    ·have : ks.map (fun k => (k, AV.ref (qP ni v (h.length + 1) k))) = ks.map (fun k => (k, AV.ref (ni k))) := List.map_congr_left fun u hu => by rw [dL _ _ (hmv u hu)]
     rw [this]
     simp only [map_cons, List.map_nil, fM]
   ·rcases mem_append.mp hu with hu | hu
    ·obtain ⟨k3, e3⟩ := S.inf u hu
     rw [dL _ _ (hmv u hu), dL _ _ (hmv u hu), dL _ _ (hmv u hu)]
     exact ⟨k3, by rw [same _ (bT e3 eD (by simp))]; exact aS pH e3⟩
    ·rw [mem_singleton.mp hu, fM, fM, fM, hnp]
     exact ⟨3, by rw [same _ (by omega)]; exact gN⟩
   ·rcases mem_append.mp hu with hu | hu
    ·obtain ⟨k3, e3⟩ := S.suc u hu
     rw [dL _ _ (hmv u hu)]
     exact ⟨k3, by rw [same _ (bT e3 eD (by simp))]; exact aS pH e3⟩
    ·rw [mem_singleton.mp hu, fM, hsu]
     exact ⟨0, by rw [same _ (by omega)]; exact gL⟩
   ·rcases mem_append.mp hu with hu | hu
    ·rw [dL _ _ (hmv u hu), dL _ _ (hmv u hu)]; exact S.low.2.2.2 u hu
    ·rw [mem_singleton.mp hu, fM, fM]; omega
   ·have old : ∀ u ∈ ks, sr u < h.length := fun u hu => (S.suc u hu).lt
    rcases mem_append.mp hx with hx | hx <;> rcases mem_append.mp hy with hy | hy
    ·rw [dL _ _ (hmv x hx), dL _ _ (hmv y hy)] at hxy; exact S.inj x hx y hy hxy
    ·rw [mem_singleton.mp hy, fM, dL _ _ (hmv x hx)] at hxy; have := old x hx; omega
    ·rw [mem_singleton.mp hx, fM, dL _ _ (hmv y hy)] at hxy; have := old y hy; omega
    ·rw [mem_singleton.mp hx, mem_singleton.mp hy]
   ·exact List.nodup_append.mpr ⟨S.nd, by simp, fun x hx y hy e => by rw [mem_singleton.mp hy] at e; exact hm (e ▸ hx)⟩
  have := k H2 _ _ _ hS (by rw [<- eH2, length_set]; exact pH.length_le) (fun i hi hD => by rw [same i hD, <- eH, rG hi]) fun j hj hs u hu => by
   rw [ek] at hu
   rcases mem_append.mp hu with hu | hu
   ·rw [dL _ _ (hmv u hu)]; exact hs u hu
   ·rw [mem_singleton.mp hu, fM]; omega
  rwa [fM] at this
end
structure Gr where
 ks : List Int
 np : Int -> Int
 su : Int -> List Int
noncomputable def Gr.Dflt (g : Gr) : Prop := ∀ w, w ∉ g.ks -> g.np w = 0 /\ g.su w = []
noncomputable def nH (node : Int) (g : Gr) (p : Int) : Gr := ⟨nC g.ks p, g.np, qP g.su p (g.su p ++ [node])⟩
noncomputable def zZ (g : Gr) (node : Int) (preds : List Int) : Gr := preds.foldl (nH node) ⟨nC g.ks node, qP g.np node (g.np node + preds.length), g.su⟩
noncomputable def L0 (h : AH) (lo s a D : Nat) (rv : AV) (pa fi : Int) (g : Gr) : Prop := g.Dflt /\ ∃ ni sr dd, mS h lo s a D rv pa fi g.ks ni sr dd g.np g.su
theorem rJ (ks : List Int) (v : Int) : (nC ks v).length <= ks.length + 1 := by unfold nC; split <;> simp
section
variable {h : AH} {lo s a D : Nat} {rv : AV} {pa fi : Int} {ks : List Int} {ni sr dd : Int -> Nat} {np : Int -> Int} {su : Int -> List Int}
theorem iM (x y : Int) (h : AH) : oB .add (.int x) (.int y) h = some (.int (x + y), h) := rfl
theorem rK (x y : Int) (h : AH) : oB .sub (.int x) (.int y) h = some (.int (x - y), h) := rfl
theorem mS.push_su (S : mS h lo s a D rv pa fi ks ni sr dd np su) {v : Int} (hv : v ∈ ks) (x : Int) (hl : (su v).length <= 1000000) : ∃ h', cW [.ref (sr v), .int x] h = some (.none, h') /\ lW (.ref (sr v)) h = some "list" /\ mS h' lo s a D rv pa fi ks ni sr dd np (qP su v (su v ++ [x])) /\ (∀ i, i ≠ sr v -> h'[i]? = h[i]?) /\ h'.length = h.length := by
 obtain ⟨k, e⟩ := S.suc v hv
 have hl' : ((su v).map AV.int).length <= 1000000 := by rwa [length_map]
 refine ⟨h.set (sr v) (.list ((su v).map .int ++ [.int x]), k + 1), jH e hl', jL e, ?_, fun i hi => bN (Ne.symm hi), length_set⟩
 refine Mine.hold fun gL bk => ?_
 obtain ⟨k1, e1⟩ := S.cls
 obtain ⟨k2, e2⟩ := S.att
 obtain ⟨k3, e3⟩ := S.dct
 refine bk ?_; clear bk gL
 refine ⟨⟨k1, ?_⟩, ⟨k2, ?_⟩, ⟨k3, ?_⟩, fun u hu => ?_, fun u hu => ?_, S.low, S.inj, S.nd, S.sml⟩
 ·rw [bN (bT e e1 (by simp))]; exact e1
 ·rw [bN (bT e e2 (by simp))]; exact e2
 ·rw [bN (bT e e3 (by simp))]; exact e3
 ·obtain ⟨k4, e4⟩ := S.inf u hu
  exact ⟨k4, by rw [bN (bT e e4 (by simp))]; exact e4⟩
 ·by_cases huv : u = v
  ·subst huv
   exact ⟨k + 1, by rw [eP (bR e), fM]; simp⟩
  ·obtain ⟨k5, e5⟩ := S.suc u hu
   rw [dL _ _ huv]
   exact ⟨k5, by rw [bN fun q => huv (S.inj _ hv _ hu q).symm]; exact e5⟩
theorem pG (ks : List Int) (v : Int) : v ∈ nC ks v := nG.mpr (.inr rfl)
theorem HH {g : Gr} (hd : g.Dflt) {v : Int} {ks' : List Int} {np' : Int -> Int} {su' : Int -> List Int} (hk : ∀ x, x ∉ ks' -> x ∉ g.ks /\ np' x = g.np x /\ su' x = g.su x) : (⟨ks', np', su'⟩ : Gr).Dflt := fun w hw => by
 refine Mine.hold fun gL bk => ?_
 obtain ⟨a, b, c⟩ := hk w hw
 obtain ⟨d, e⟩ := hd w a
 refine bk ?_; clear bk gL
 exact ⟨b.trans d, c.trans e⟩
noncomputable def WV (h : AH) (ks : List Int) (sr : Int -> Nat) (P : Nat -> Prop) : Prop := ∀ j, P j -> (∃ os k, h[j]? = some (.list os, k)) /\ ∀ v ∈ ks, sr v ≠ j
noncomputable def y4 (h : AH) (lo s a D : Nat) (pa fi : Int) (g : Gr) (P : Nat -> Prop) : Prop := g.Dflt /\ ∃ ni sr dd, mS h lo s a D .none pa fi g.ks ni sr dd g.np g.su /\ WV h g.ks sr P
theorem LQ {g : Gr} {hb : AH} {node : Int} {preds : List Int} {P : Nat -> Prop} {K : AV -> AH -> Prop} (hS : y4 h lo s a D pa fi g P) (pb : hb <+: h) (hbl : hb.length <= lo) (hlo : lo <= h.length) (hk : g.ks.length + preds.length + 2 <= 1000) (hsu : ∀ w, (g.su w).length + preds.length <= 100000)
  (k : ∀ h', y4 h' lo s a D pa fi (zZ g node preds) P -> hb <+: h' -> lo <= h'.length -> (∀ j, P j -> h'[j]? = h[j]?) -> K .none h') : iF (qC (.ref s :: .int node :: preds.map .int)) K h := by
 have hpl : preds.length <= 1000 := by omega
 refine gH (bs := [("self", .ref s), ("node", .int node), ("predecessors", .tup (preds.map .int))]) (by simp [tO]; omega) ?_
 unfold add.prog
 refine Mine.hold fun gL bk => ?_
 obtain ⟨hd, ni, sr, dd, S, hP⟩ := hS
 refine bk ?_; clear bk gL
 simp! [S.a_rn (.inl rfl), Bool.not_true, S.own (n := "_get_nodeinfo") (by decide) (by decide) (by decide) (by decide)]
 refine H_ S hlo (Classical.or_iff_not_imp_left.mpr fun hn => hd node hn) (by omega) ?_
 intro h1 ni1 sr1 dd1 S1 l1 same1 new1
 have m1 := pG g.ks node
 have hpl' : preds.length <= 1000000 := by omega
 refine Mine.hold fun gL bk => ?_
 obtain ⟨h2, e2, S2, same2, l2, _⟩ := S1.set_np m1 (g.np node + preds.length)
 refine bk ?_; clear bk gL
 simp! [S1.n_np m1, tZ, hpl', iM, e2, fA]
 have lowD := S.low.2.2.1
 have lowN := S1.low.2.2.2 node m1
 have pb2 : hb <+: h2 := fU pb fun i hi => by
  rw [same2 i (by omega), same1 i (by have := pb.length_le; omega) (by omega)]
 have mk : ∀ x ∈ nC g.ks node, x ∈ nC g.ks node := fun x hx => hx
 have keep2 : ∀ j, P j -> h2[j]? = h[j]? := fun j hj => by
  obtain ⟨⟨os, kj, ej⟩, _⟩ := hP j hj
  obtain ⟨kD', eD'⟩ := S.dct
  obtain ⟨kn, en⟩ := S1.inf node m1
  have e1 := same1 j (bR ej) (bT ej eD' (by simp))
  rw [<- e1] at ej
  exact (same2 j (bT ej en (by simp))).trans e1
 have hP2 : WV h2 (nC g.ks node) sr1 P := fun j hj => by
  obtain ⟨⟨os, kj, ej⟩, hs⟩ := hP j hj
  exact ⟨⟨os, kj, (keep2 j hj).trans ej⟩, new1 j (bR ej) hs⟩
 refine eZ (fun items st => ∃ (rest : List Int) (g' : Gr), items = rest.map .int /\ (y4 st.hp lo s a D pa fi g' P /\ ∀ j, P j -> st.hp[j]? = h[j]?) /\ hb <+: st.hp /\ lo <= st.hp.length /\ g'.ks.length + rest.length + 1 <= 1000 /\ (∀ w, (g'.su w).length + rest.length <= 100000) /\ rest.foldl (nH node) g' = zZ g node preds /\
  st.env.lookup "self" = some (.ref s) /\ st.env.lookup "node" = some (.int node)) (fun zz zz zz g hg => by cases hg) ?_ ?_ _ _ ?_
 rotate_right
 ·refine ⟨preds, ⟨nC g.ks node, qP g.np node (g.np node + preds.length), g.su⟩, rfl, ⟨⟨?_, ni1, sr1, dd1, S2, hP2⟩, keep2⟩, pb2, (show lo <= h2.length by omega), ?_, hsu, rfl, ?_⟩
  ·exact HH (v := node) hd fun x hx => by
    have := fun q => hx (nG.mpr q)
    exact ⟨fun q => this (.inl q), dL _ _ fun q => this (.inr q), rfl⟩
  ·have := rJ g.ks node; simp only; omega
  ·simp! [hO, fN]
 ·rintro x items ⟨e, hh⟩ zI3
  refine Mine.hold fun gL bk => ?_
  obtain ⟨rest, g', hi, ⟨⟨hd', ni', sr', dd', S', hP'⟩, keep'⟩, pb', hlo', hk', hsu', hfin, a1, a2⟩ := zI3
  refine bk ?_; clear bk gL
  simp only at S' pb' hlo' a1 a2
  cases rest with
  | nil => cases hi
  | cons p rest =>
  simp only [map_cons, List.cons.injEq] at hi
  obtain ⟨rfl, rfl⟩ := hi
  simp! [a1, S'.own (n := "_get_nodeinfo") (by decide) (by decide) (by decide) (by decide)]
  simp only [length_cons] at hk' hsu'
  refine H_ S' hlo' (Classical.or_iff_not_imp_left.mpr fun hn => hd' p hn) (by omega) ?_
  intro h3 ni3 sr3 dd3 S3 l3 same3 new3
  have m3 := pG g'.ks p
  refine Mine.hold fun gL bk => ?_
  obtain ⟨h4, e4, ty4, S4, same4, l4⟩ := S3.push_su m3 node (by have := hsu' p; omega)
  refine bk ?_; clear bk gL
  simp! [S3.n_su m3, ty4, a2, e4]
  have lowD' := S'.low.2.2.1
  have lowN' := (S3.low.2.2.2 p m3).2
  have keep34 : ∀ j, P j -> h4[j]? = hh[j]? := fun j hj => by
   obtain ⟨⟨os, kj, ej⟩, hs⟩ := hP' j hj
   obtain ⟨kD', eD'⟩ := S'.dct
   exact (same4 j (Ne.symm (new3 j (bR ej) hs p m3))).trans (same3 j (bR ej) (bT ej eD' (by simp)))
  have keep4 : ∀ j, P j -> h4[j]? = h[j]? := fun j hj => (keep34 j hj).trans (keep' j hj)
  have hP4 : WV h4 (nC g'.ks p) sr3 P := fun j hj => by
   obtain ⟨⟨os, kj, ej⟩, hs⟩ := hP' j hj
   exact ⟨⟨os, kj, (keep34 j hj).trans ej⟩, new3 j (bR ej) hs⟩
  refine ⟨rest, nH node g' p, rfl, ⟨⟨?_, ni3, sr3, dd3, S4, hP4⟩, keep4⟩, ?_, by omega, ?_, fun w => ?_, hfin, ?_⟩
  ·exact HH (v := p) hd' fun x hx => by
    have := fun q => hx (nG.mpr q)
    exact ⟨fun q => this (.inl q), rfl, dL _ _ fun q => this (.inr q)⟩
  ·exact fU pb' fun i hi => by rw [same4 i (by omega), same3 i (by have := pb'.length_le; omega) (by omega)]
  ·have := rJ g'.ks p; simp only [nH]; omega
  ·simp only [nH, qP]
   split
   ·rename_i q; have := hsu' p; rw [length_append]; simp only [length_cons, length_nil]; omega
   ·have := hsu' w; omega
  ·simp! [a1, a2]
 ·rintro ⟨e, hh⟩ zI1
  refine Mine.hold fun gL bk => ?_
  obtain ⟨rest, g', hi, ⟨S', keep'⟩, pb', hlo', hk', hsu', hfin, a1, a2⟩ := zI1
  have hn : rest = [] := by simpa using hi.symm
  subst hn
  refine bk ?_; clear bk gL
  simp! [id_eq]
  simp only [List.foldl_nil] at hfin
  subst hfin
  exact k _ S' pb' hlo' keep'
end
noncomputable def g0 : Gr := ⟨[], fun zz => 0, fun zz => []⟩
theorem CO (node : Int) (g : Gr) : ∀ (preds : List Int) (g' : Gr), (preds.foldl (nH node) g').ks.length <= g'.ks.length + preds.length /\ ∀ w, ((preds.foldl (nH node) g').su w).length <= (g'.su w).length + preds.length
 | [], g' => ⟨Nat.le_refl _, fun zz => Nat.le_refl _⟩
 | p :: ps, g' => by
  obtain ⟨h1, h2⟩ := CO node g ps (nH node g' p)
  have h3 := rJ g'.ks p
  refine ⟨?_, fun w => ?_⟩
  ·simp only [foldl_cons, length_cons, nH] at h1 |-; omega
  ·have h4 := h2 w
   have h5 : ((nH node g' p).su w).length <= (g'.su w).length + 1 := by
    simp only [nH, qP]; split
    ·rename_i q; subst q; simp
    ·omega
   simp only [foldl_cons, length_cons]; omega
section
variable {h : AH} {lo s a D R : Nat} {rv : AV} {pa fi : Int} {ks : List Int} {ni sr dd : Int -> Nat} {np : Int -> Int} {su : Int -> List Int}
structure sC (h : AH) (lo s a D R : Nat) (ks : List Int) (ni sr dd : Int -> Nat) (np : Int -> Int) (su : Int -> List Int) (rdy : List Int) : Prop where
 c : ∃ pa fi, mS h lo s a D (.ref R) pa fi ks ni sr dd np su
 r : IL h R rdy
 ne : ∀ v ∈ ks, sr v ≠ R
 lo : lo <= R
 sub : ∀ x ∈ rdy, x ∈ ks
theorem mS.set_at (S : mS h lo s a D rv pa fi ks ni sr dd np su) {n : String} {x rv' : AV} {pa' fi' : Int} (hi : dA "TopologicalSorter" n = some none) (hp : put n x [("_node2info", .ref D), ("_ready_nodes", rv), ("_npassedout", .int pa), ("_nfinished", .int fi)] = [("_node2info", .ref D), ("_ready_nodes", rv'), ("_npassedout", .int pa'), ("_nfinished", .int fi')]) :
  ∃ h', eX dA n (.ref s) x h = some ((), h') /\ mS h' lo s a D rv' pa' fi' ks ni sr dd np su /\ (∀ i, i ≠ a -> h'[i]? = h[i]?) /\ h'.length = h.length /\ ∀ i o k, h[i]? = some (.list o, k) -> i ≠ a := by
 obtain ⟨k1, e1⟩ := S.cls
 obtain ⟨k2, e2⟩ := S.att
 obtain ⟨k3, e3⟩ := S.dct
 refine ⟨h.set a (.attrs [("_node2info", .ref D), ("_ready_nodes", rv'), ("_npassedout", .int pa'), ("_nfinished", .int fi')], k2 + 1), ?_, ?_, fun i hi => bN (Ne.symm hi), length_set, fun i o k e => bT e e2 (by simp)⟩
 ·simp! [eX, e1, hi, e2, hp]
  rfl
 ·refine ⟨⟨k1, ?_⟩, ⟨k2 + 1, eP (bR e2)⟩, ⟨k3, ?_⟩, fun u hu => ?_, fun u hu => ?_, S.low, S.inj, S.nd, S.sml⟩
  ·rw [bN (bT e2 e1 (by simp))]; exact e1
  ·rw [bN (bT e2 e3 (by simp))]; exact e3
  ·obtain ⟨k4, e4⟩ := S.inf u hu
   exact ⟨k4, by rw [bN (bT e2 e4 (by simp))]; exact e4⟩
  ·obtain ⟨k5, e5⟩ := S.suc u hu
   exact ⟨k5, by rw [bN (bT e2 e5 (by simp))]; exact e5⟩
theorem mS.other (S : mS h lo s a D rv pa fi ks ni sr dd np su) {i : Nat} {x : aI × Nat} {o : List AV} {k : Nat} (hi : h[i]? = some (.list o, k)) (hn : ∀ v ∈ ks, sr v ≠ i) : mS (h.set i x) lo s a D rv pa fi ks ni sr dd np su := by
 obtain ⟨k1, e1⟩ := S.cls
 obtain ⟨k2, e2⟩ := S.att
 obtain ⟨k3, e3⟩ := S.dct
 refine ⟨⟨k1, ?_⟩, ⟨k2, ?_⟩, ⟨k3, ?_⟩, fun u hu => ?_, fun u hu => ?_, S.low, S.inj, S.nd, S.sml⟩
 ·rw [bN (bT hi e1 (by simp))]; exact e1
 ·rw [bN (bT hi e2 (by simp))]; exact e2
 ·rw [bN (bT hi e3 (by simp))]; exact e3
 ·obtain ⟨k4, e4⟩ := S.inf u hu
  exact ⟨k4, by rw [bN (bT hi e4 (by simp))]; exact e4⟩
 ·exact (S.suc u hu).set (Ne.symm (hn u hu))
theorem mS.grow (S : mS h lo s a D rv pa fi ks ni sr dd np su) {h' : AH} (p : h <+: h') : mS h' lo s a D rv pa fi ks ni sr dd np su := by
 obtain ⟨k1, e1⟩ := S.cls
 obtain ⟨k2, e2⟩ := S.att
 obtain ⟨k3, e3⟩ := S.dct
 refine ⟨⟨k1, aS p e1⟩, ⟨k2, aS p e2⟩, ⟨k3, aS p e3⟩, fun u hu => ?_, fun u hu => (S.suc u hu).mono p, S.low, S.inj, S.nd, S.sml⟩
 obtain ⟨k4, e4⟩ := S.inf u hu
 exact ⟨k4, aS p e4⟩
theorem sC.grow {rdy : List Int} (S : sC h lo s a D R ks ni sr dd np su rdy) {h' : AH} (p : h <+: h') : sC h' lo s a D R ks ni sr dd np su rdy := by
 obtain ⟨pa, fi, c⟩ := S.c
 exact ⟨⟨pa, fi, c.grow p⟩, S.r.mono p, S.ne, S.lo, S.sub⟩
noncomputable def uC (np : Int -> Int) (rdy : List Int) : Int -> Int := fun w => if w ∈ rdy then -1 else np w
theorem KQ (np : Int -> Int) (v : Int) (r : List Int) : uC (qP np v (-1)) r = uC np (v :: r) := by
 funext w
 unfold uC qP
 by_cases h1 : w ∈ r <;> by_cases h2 : w = v <;> simp [h1, h2]
theorem qS {rdy : List Int} {hb : AH} {K : AV -> AH -> Prop} (S : sC h lo s a D R ks ni sr dd np su rdy) (pb : hb <+: h) (hbl : hb.length <= lo) (hl : rdy.length <= 1000000)
  (k : ∀ h', sC h' lo s a D R ks ni sr dd (uC np rdy) su [] -> hG R h h' -> hb <+: h' -> K (.tup (rdy.map .int)) h') : iF (kO [.ref s]) K h := by
 refine gH (bs := [("self", .ref s)]) rfl ?_
 unfold getReady.prog
 obtain ⟨pa, fi, C⟩ := S.c
 obtain ⟨kR, eR⟩ := S.r
 simp! [C.a_rn (.inr ⟨R, rfl⟩), n_, eR, hl, C.a_n2i, fA, hO, fN]
 refine eZ (fun items st => ∃ (rest : List Int) (np' : Int -> Int), items = rest.map .int /\ (∀ x ∈ rest, x ∈ ks) /\ sC st.hp lo s a D R ks ni sr dd np' su rdy /\ uC np' rest = uC np rdy /\ hG R h st.hp /\ hb <+: st.hp /\
  st.env.lookup "self" = some (.ref s) /\ st.env.lookup "n2i" = some (.ref D) /\ st.env.lookup "result" = some (.tup (rdy.map .int))) (fun zz zz zz g hg => by cases hg) ?_ ?_ _ _ ?_
 rotate_right
 ·refine ⟨rdy, np, rfl, S.sub, S, rfl, hG.refl _ _, pb, ?_⟩
  simp! [id_eq]
 ·rintro x items ⟨e, hh⟩ zI3
  obtain ⟨rest, np', hi, hr, S', ho, kl, pb', a1, a2, a3⟩ := zI3
  simp only at S' pb' kl a1 a2 a3
  cases rest with
  | nil => cases hi
  | cons v rest =>
  simp only [map_cons, List.cons.injEq] at hi
  obtain ⟨rfl, rfl⟩ := hi
  obtain ⟨pa', fi', C'⟩ := S'.c
  have hv := hr v mem_cons_self
  obtain ⟨kd, ed⟩ := C'.dct
  obtain ⟨h2, e2, C2, same2, l2, kl2⟩ := C'.set_np hv (-1)
  simp! [a2, sD ed hv, e2]
  have lowN := (C'.low.2.2.2 v hv).1
  obtain ⟨kR', eR'⟩ := S'.r
  obtain ⟨k4, e4⟩ := C'.inf v hv
  refine ⟨rest, qP np' v (-1), rfl, fun x hx => hr x (mem_cons_of_mem _ hx), ⟨⟨pa', fi', C2⟩, ⟨kR', ?_⟩, S'.ne, S'.lo, S'.sub⟩, (KQ _ _ _).trans ho, kl.trans (kl2 R), fU pb' fun i hi => same2 i (by omega), ?_⟩
  ·rw [same2 R (bT eR' e4 (by simp))]; exact eR'
  ·simp! [a1, a2, a3]
 ·rintro ⟨e, hh⟩ zI1
  obtain ⟨rest, np', hi, hr, S', ho, kl, pb', a1, a2, a3⟩ := zI1
  simp only at S' pb' kl a1 a2 a3
  have hn : rest = [] := by simpa using hi.symm
  subst hn
  have ho' : np' = uC np rdy := by rw [<- ho]; funext w; simp [uC]
  obtain ⟨pa', fi', C'⟩ := S'.c
  obtain ⟨kR', eR'⟩ := S'.r
  have hl' : rdy.length <= 1000000 := hl
  have C2 := C'.other (x := (.list [], kR' + 1)) eR' S'.ne
  obtain ⟨h3, e3, C3, same3, l3, kl3⟩ := C2.set_at (n := "_npassedout") (x := .int (pa' + rdy.length)) (rv' := .ref R) (pa' := pa' + rdy.length) (fi' := fi') PC (by simp [hO, fN])
  simp! [a1, C'.a_rn (.inr ⟨R, rfl⟩), lW, eR', wR, hl', C2.a_po, a3, tZ, iM, e3]
  refine k h3 ⟨⟨_, _, ho' ▸ C3⟩, ⟨kR' + 1, ?_⟩, S'.ne, S'.lo, fun x hx => (by cases hx)⟩ (kl.trans ⟨fun x o kk ex hx => ?_, by rw [l3, length_set]; exact Nat.le_refl _⟩) ?_
  ·rw [same3 R (kl3 R _ _ (eP (bR eR')))]; exact eP (bR eR')
  ·have : (hh.set R (.list [], kR' + 1))[x]? = some (.list o, kk) := by rw [bN (Ne.symm hx)]; exact ex
   rw [same3 x (kl3 x _ _ this)]; exact this
  ·have hlo := S'.lo
   have hla := C'.low.2.1
   refine fU pb' fun i hi => ?_
   rw [same3 i (by omega), bN (by omega)]
end
section
variable {h : AH} {lo s a D R : Nat} {rv : AV} {pa fi : Int} {ks : List Int} {ni sr dd : Int -> Nat} {np : Int -> Int} {su : Int -> List Int}
noncomputable def zL (x : (Int -> Int) × List Int) (w : Int) : (Int -> Int) × List Int := (qP x.1 w (x.1 w - 1), if x.1 w - 1 = 0 then x.2 ++ [w] else x.2)
noncomputable def lA (su : Int -> List Int) (x : (Int -> Int) × List Int) (v : Int) : (Int -> Int) × List Int := (su v).foldl zL (qP x.1 v (-2), x.2)
noncomputable def wL (su : Int -> List Int) : (Int -> Int) × List Int -> List Int -> Prop
 | _, [] => True
 | x, v :: r => x.1 v = -1 /\ wL su (lA su x v) r
theorem sC.push {rdy : List Int} (S : sC h lo s a D R ks ni sr dd np su rdy) {w : Int} (hw : w ∈ ks) (hl : rdy.length <= 1000000) : ∃ h', cW [.ref R, .int w] h = some (.none, h') /\ sC h' lo s a D R ks ni sr dd np su (rdy ++ [w]) /\ (∀ i, i ≠ R -> h'[i]? = h[i]?) /\ h'.length = h.length := by
 refine Mine.hold fun gL bk => ?_
 obtain ⟨kR, eR⟩ := S.r
 obtain ⟨pa, fi, C⟩ := S.c
 refine bk ?_; clear bk gL
 have hl' : (rdy.map AV.int).length <= 1000000 := by rwa [length_map]
 refine ⟨h.set R (.list (rdy.map .int ++ [.int w]), kR + 1), jH eR hl', ⟨⟨pa, fi, C.other eR S.ne⟩, ⟨kR + 1, by rw [eP (bR eR)]; simp⟩, S.ne, S.lo, fun x hx => ?_⟩, fun i hi => bN (Ne.symm hi), length_set⟩
 rcases mem_append.mp hx with hx | hx
 ·exact S.sub x hx
 ·exact mem_singleton.mp hx ▸ hw
theorem sC.set_np {rdy : List Int} (S : sC h lo s a D R ks ni sr dd np su rdy) {v : Int} (hv : v ∈ ks) (x : Int) : ∃ h', eX dA "npredecessors" (.ref (ni v)) (.int x) h = some ((), h') /\ sC h' lo s a D R ks ni sr dd (qP np v x) su rdy /\ (∀ i, i ≠ ni v -> h'[i]? = h[i]?) /\ h'.length = h.length /\ (∀ R, hG R h h') := by
 refine Mine.hold fun gL bk => ?_
 obtain ⟨pa, fi, C⟩ := S.c
 obtain ⟨h2, e2, C2, same2, l2, kl2⟩ := C.set_np hv x
 obtain ⟨kR', eR'⟩ := S.r
 obtain ⟨k4, e4⟩ := C.inf v hv
 refine bk ?_; clear bk gL
 exact ⟨h2, e2, ⟨⟨pa, fi, C2⟩, ⟨kR', by rw [same2 R (bT eR' e4 (by simp))]; exact eR'⟩, S.ne, S.lo, S.sub⟩, same2, l2, kl2⟩
theorem hG.of_same {R : Nat} {h h' : AH} (hs : ∀ i, i ≠ R -> h'[i]? = h[i]?) (hl : h'.length = h.length) : hG R h h' := ⟨fun x o k e hn => by rw [hs x hn]; exact e, by omega⟩
theorem MT {rdy nodes : List Int} {hb : AH} {K : AV -> AH -> Prop} (S : sC h lo s a D R ks ni sr dd np su rdy) (pb : hb <+: h) (hbl : hb.length <= lo) (hn : ∀ v ∈ nodes, v ∈ ks) (hcl : ∀ v ∈ ks, ∀ w ∈ su v, w ∈ ks) (hok : wL su (np, rdy) nodes)
  (hsl : ∀ v, (su v).length <= 1000) (hnl : nodes.length <= 900) (hrl : rdy.length <= 1000)
  (k : ∀ h', sC h' lo s a D R ks ni sr dd (nodes.foldl (lA su) (np, rdy)).1 su (nodes.foldl (lA su) (np, rdy)).2 -> hG R h h' -> hb <+: h' -> K .none h') : iF (HR (.ref s :: nodes.map .int)) K h := by
 refine gH (bs := [("self", .ref s), ("nodes", .tup (nodes.map .int))]) (by simp [tO]; omega) ?_
 unfold done.prog
 refine Mine.hold fun gL bk => ?_
 obtain ⟨pa, fi, C⟩ := S.c
 refine bk ?_; clear bk gL
 simp! [C.a_rn (.inr ⟨R, rfl⟩), C.a_n2i, hO, fN, fA]
 refine Mine.hold fun gL bk => ?_
 refine Mine.gen (nodes.foldl (lA su) (np, rdy)) fun fin hfin => ?_
 refine bk ?_; clear bk gL
 rw [hfin] at k
 refine eZ (fun items st => ∃ (rest : List Int) (x : (Int -> Int) × List Int), items = rest.map .int /\ (∀ v ∈ rest, v ∈ ks) /\ sC st.hp lo s a D R ks ni sr dd x.1 su x.2 /\ rest.foldl (lA su) x = fin /\ wL su x rest /\ x.2.length + 1000 * rest.length <= 1000000 /\ hG R h st.hp /\ hb <+: st.hp /\
  st.env.lookup "self" = some (.ref s) /\ st.env.lookup "n2i" = some (.ref D)) (fun zz zz zz g hg => by cases hg) ?_ ?_ _ _ ?_
 rotate_right
 ·refine ⟨nodes, (np, rdy), rfl, hn, S, hfin, hok, by simp only; omega, hG.refl _ _, pb, ?_⟩
  simp! [id_eq]
 ·rintro x items ⟨e, hh⟩ zI3
  refine Mine.hold fun gL bk => ?_
  obtain ⟨rest, x, hi, hr, S', hf, hok', hxl, kl, pb', a1, a2⟩ := zI3
  refine bk ?_; clear bk gL
  simp only at S' pb' kl a1 a2
  cases rest with
  | nil => cases hi
  | cons v rest =>
  simp only [map_cons, List.cons.injEq] at hi
  refine Mine.hold fun gL bk => ?_
  obtain ⟨rfl, rfl⟩ := hi
  obtain ⟨np', rdy'⟩ := x
  refine bk ?_; clear bk gL
  simp only at S' hxl
  obtain ⟨hst, hok'⟩ := hok'
  simp only at hst
  have hv := hr v mem_cons_self
  refine Mine.hold fun gL bk => ?_
  obtain ⟨pa', fi', C'⟩ := S'.c
  obtain ⟨kd, ed⟩ := C'.dct
  have hg : AE [.ref D, .int v] hh = some (.ref (ni v), hh) := (zQ ed).trans (by rw [rQ, if_pos hv]; rfl)
  obtain ⟨h2, e2, S2, same2, l2, kl2⟩ := S'.set_np hv (-2)
  obtain ⟨pa2, fi2, C2⟩ := S2.c
  obtain ⟨k5, e5⟩ := C2.suc v hv
  refine bk ?_; clear bk gL
  have lowN := (C'.low.2.2.2 v hv).1
  simp! [a2, HJ ed, hg, C'.n_np hv, hst, mP, decide_true, Bool.not_true, e2, C2.n_su hv, fA, e5]
  have hv' := hsl v
  simp only [length_cons] at hxl
  refine eZ (fun items st => ∃ (rs : List Int) (x : (Int -> Int) × List Int), items = rs.map .int /\ (∀ w ∈ rs, w ∈ ks) /\ sC st.hp lo s a D R ks ni sr dd x.1 su x.2 /\ rs.foldl zL x = lA su (np', rdy') v /\ x.2.length + rs.length + 1000 * rest.length <= 1000000 /\ hG R h2 st.hp /\ hb <+: st.hp /\
   st.env.lookup "self" = some (.ref s) /\ st.env.lookup "n2i" = some (.ref D)) ?_ ?_ ?_ _ _ ?_
  rotate_right
  ·refine ⟨su v, (qP np' v (-2), rdy'), rfl, fun w hw => hcl v hv w hw, S2, rfl, by simp only; omega, hG.refl _ _, fU pb' fun i hi => same2 i (by omega), ?_⟩
   simp! [a1, a2]
  ·rintro items ⟨e', hh'⟩ zI2 g hg'
   refine Mine.hold fun gL bk => ?_
   obtain ⟨rs, x, hi, hr', S3, hf3, hxl3, kl3, pb3, b1, b2⟩ := zI2
   simp only [mem_singleton] at hg'
   subst hg'
   refine bk ?_; clear bk gL
   exact kl3.1 _ _ _ e5 (S'.ne v hv)
  ·rintro x items ⟨e', hh'⟩ zI3
   refine Mine.hold fun gL bk => ?_
   obtain ⟨rs, x, hi, hr', S3, hf3, hxl3, kl3, pb3, b1, b2⟩ := zI3
   refine bk ?_; clear bk gL
   simp only at S3 pb3 kl3 b1 b2
   cases rs with
   | nil => cases hi
   | cons w rs =>
   simp only [map_cons, List.cons.injEq] at hi
   refine Mine.hold fun gL bk => ?_
   obtain ⟨rfl, rfl⟩ := hi
   obtain ⟨np3, rdy3⟩ := x
   simp only [length_cons] at S3 hxl3
   have hw := hr' w mem_cons_self
   obtain ⟨pa3, fi3, C3⟩ := S3.c
   obtain ⟨kd3, ed3⟩ := C3.dct
   obtain ⟨h4, e4, S4, same4, l4, kl4⟩ := S3.set_np hw (np3 w - 1)
   obtain ⟨pa4, fi4, C4⟩ := S4.c
   refine bk ?_; clear bk gL
   have lowN3 := (C3.low.2.2.2 w hw).1
   have np4 : qP np3 w (np3 w - 1) w = np3 w - 1 := fM _ _ _
   have pb4 : hb <+: h4 := fU pb3 fun i hi => same4 i (by omega)
   simp! [b2, sD ed3 hw, C3.n_np hw, rK, e4, C4.n_np hw, np4, mP]
   have hdec : zL (np3, rdy3) w = (qP np3 w (np3 w - 1), if np3 w - 1 = 0 then rdy3 ++ [w] else rdy3) := rfl
   by_cases hz : np3 w - 1 = 0
   ·obtain ⟨h5, e5', S5, same5, l5⟩ := S4.push hw (by omega)
    obtain ⟨kr, er⟩ := S4.r
    simp! [hz, decide_true, b1, C4.a_rn (.inr ⟨R, rfl⟩), jL er, e5']
    refine ⟨rs, zL (np3, rdy3) w, rfl, fun u hu => hr' u (mem_cons_of_mem _ hu), ?_, hf3, ?_, (kl3.trans (kl4 R)).trans (hG.of_same same5 l5), fU pb4 fun i hi => same5 i (by have := S3.lo; omega), ?_⟩
    ·rw [hdec, if_pos hz]; exact hz ▸ S5
    ·rw [hdec, if_pos hz]; simp only [length_append, length_cons, length_nil]; omega
    ·simp! [b1, b2]
   ·simp! [hz, decide_false, Bool.false_eq_true]
    refine ⟨rs, zL (np3, rdy3) w, rfl, fun u hu => hr' u (mem_cons_of_mem _ hu), ?_, hf3, ?_, kl3.trans (kl4 R), pb4, ?_⟩
    ·rw [hdec, if_neg hz]; exact S4
    ·rw [hdec, if_neg hz]; simp only; omega
    ·simp! [b1, b2]
  ·rintro ⟨e', hh'⟩ zI1
   refine Mine.hold fun gL bk => ?_
   obtain ⟨rs, x, hi, hr', S3, hf3, hxl3, kl3, pb3, b1, b2⟩ := zI1
   refine bk ?_; clear bk gL
   simp only at S3 pb3 kl3 b1 b2
   have hn' : rs = [] := by simpa using hi.symm
   refine Mine.hold fun gL bk => ?_
   subst hn'
   simp only [List.foldl_nil] at hf3
   subst hf3
   obtain ⟨pa3, fi3, C3⟩ := S3.c
   obtain ⟨h6, e6, C6, same6, l6, kl6⟩ := C3.set_at (n := "_nfinished") (x := .int (fi3 + 1)) (rv' := .ref R) (pa' := pa3) (fi' := fi3 + 1) PB (by simp [hO, fN])
   obtain ⟨kr, er⟩ := S3.r
   refine bk ?_; clear bk gL
   simp! [b1, C3.a_nf, iM, e6]
   refine ⟨rest, _, rfl, fun w hw => hr w (mem_cons_of_mem _ hw), ⟨⟨_, _, C6⟩, ⟨kr, by rw [same6 R (kl6 R _ _ er)]; exact er⟩, S3.ne, S3.lo, S3.sub⟩, hf, hok', by simp only [length_nil] at hxl3; omega, (kl.trans (kl2 R)).trans (kl3.trans ⟨fun x o kk ex hx => by rw [same6 x (kl6 x _ _ ex)]; exact ex, by omega⟩), ?_, ?_⟩
   ·exact fU pb3 fun i hi => same6 i (by have := C3.low.2.1; omega)
   ·simp! [b1, b2]
 ·rintro ⟨e, hh⟩ zI1
  refine Mine.hold fun gL bk => ?_
  obtain ⟨rest, x, hi, hr, S', hf, hok', hxl, kl, pb', a1, a2⟩ := zI1
  refine bk ?_; clear bk gL
  simp only at S' pb' kl a1 a2
  have hn' : rest = [] := by simpa using hi.symm
  refine Mine.hold fun gL bk => ?_
  subst hn'
  simp only [List.foldl_nil] at hf
  subst hf
  refine bk ?_; clear bk gL
  simp! [id_eq]
  exact k hh S' kl pb'
end
section
variable {ks : List Int} {su : Int -> List Int}
noncomputable def m_ (seen : List Int) (fr : List (Int × Nat)) (w : Int) : Prop := w ∈ seen /\ w ∉ fr.map (·.1)
noncomputable def tJ (su : Int -> List Int) (B : Int -> Prop) : List (Int × Nat) -> Option Int -> Prop
 | [], _ => True
 | (x, p) :: rest, t => (match t with
   | some y => ∃ p', p = p' + 1 /\ (su x)[p']? = some y /\ ∀ j w, j < p' -> (su x)[j]? = some w -> B w
   | none => ∀ j w, j < p -> (su x)[j]? = some w -> B w) /\ tJ su B rest (some x)
theorem tJ.mono {B B' : Int -> Prop} (h : ∀ w, B w -> B' w) : ∀ {fr : List (Int × Nat)} {t : Option Int}, tJ su B fr t -> tJ su B' fr t
 | [], _, _ => trivial
 | (x, p) :: rest, t, c => by
  refine ⟨?_, tJ.mono h c.2⟩
  cases t with
  | some y => obtain ⟨p', e, g, a⟩ := c.1; exact ⟨p', e, g, fun j w hj hw => h _ (a j w hj hw)⟩
  | none => exact fun j w hj hw => h _ (c.1 j w hj hw)
structure DF (ks : List Int) (su : Int -> List Int) (seen : List Int) (fr : List (Int × Nat)) (rk : Int -> Nat) (clk : Nat) (t : Option Int) : Prop where
 sub : ∀ x ∈ seen, x ∈ ks
 frs : ∀ x ∈ fr.map (·.1), x ∈ seen
 nd : (fr.map (·.1)).Nodup
 ch : tJ su (m_ seen fr) fr t
 bl : ∀ u, m_ seen fr u -> rk u < clk /\ ∀ w ∈ su u, m_ seen fr w /\ rk w < rk u
theorem DF.start (ks : List Int) (su : Int -> List Int) (t : Option Int) : DF ks su [] [] (fun zz => 0) 0 t := ⟨fun zz h => (by cases h), fun zz h => (by cases h), nodup_nil, trivial, fun zz h => (by cases h.1)⟩
theorem DF.any {seen : List Int} {rk : Int -> Nat} {clk : Nat} {t : Option Int} (d : DF ks su seen [] rk clk t) (t' : Option Int) : DF ks su seen [] rk clk t' := ⟨d.sub, d.frs, d.nd, trivial, d.bl⟩
theorem DF.push {seen : List Int} {fr : List (Int × Nat)} {rk : Int -> Nat} {clk : Nat} {x : Int} (d : DF ks su seen fr rk clk (some x)) (hx : x ∉ seen) (hk : x ∈ ks) : DF ks su (seen ++ [x]) ((x, 0) :: fr) rk clk none := by
 have hb : ∀ w, m_ (seen ++ [x]) ((x, 0) :: fr) w ↔ m_ seen fr w := fun w => by
  unfold m_
  simp only [mem_append, map_cons, mem_cons, not_mem_nil, or_false, not_or]
  constructor
  ·rintro ⟨h | h, h1, h2⟩
   ·exact ⟨h, h2⟩
   ·exact absurd h h1
  ·rintro ⟨h1, h2⟩
   exact ⟨.inl h1, fun e => hx (e ▸ h1), h2⟩
 refine ⟨fun y hy => ?_, fun y hy => ?_, ?_, ⟨fun j w hj => absurd hj (Nat.not_lt_zero _), d.ch.mono fun w hw => (hb w).mpr hw⟩, fun u hu => ?_⟩
 ·rcases mem_append.mp hy with h | h
  ·exact d.sub y h
  ·exact mem_singleton.mp h ▸ hk
 ·simp only [map_cons, mem_cons] at hy
  rcases hy with rfl | hy
  ·simp
  ·exact mem_append_left _ (d.frs y hy)
 ·simp only [map_cons, nodup_cons]
  exact ⟨fun h => hx (d.frs x h), d.nd⟩
 ·obtain ⟨h1, h2⟩ := d.bl u ((hb u).mp hu)
  exact ⟨h1, fun w hw => ⟨(hb w).mpr (h2 w hw).1, (h2 w hw).2⟩⟩
theorem DF.black {seen : List Int} {fr : List (Int × Nat)} {rk : Int -> Nat} {clk : Nat} {x : Int} (d : DF ks su seen fr rk clk (some x)) (hx : x ∈ seen) (hf : x ∉ fr.map (·.1)) : DF ks su seen fr rk clk none := by
 refine ⟨d.sub, d.frs, d.nd, ?_, d.bl⟩
 cases fr with
 | nil => trivial
 | cons f rest =>
  obtain ⟨y, p⟩ := f
  obtain ⟨⟨p', rfl, g, a⟩, c⟩ := d.ch
  refine ⟨fun j w hj hw => ?_, c⟩
  by_cases hjp : j = p'
  ·subst hjp
   rw [g] at hw; cases hw
   exact ⟨hx, hf⟩
  ·exact a j w (by omega) hw
theorem DF.next {seen : List Int} {x : Int} {p : Nat} {rest : List (Int × Nat)} {rk : Int -> Nat} {clk : Nat} {y : Int} (d : DF ks su seen ((x, p) :: rest) rk clk none) (hy : (su x)[p]? = some y) : DF ks su seen ((x, p + 1) :: rest) rk clk (some y) :=
 ⟨d.sub, d.frs, d.nd, ⟨⟨p, rfl, hy, d.ch.1⟩, d.ch.2⟩, d.bl⟩
theorem DF.pop {seen : List Int} {x : Int} {p : Nat} {rest : List (Int × Nat)} {rk : Int -> Nat} {clk : Nat} (d : DF ks su seen ((x, p) :: rest) rk clk none) (hy : (su x)[p]? = none) : DF ks su seen rest (fun w => if w = x then clk else rk w) (clk + 1) none := by
 have hxs : x ∈ seen := d.frs x (by simp)
 have hnd : x ∉ rest.map (·.1) /\ (rest.map (·.1)).Nodup := by have := d.nd; simpa only [map_cons, nodup_cons] using this
 have hb : ∀ w, m_ seen rest w ↔ w = x \/ m_ seen ((x, p) :: rest) w := fun w => by
  unfold m_
  simp only [map_cons, mem_cons, not_or]
  constructor
  ·rintro ⟨h1, h2⟩
   by_cases e : w = x
   ·exact .inl e
   ·exact .inr ⟨h1, e, h2⟩
  ·rintro (rfl | ⟨h1, h2, h3⟩)
   ·exact ⟨hxs, hnd.1⟩
   ·exact ⟨h1, h3⟩
 have hall : ∀ w ∈ su x, m_ seen ((x, p) :: rest) w := fun w hw => by
  obtain ⟨j, hj⟩ := List.mem_iff_getElem?.mp hw
  refine d.ch.1 j w ?_ hj
  have h1 := List.getElem?_eq_none_iff.mp hy
  have h2 := (List.getElem?_eq_some_iff.mp hj).1
  omega
 have hxb : ¬ m_ seen ((x, p) :: rest) x := fun h => h.2 (by simp)
 refine ⟨d.sub, fun y hy => d.frs y (by simp only [map_cons, mem_cons]; exact .inr hy), hnd.2, ?_, fun u hu => ?_⟩
 ·have hc : tJ su (m_ seen rest) rest (some x) := d.ch.2.mono fun w hw => (hb w).mpr (.inr hw)
  cases rest with
  | nil => trivial
  | cons f rest' =>
   obtain ⟨y, q⟩ := f
   obtain ⟨⟨p', rfl, g, a⟩, c⟩ := hc
   refine ⟨fun j w hj hw => ?_, c⟩
   by_cases hjp : j = p'
   ·subst hjp
    rw [g] at hw; cases hw
    exact (hb x).mpr (.inl rfl)
   ·exact a j w (by omega) hw
 ·rcases (hb u).mp hu with rfl | hu'
  ·rw [if_pos rfl]
   refine ⟨Nat.lt_succ_self _, fun w hw => ⟨(hb w).mpr (.inr (hall w hw)), ?_⟩⟩
   have hwx : w ≠ u := fun e => hxb (e ▸ hall w hw)
   rw [if_neg hwx]
   exact (d.bl w (hall w hw)).1
  ·have hux : u ≠ x := fun e => hxb (e ▸ hu')
   obtain ⟨h1, h2⟩ := d.bl u hu'
   rw [if_neg hux]
   refine ⟨Nat.lt_succ_of_lt h1, fun w hw => ⟨(hb w).mpr (.inr (h2 w hw).1), ?_⟩⟩
   have hwx : w ≠ x := fun e => hxb (e ▸ (h2 w hw).1)
   rw [if_neg hwx]; exact (h2 w hw).2
noncomputable def NX (ks : List Int) (su : Int -> List Int) : Prop := ∃ S : List Int, S ≠ [] /\ (∀ x ∈ S, x ∈ ks) /\ ∀ x ∈ S, ∃ y ∈ S, x ∈ su y
theorem wO {B : Int -> Prop} {y : Int} : ∀ {fr : List (Int × Nat)} {t : Int}, tJ su B fr (some t) -> (∀ x ∈ fr.map (·.1), x ∈ ks) -> y ∈ fr.map (·.1) -> ∃ S : List Int, y ∈ S /\ (∀ z ∈ S, z ∈ ks) /\ (∀ z ∈ S, z = y \/ ∃ u ∈ S, z ∈ su u) /\ ∃ u ∈ S, t ∈ su u
 | [], _, _, _, h => by cases h
 | (x, p) :: rest, t, c, hk, h => by
  obtain ⟨⟨p', rfl, g, _⟩, c'⟩ := c
  have ht : t ∈ su x := mem_of_getElem? g
  by_cases hyx : y = x
  ·subst hyx
   exact ⟨[y], by simp, fun z hz => by rw [mem_singleton.mp hz]; exact hk y (by simp), fun z hz => .inl (mem_singleton.mp hz), y, by simp, ht⟩
  ·have hy : y ∈ rest.map (·.1) := by
    simp only [map_cons, mem_cons] at h
    exact h.resolve_left hyx
   obtain ⟨S, h1, h2, h3, u, hu, hxu⟩ := wO c' (fun z hz => hk z (by simp only [map_cons, mem_cons]; exact .inr hz)) hy
   refine ⟨x :: S, mem_cons_of_mem _ h1, fun z hz => ?_, fun z hz => ?_, x, mem_cons_self, ht⟩
   ·rcases mem_cons.mp hz with rfl | hz
    ·exact hk z (by simp)
    ·exact h2 z hz
   ·rcases mem_cons.mp hz with rfl | hz
    ·exact .inr ⟨u, mem_cons_of_mem _ hu, hxu⟩
    ·rcases h3 z hz with e | ⟨v, hv, hzv⟩
     ·exact .inl e
     ·exact .inr ⟨v, mem_cons_of_mem _ hv, hzv⟩
theorem DF.ring {seen : List Int} {fr : List (Int × Nat)} {rk : Int -> Nat} {clk : Nat} {x : Int} (d : DF ks su seen fr rk clk (some x)) (hf : x ∈ fr.map (·.1)) : NX ks su := by
 obtain ⟨S, h1, h2, h3, u, hu, hx⟩ := wO d.ch (fun z hz => d.sub z (d.frs z hz)) hf
 refine ⟨S, fun e => (by rw [e] at h1; cases h1), h2, fun z hz => ?_⟩
 rcases h3 z hz with rfl | h
 ·exact ⟨u, hu, hx⟩
 ·exact h
noncomputable def qJ (ks : List Int) (su : Int -> List Int) : Prop := ∃ rk : Int -> Nat, ∀ u ∈ ks, ∀ w ∈ su u, rk w < rk u
theorem DF.ranked {seen : List Int} {rk : Int -> Nat} {clk : Nat} {t : Option Int} (d : DF ks su seen [] rk clk t) (h : ∀ x ∈ ks, x ∈ seen) : qJ ks su :=
 ⟨rk, fun u hu w hw => ((d.bl u ⟨h u hu, by simp⟩).2 w hw).2⟩
theorem qJ.no {S : List Int} (r : qJ ks su) (hs : S ≠ []) (hk : ∀ x ∈ S, x ∈ ks) : ¬ ∀ x ∈ S, ∃ y ∈ S, x ∈ su y := by
 obtain ⟨rk, h⟩ := r
 intro hp
 have : ∀ n, ∃ x ∈ S, n <= rk x := by
  intro n
  induction n with
  | zero => obtain ⟨x, hx⟩ := List.exists_mem_of_ne_nil _ hs; exact ⟨x, hx, Nat.zero_le _⟩
  | succ n ih =>
   obtain ⟨x, hx, hn⟩ := ih
   obtain ⟨y, hy, hxy⟩ := hp x hx
   exact ⟨y, hy, by have := h y (hk y hy) x hxy; omega⟩
 have bound : ∀ S : List Int, ∃ m, ∀ x ∈ S, rk x < m := by
  intro S
  induction S with
  | nil => exact ⟨0, fun zz h => by cases h⟩
  | cons a S ih =>
   obtain ⟨m, hm⟩ := ih
   refine ⟨max m (rk a + 1), fun x hx => ?_⟩
   rcases mem_cons.mp hx with rfl | hx
   ·omega
   ·have := hm x hx; omega
 obtain ⟨m, hm⟩ := bound S
 obtain ⟨x, hx, hmx⟩ := this m
 have := hm x hx
 omega
noncomputable def wt (su : Int -> List Int) (x : Int) : Nat := (su x).length + 2
noncomputable def HL (su : Int -> List Int) (ks seen : List Int) : Nat := ((ks.filter fun x => !seen.contains x).map (wt su)).sum
noncomputable def u8 (su : Int -> List Int) (fr : List (Int × Nat)) : Nat := (fr.map fun f => (su f.1).length - f.2 + 1).sum
theorem EX {seen : List Int} {x : Int} (hk : x ∈ ks) (hx : x ∉ seen) : HL su ks (seen ++ [x]) + wt su x <= HL su ks seen := by
 unfold HL
 have e : (ks.filter fun y => !(seen ++ [x]).contains y) = (ks.filter fun y => !seen.contains y).filter fun y => decide (y ≠ x) := by
  rw [List.filter_filter]
  congr 1; funext y
  by_cases h1 : y ∈ seen <;> by_cases h2 : y = x <;> simp [h1, h2]
 rw [e]
 have hm : x ∈ ks.filter fun y => !seen.contains y := mem_filter.mpr ⟨hk, by simpa using hx⟩
 have gen : ∀ l : List Int, x ∈ l -> ((l.filter fun y => decide (y ≠ x)).map (wt su)).sum + wt su x <= (l.map (wt su)).sum := by
  intro l
  induction l with
  | nil => intro h; cases h
  | cons a l ih =>
   intro h
   have hle : ∀ l : List Int, ((l.filter fun y => decide (y ≠ x)).map (wt su)).sum <= (l.map (wt su)).sum := by
    intro l
    induction l with
    | nil => exact Nat.le_refl _
    | cons b l ih2 =>
     by_cases hb : b = x
     ·rw [List.filter_cons_of_neg (by simp [hb])]; simp only [map_cons, List.sum_cons]; omega
     ·rw [List.filter_cons_of_pos (by simp [hb])]; simp only [map_cons, List.sum_cons]; omega
   by_cases ha : a = x
   ·subst ha
    rw [List.filter_cons_of_neg (by simp)]
    have := hle l
    simp only [map_cons, List.sum_cons]; omega
   ·rw [List.filter_cons_of_pos (by simp [ha])]
    have := ih (by rcases mem_cons.mp h with e | h; exact absurd e.symm ha; exact h)
    simp only [map_cons, List.sum_cons]; omega
 exact gen _ hm
end
inductive EJ (h : AH) (sr : Int -> Nat) : List Nat -> List Nat -> List (Int × Nat) -> Prop
 | nil : EJ h sr [] [] []
 | cons {b t kb kt p : Nat} {x : Int} {bs ts : List Nat} {fr : List (Int × Nat)} : h[b]? = some (.bound "list_iterator.__next__" t, kb) -> h[t]? = some (.liter (sr x) p, kt) -> EJ h sr bs ts fr -> EJ h sr (b :: bs) (t :: ts) ((x, p) :: fr)
theorem EJ.keep {h h' : AH} {sr : Int -> Nat} {bs ts : List Nat} {fr : List (Int × Nat)} (i : EJ h sr bs ts fr) (hk : ∀ j, j ∈ bs \/ j ∈ ts -> h'[j]? = h[j]?) : EJ h' sr bs ts fr := by
 induction i with
 | nil => exact .nil
 | cons hb ht _ ih =>
  refine .cons (by rw [hk _ (.inl mem_cons_self)]; exact hb) (by rw [hk _ (.inr mem_cons_self)]; exact ht) (ih fun j hj => hk j ?_)
  exact hj.imp (mem_cons_of_mem _) (mem_cons_of_mem _)
theorem EJ.bound {h : AH} {sr : Int -> Nat} {bs ts : List Nat} {fr : List (Int × Nat)} (i : EJ h sr bs ts fr) : ∀ b ∈ bs, ∃ t k, h[b]? = some (.bound "list_iterator.__next__" t, k) := by
 induction i with
 | nil => intro b h; cases h
 | cons hb ht _ ih =>
  intro b h
  rcases mem_cons.mp h with rfl | h
  ·exact ⟨_, _, hb⟩
  ·exact ih b h
theorem EJ.len {h : AH} {sr : Int -> Nat} {bs ts : List Nat} {fr : List (Int × Nat)} (i : EJ h sr bs ts fr) : bs.length = fr.length := by
 induction i with
 | nil => rfl
 | cons _ _ _ ih => simp [ih]
structure FC (hB h : AH) (sr : Int -> Nat) (sl : List Int) (il : List Nat) (seen : List Int) (dl : List (Int × AV)) (bs ts : List Nat) (fr : List (Int × Nat)) : Prop where
 pre : hB <+: h
 st : IL h hB.length sl
 it : ∃ k, h[hB.length + 1]? = some (.list (il.map .ref), k)
 se : ∃ k, h[hB.length + 2]? = some (.iset seen, k)
 ns : ∃ k, h[hB.length + 3]? = some (.dict dl, k)
 its : EJ h sr bs ts fr
 tsn : ts.Nodup
 lowt : ∀ t ∈ ts, hB.length + 4 <= t
 lowb : ∀ b ∈ bs, hB.length + 4 <= b
section
variable {hB h : AH} {sr : Int -> Nat} {sl : List Int} {il : List Nat} {seen : List Int} {dl : List (Int × AV)} {bs ts : List Nat} {fr : List (Int × Nat)}
theorem FC.its_set (F : FC hB h sr sl il seen dl bs ts fr) {i : Nat} {x : aI × Nat} (hi : i < hB.length + 4) : EJ (h.set i x) sr bs ts fr := F.its.keep fun j hj => bN (by
 rcases hj with hj | hj
 ·have := F.lowb j hj; omega
 ·have := F.lowt j hj; omega)
theorem FC.set0 (F : FC hB h sr sl il seen dl bs ts fr) (sl' : List Int) (k : Nat) : FC hB (h.set hB.length (.list (sl'.map .int), k)) sr sl' il seen dl bs ts fr := by
 refine ⟨f_ F.pre (Nat.le_refl _), ⟨k, eP F.st.lt⟩, ?_, ?_, ?_, F.its_set (by omega), F.tsn, F.lowt, F.lowb⟩
 ·obtain ⟨k, e⟩ := F.it; exact ⟨k, by rw [bN (by omega)]; exact e⟩
 ·obtain ⟨k, e⟩ := F.se; exact ⟨k, by rw [bN (by omega)]; exact e⟩
 ·obtain ⟨k, e⟩ := F.ns; exact ⟨k, by rw [bN (by omega)]; exact e⟩
theorem FC.set1 (F : FC hB h sr sl il seen dl bs ts fr) (il' : List Nat) (k : Nat) : FC hB (h.set (hB.length + 1) (.list (il'.map .ref), k)) sr sl il' seen dl bs ts fr := by
 refine ⟨f_ F.pre (by omega), F.st.set (by omega), ?_, ?_, ?_, F.its_set (by omega), F.tsn, F.lowt, F.lowb⟩
 ·obtain ⟨k', e⟩ := F.it; exact ⟨k, eP (bR e)⟩
 ·obtain ⟨k, e⟩ := F.se; exact ⟨k, by rw [bN (by omega)]; exact e⟩
 ·obtain ⟨k, e⟩ := F.ns; exact ⟨k, by rw [bN (by omega)]; exact e⟩
theorem FC.set2 (F : FC hB h sr sl il seen dl bs ts fr) (seen' : List Int) (k : Nat) : FC hB (h.set (hB.length + 2) (.iset seen', k)) sr sl il seen' dl bs ts fr := by
 refine ⟨f_ F.pre (by omega), F.st.set (by omega), ?_, ?_, ?_, F.its_set (by omega), F.tsn, F.lowt, F.lowb⟩
 ·obtain ⟨k, e⟩ := F.it; exact ⟨k, by rw [bN (by omega)]; exact e⟩
 ·obtain ⟨k', e⟩ := F.se; exact ⟨k, eP (bR e)⟩
 ·obtain ⟨k, e⟩ := F.ns; exact ⟨k, by rw [bN (by omega)]; exact e⟩
theorem FC.set3 (F : FC hB h sr sl il seen dl bs ts fr) (dl' : List (Int × AV)) (k : Nat) : FC hB (h.set (hB.length + 3) (.dict dl', k)) sr sl il seen dl' bs ts fr := by
 refine ⟨f_ F.pre (by omega), F.st.set (by omega), ?_, ?_, ?_, F.its_set (by omega), F.tsn, F.lowt, F.lowb⟩
 ·obtain ⟨k, e⟩ := F.it; exact ⟨k, by rw [bN (by omega)]; exact e⟩
 ·obtain ⟨k, e⟩ := F.se; exact ⟨k, by rw [bN (by omega)]; exact e⟩
 ·obtain ⟨k', e⟩ := F.ns; exact ⟨k, eP (bR e)⟩
theorem FC.grow (F : FC hB h sr sl il seen dl bs ts fr) {h' : AH} (p : h <+: h') : FC hB h' sr sl il seen dl bs ts fr := by
 refine ⟨F.pre.trans p, F.st.mono p, ?_, ?_, ?_, ?_, F.tsn, F.lowt, F.lowb⟩
 ·obtain ⟨k, e⟩ := F.it; exact ⟨k, aS p e⟩
 ·obtain ⟨k, e⟩ := F.se; exact ⟨k, aS p e⟩
 ·obtain ⟨k, e⟩ := F.ns; exact ⟨k, aS p e⟩
 ·have : ∀ {bs ts fr}, EJ h sr bs ts fr -> EJ h' sr bs ts fr := by
   intro bs ts fr i
   induction i with
   | nil => exact .nil
   | cons hb ht _ ih => exact .cons (aS p hb) (aS p ht) ih
  exact this F.its
theorem EJ.lt {h : AH} {sr : Int -> Nat} {bs ts : List Nat} {fr : List (Int × Nat)} (i : EJ h sr bs ts fr) : ∀ t ∈ ts, t < h.length := by
 induction i with
 | nil => intro t h; cases h
 | cons hb ht _ ih =>
  intro t hm
  rcases mem_cons.mp hm with rfl | hm
  ·exact bR ht
  ·exact ih t hm
theorem FC.addIt (F : FC hB h sr sl il seen dl bs ts fr) (x : Int) : FC hB (h ++ [(.liter (sr x) 0, 0), (.bound "list_iterator.__next__" h.length, 0)]) sr sl il seen dl ((h.length + 1) :: bs) (h.length :: ts) ((x, 0) :: fr) := by
 have G := F.grow (aZ h [(.liter (sr x) 0, 0), (.bound "list_iterator.__next__" h.length, 0)])
 obtain ⟨k, e⟩ := F.ns
 have hl := bR e
 refine ⟨G.pre, G.st, G.it, G.se, G.ns, .cons (kb := 0) (kt := 0) (eJ _ _ 1) (bW _ _) G.its, nodup_cons.mpr ⟨fun hm => ?_, F.tsn⟩, fun t ht => ?_, fun b hb => ?_⟩
 ·have := F.its.lt _ hm; omega
 ·rcases mem_cons.mp ht with rfl | ht
  ·omega
  ·exact F.lowt t ht
 ·rcases mem_cons.mp hb with rfl | hb
  ·omega
  ·exact F.lowb b hb
theorem FC.top {b t p : Nat} {x : Int} (F : FC hB h sr sl il seen dl (b :: bs) (t :: ts) ((x, p) :: fr)) {o : aI × Nat} : FC hB (h.set t o) sr sl il seen dl bs ts fr := by
 obtain ⟨pre, st, it, se, ns, its, tsn, lowt, lowb⟩ := F
 have htl := lowt t mem_cons_self
 have hnd := nodup_cons.mp tsn
 refine ⟨f_ pre (by omega), st.set (by omega), ?_, ?_, ?_, ?_, hnd.2, fun t ht => lowt t (mem_cons_of_mem _ ht), fun b hb => lowb b (mem_cons_of_mem _ hb)⟩
 ·obtain ⟨k, e⟩ := it; exact ⟨k, by rw [bN (by omega)]; exact e⟩
 ·obtain ⟨k, e⟩ := se; exact ⟨k, by rw [bN (by omega)]; exact e⟩
 ·obtain ⟨k, e⟩ := ns; exact ⟨k, by rw [bN (by omega)]; exact e⟩
 ·cases its with
  | cons hb ht i =>
   refine i.keep fun j hj => bN fun e => ?_
   rcases hj with hj | hj
   ·obtain ⟨t', k', e'⟩ := i.bound j hj
    exact bT ht e' (by simp) e
   ·exact hnd.1 (e ▸ hj)
theorem FC.topGo {b t p k : Nat} {x : Int} (F : FC hB h sr sl il seen dl (b :: bs) (t :: ts) ((x, p) :: fr)) : FC hB (h.set t (.liter (sr x) (p + 1), k)) sr sl il seen dl (b :: bs) (t :: ts) ((x, p + 1) :: fr) := by
 have T := F.top (o := (.liter (sr x) (p + 1), k))
 refine ⟨T.pre, T.st, T.it, T.se, T.ns, ?_, F.tsn, F.lowt, F.lowb⟩
 cases F.its with
 | @cons _ _ kb kt _ _ _ _ _ hb ht i =>
  exact .cons (kb := kb) (kt := k) (by rw [bN (bT ht hb (by simp))]; exact hb) (eP (bR ht)) T.its
end
noncomputable def qO : List (Int × Nat) -> List (Int × AV) := List.rec [] fun x fr ih => ih ++ [(x.1, .int fr.length)]
theorem CP (x : Int × Nat) (fr : List (Int × Nat)) : qO (x :: fr) = qO fr ++ [(x.1, .int fr.length)] := rfl
theorem nX (fr : List (Int × Nat)) : (qO fr).map (·.1) = (fr.map (·.1)).reverse := by
 induction fr with
 | nil => rfl
 | cons x fr ih => rw [CP, map_append, ih]; exact List.reverse_cons.symm
theorem HI (fr : List (Int × Nat)) : (qO fr).length = fr.length := by
 have := congrArg List.length (nX fr); simpa using this
theorem RZ (fr : List (Int × Nat)) (x : Int) : ((qO fr).any fun e => e.1 == x) = (fr.map (·.1)).contains x := by
 have h1 : ((qO fr).any fun e => e.1 == x) = ((qO fr).map (·.1)).contains x := by
  generalize qO fr = l
  induction l with
  | nil => rfl
  | cons a l ih =>
   simp only [List.any_cons, map_cons, List.contains_cons, ih]
   by_cases hh : a.1 = x
   ·simp [hh]
   ·have h1 : (a.1 == x) = false := by simpa using hh
    have h2 : (x == a.1) = false := by simpa using fun e : x = a.1 => hh e.symm
    rw [h1, h2]
 rw [h1, nX]
 by_cases h : x ∈ fr.map (·.1) <;> simp [h] <;> simpa using h
theorem OG {fr : List (Int × Nat)} {x : Int} {v : AV} (hx : x ∉ fr.map (·.1)) : DV (qO fr) x v = qO fr ++ [(x, v)] := by
 unfold DV
 rw [if_neg]
 simp only [List.any_eq_true, decide_eq_true_eq, not_exists, not_and]
 intro e he hh
 have : x ∈ (qO fr).map (·.1) := mem_map.mpr ⟨e, he, hh⟩
 rw [nX] at this
 exact hx (List.mem_reverse.mp this)
theorem MQ {fr : List (Int × Nat)} {x : Int} {v : AV} (hx : x ∉ fr.map (·.1)) : KN (qO fr ++ [(x, v)]) x = qO fr := by
 unfold KN
 rw [List.filter_append]
 have h1 : (qO fr).filter (fun e => decide (e.1 ≠ x)) = qO fr := by
  rw [List.filter_eq_self]
  intro e he
  simp only [decide_eq_true_eq]
  intro hh
  have : x ∈ (qO fr).map (·.1) := mem_map.mpr ⟨e, he, hh⟩
  rw [nX] at this
  exact hx (List.mem_reverse.mp this)
 rw [h1]; simp
theorem IB {fr : List (Int × Nat)} {x : Int} (hx : x ∈ fr.map (·.1)) : ∃ i : Nat, xL (qO fr) x = some (.int i) := by
 have h : ∀ l : List (Int × AV), (∀ e ∈ l, ∃ i : Nat, e.2 = .int i) -> x ∈ l.map (·.1) -> ∃ i : Nat, xL l x = some (.int i) := by
  intro l hl hm
  unfold xL
  cases hf : l.find? (fun e => decide (e.1 = x)) with
  | none =>
   obtain ⟨e, he, hx⟩ := mem_map.mp hm
   have := List.find?_eq_none.mp hf e he
   simp [hx] at this
  | some e =>
   obtain ⟨i, hi⟩ := hl e (List.mem_of_find?_eq_some hf)
   exact ⟨i, by simp [hi]⟩
 refine h _ ?_ (by rw [nX]; exact List.mem_reverse.mpr hx)
 clear hx
 induction fr with
 | nil => intro e he; cases he
 | cons f fr ih =>
  intro e he
  rw [CP] at he
  rcases mem_append.mp he with he | he
  ·exact ih e he
  ·exact ⟨fr.length, by rw [mem_singleton.mp he]⟩
structure S_ (e : List (String × AV)) (n D : Nat) : Prop where
 n2i : e.lookup "n2i" = some (.ref D)
 st : e.lookup "stack" = some (.ref n)
 it : e.lookup "itstack" = some (.ref (n + 1))
 se : e.lookup "seen" = some (.ref (n + 2))
 ns : e.lookup "node2stacki" = some (.ref (n + 3))
theorem S_.node {e : List (String × AV)} {n D : Nat} (E : S_ e n D) (v : AV) : S_ (put "node" v e) n D := by
 refine ⟨?_, ?_, ?_, ?_, ?_⟩
 ·simp! [E.n2i]
 ·simp! [E.st]
 ·simp! [E.it]
 ·simp! [E.se]
 ·simp! [E.ns]
structure Sz (ks seen : List Int) (fr : List (Int × Nat)) : Prop where
 a : fr.length <= seen.length
 b : seen.length + (rS ks seen).length <= ks.length
structure FS (hB : AH) (ks : List Int) (su : Int -> List Int) (sr : Int -> Nat) (D : Nat) (t : Option Int) (seen : List Int) (fr : List (Int × Nat)) (e : List (String × AV)) (h : AH) : Prop where
 df : ∃ rk clk, DF ks su seen fr rk clk t
 fc : ∃ bs ts, FC hB h sr (fr.map (·.1)).reverse bs.reverse seen (qO fr) bs ts fr
 sz : Sz ks seen fr
 ev : S_ e hB.length D
noncomputable def mW (ks : List Int) (su : Int -> List Int) (seen : List Int) (fr : List (Int × Nat)) : Nat := HL su ks seen + u8 su fr
theorem LA {h : AH} {r k : Nat} {l : List AV} {v : AV} (e : h[r]? = some (.list (l ++ [v]), k)) (hl : l.length < 1000000) : oX (.ref r) (.int (-1)) h = some v := by
 have : idxOf (-1) (l ++ [v]).length = some l.length := by
  unfold idxOf
  rw [if_neg (by decide), length_append, length_singleton, if_pos ⟨by omega, by omega⟩]
  congr 1; omega
 exact IP e this (by simp)
theorem WR {h : AH} {b t kb kt p l kl : Nat} {xs : List Int} (hb : h[b]? = some (.bound "list_iterator.__next__" t, kb)) (ht : h[t]? = some (.liter l p, kt)) (hl : h[l]? = some (.list (xs.map .int), kl)) :
  (∀ y, xs[p]? = some y -> lP (.ref b) [] h = some (.ok (.int y), h.set t (.liter l (p + 1), kt + 1))) /\ (xs[p]? = none -> lP (.ref b) [] h = some (.error "StopIteration", h.set t (.junk, kt + 1))) := by
 have e : lP (.ref b) [] h = tI (.ref t) h := by
  simp! [lP, hb, ht]
 rw [e]
 refine ⟨fun y hy => ?_, fun hy => ?_⟩
 ·have : (xs.map AV.int)[p]? = some (.int y) := by rw [getElem?_map, hy]; rfl
  rw [uO ht hl, this]; rfl
 ·have : (xs.map AV.int)[p]? = none := by rw [getElem?_map, hy]; rfl
  rw [uO ht hl, this]; rfl
theorem y_ {h : AH} {r k : Nat} {l : List AV} {v : AV} (e : h[r]? = some (.list (l ++ [v]), k)) (hl : l.length < 1000000) : uX [.ref r] h = some (v, h.set r (.list l, k + 1)) := by
 have h1 : (l ++ [v]).getLast? = some v := by simp
 have h2 : (l ++ [v]).dropLast = l := by simp
 have h3 : (l ++ [v]).length <= 1000000 := by rw [length_append, length_singleton]; omega
 rw [QR e h3 h1, h2]
theorem rN (su : Int -> List Int) (x : Int) (p : Nat) (fr : List (Int × Nat)) : u8 su ((x, p) :: fr) = (su x).length - p + 1 + u8 su fr := by simp [u8]
theorem yO {hB : AH} {lo s a D : Nat} {rv : AV} {pa fi : Int} {ks : List Int} {ni sr dd : Int -> Nat} {np : Int -> Int} {su : Int -> List Int} (S : mS hB lo s a D rv pa fi ks ni sr dd np su) (hcl : ∀ v ∈ ks, ∀ w ∈ su v, w ∈ ks) (hkl : ks.length <= 900) {Q : aN -> AS -> Prop} {seen : List Int} {n : Nat}
  (hn : ∀ fr node e h, FS hB ks su sr D (some node) seen fr e h -> mW ks su seen fr < n -> node ∈ ks -> e.lookup "node" = some (.int node) -> Q .next ⟨e, h⟩) (he : ∀ e h, FS hB ks su sr D none seen [] e h -> Q .brk ⟨e, h⟩) (fr : List (Int × Nat)) (e : List (String × AV)) (h : AH) (F : FS hB ks su sr D none seen fr e h) (hm : mW ks su seen fr <= n) :
  cB (kY (jX (aG "stack"))
           (KZ "StopIteration"
            (bU (BZ "node" (pX (iA (aG "itstack") (JA (pure (AV.int 1)))) (pure [])))
             (pure aN.brk))
            (bU (QQ (aG "node2stacki") (eY "list" uX (aG "stack") (pure [])))
             (fP (eY "list" uX (aG "itstack") (pure [])))))
           (pure aN.brk)) Q ⟨e, h⟩ := by
 refine lX (fun m st => ∃ fr, m = mW ks su seen fr /\ m <= n /\ FS hB ks su sr D none seen fr st.env st.hp) ?_ (mW ks su seen fr) _ ⟨fr, rfl, hm, F⟩
 rintro m ⟨e, h⟩ zI2
 refine Mine.hold fun gL bk => ?_
 obtain ⟨fr, rfl, hm, F⟩ := zI2
 refine bk ?_; clear bk gL
 simp only at F
 have E := F.ev
 refine Mine.hold fun gL bk => ?_
 obtain ⟨bs, ts, C⟩ := F.fc
 obtain ⟨rk, clk, d⟩ := F.df
 obtain ⟨kst, est⟩ := C.st
 refine bk ?_; clear bk gL
 have sz := F.sz
 have hfl : fr.length <= 900 := by have := sz.a; have := sz.b; omega
 cases fr with
 | nil =>
  have hl0 : (([] : List (Int × Nat)).map (·.1)).reverse.length <= 1000000 := by simp
  simp! [E.st, dJ, fR, est, List.map_nil, List.reverse_nil, List.isEmpty_nil, Bool.not_true]
  exact he _ _ F
 | cons f fr' =>
  obtain ⟨x, p⟩ := f
  have hx : x ∈ ks := d.sub x (d.frs x (by simp))
  have hxf : x ∉ fr'.map (·.1) := by have := d.nd; simp only [map_cons, nodup_cons] at this; exact this.1
  cases hits : C.its with
  | @cons b t kb kt _ _ bs' ts' _ hb ht i =>
  refine Mine.hold fun gL bk => ?_
  obtain ⟨kl, el⟩ := (S.suc x hx).mono C.pre
  obtain ⟨c1, c2⟩ := WR hb ht el
  obtain ⟨kit, eit⟩ := C.it
  refine bk ?_; clear bk gL
  have eit' : h[hB.length + 1]? = some (aI.list (bs'.reverse.map AV.ref ++ [AV.ref b]), kit) := by rw [eit]; simp
  have lbs : bs'.length = fr'.length := i.len
  simp only [length_cons] at hfl
  have hidx := LA eit' (by rw [length_map, List.length_reverse]; omega)
  have est' : h[hB.length]? = some (aI.list ((fr'.map (fun f : Int × Nat => f.1)).reverse.map AV.int ++ [AV.int x]), kst) := by rw [est]; simp
  have hne : ((fr'.map (fun f : Int × Nat => f.1)).reverse.map AV.int ++ [AV.int x]).isEmpty = false := by simp
  have hlen1 : ((fr'.map (fun f : Int × Nat => f.1)).reverse.map AV.int ++ [AV.int x]).length <= 1000000 := by simp; omega
  have hlen2 : fr'.length + 1 <= 1000000 := by omega
  simp! [E.st, dJ, fR, est', hne, List.length_reverse, hlen2, Bool.not_false, E.it, Int.reduceNeg, hidx]
  cases hy : (su x)[p]? with
  | some y =>
   simp! [c1 y hy]
   have hyk : y ∈ ks := hcl x hx y (mem_of_getElem? hy)
   have hp := (List.getElem?_eq_some_iff.mp hy).1
   have G := C.topGo (k := kt + 1)
   refine hn ((x, p + 1) :: fr') y _ _ ⟨⟨rk, clk, d.next hy⟩, ⟨_, _, G⟩, ⟨sz.a, sz.b⟩, E.node _⟩ ?_ hyk (by simp! [id_eq])
   unfold mW at hm |-
   rw [rN] at hm |-
   omega
  | none =>
   have C1 := C.top (o := (.junk, kt + 1))
   refine Mine.hold fun gL bk => ?_
   refine Mine.gen (h.set t (.junk, kt + 1)) fun h1 eh1 => ?_
   rw [eh1] at C1
   obtain ⟨k0, e0⟩ := C1.st
   have e0' : h1[hB.length]? = some (aI.list ((fr'.map (fun f : Int × Nat => f.1)).reverse.map AV.int ++ [AV.int x]), k0) := by rw [e0]; simp
   have p1 := y_ e0' (by rw [length_map, List.length_reverse, length_map]; omega)
   have C2 := C1.set0 (fr'.map (fun f : Int × Nat => f.1)).reverse (k0 + 1)
   refine Mine.gen (h1.set hB.length (.list ((fr'.map (fun f : Int × Nat => f.1)).reverse.map AV.int), k0 + 1)) fun h2 eh2 => ?_
   rw [eh2] at C2 p1
   obtain ⟨k3, e3⟩ := C2.ns
   have e3' : h2[hB.length + 3]? = some (.dict (qO fr' ++ [(x, .int fr'.length)]), k3) := e3
   have hd : mH (.ref (hB.length + 3)) (.int x) h2 = some ((), h2.set (hB.length + 3) (.dict (qO fr'), k3 + 1)) := by
    have hv : (xL (qO fr' ++ [(x, .int fr'.length)]) x).isSome = true := by
     obtain ⟨i, hi⟩ := IB (fr := (x, p) :: fr') (x := x) (by simp)
     have : qO fr' ++ [(x, .int fr'.length)] = qO ((x, p) :: fr') := rfl
     rw [this, hi]; rfl
    have hl : (qO fr' ++ [(x, AV.int fr'.length)]).length <= 1000000 := by rw [length_append, HI, length_singleton]; omega
    rw [B_ e3' ⟨hl, hv⟩, MQ hxf]
   have C3 := C2.set3 (qO fr') (k3 + 1)
   refine Mine.gen (h2.set (hB.length + 3) (.dict (qO fr'), k3 + 1)) fun h3 eh3 => ?_
   rw [eh3] at C3 hd
   obtain ⟨k4, e4⟩ := C3.it
   refine bk ?_; clear bk gL
   have e4' : h3[hB.length + 1]? = some (aI.list (bs'.reverse.map AV.ref ++ [AV.ref b]), k4) := by rw [e4]; simp
   have p2 := y_ e4' (by rw [length_map, List.length_reverse]; omega)
   have C4 := C3.set1 bs'.reverse (k4 + 1)
   simp! [c2 hy, eh1, E.ns, E.st, jL e0', p1, hd, E.it, jL e4', p2]
   refine ⟨mW ks su seen fr', ?_, fr', rfl, ?_, ⟨⟨_, _, d.pop hy⟩, ⟨_, _, C4⟩, ⟨?_, sz.b⟩, E⟩⟩
   ·unfold mW; rw [rN]; omega
   ·unfold mW at hm |-; rw [rN] at hm; omega
   ·have := sz.a; simp only [length_cons] at this; omega
theorem yQ {α : Type} (xs : List α) (lo hi st : Option Int) : (pickL xs lo hi st).length <= xs.length := by
 unfold pickL
 refine Nat.le_trans (List.length_filterMap_le _ _) (sliceRange_length_le _ _ _ _ (fun hc => ?_) fun hc => ?_)
 ·simp only [sliceBounds] at hc |-
  simp only [hc, if_true]
  constructor
  ·cases lo with
   | none => simp
   | some i => dsimp only; first | exact Int.le_max_left _ _ | omega
  ·cases hi with
   | none => simp
   | some i => dsimp only; first | exact Int.max_le.mpr ⟨Int.natCast_nonneg _, Int.min_le_right _ _⟩ | omega
 ·simp only [sliceBounds] at hc |-
  simp only [hc, if_false]
  constructor
  ·cases lo with
   | none => simp
   | some i => dsimp only; first | exact Int.max_le.mpr ⟨Int.sub_nonneg.mp (by simp), Int.min_le_right _ _⟩ | exact Int.max_le.mpr ⟨by omega, Int.min_le_right _ _⟩ | omega
  ·cases hi with
   | none => simp
   | some i => dsimp only; first | exact Int.le_max_left _ _ | omega
theorem xJ {hB : AH} {lo s a D : Nat} {rv : AV} {pa fi : Int} {ks : List Int} {ni sr dd : Int -> Nat} {np : Int -> Int} {su : Int -> List Int} {K : AV -> AH -> Prop} (S : mS hB lo s a D rv pa fi ks ni sr dd np su) (hcl : ∀ v ∈ ks, ∀ w ∈ su v, w ∈ ks) (hkl : ks.length <= 900)
  (k1 : ∀ h', hB <+: h' -> qJ ks su -> K .none h') (k2 : ∀ h' c xs kk, hB <+: h' -> NX ks su -> h'[c]? = some (.list xs, kk) -> xs ≠ [] -> xs.length <= 1000000 -> K (.ref c) h') : iF (qH [.ref s]) K hB := by
 refine gH (bs := [("self", .ref s)]) rfl ?_
 unfold findCycle.prog
 obtain ⟨kD, eD⟩ := S.dct
 have lD := bR eD
 simp! [S.a_n2i, hO, fN, DG, fA, rG lD, eD]
 rw [map_map]
 refine Mine.hold fun gL bk => ?_
 refine Mine.gen (hB ++ [(aI.list [], 0), (aI.list [], 0), (aI.iset [], 0), (aI.dict [], 0)]) fun H eH => ?_
 refine bk ?_; clear bk gL
 rw [eH]
 refine eZ (fun items st => ∃ (rest seen : List Int), items = rest.map .int /\ (∀ x ∈ rest, x ∈ ks) /\ (∀ x ∈ ks, x ∈ rest \/ x ∈ seen) /\ FS hB ks su sr D none seen [] st.env st.hp) ?_ ?_ ?_ _ _ ?_
 rotate_right
 ·refine ⟨ks, [], rfl, fun zz h => h, fun zz h => .inl h, ⟨⟨_, _, DF.start ks su none⟩, ⟨[], [], ?_⟩, ⟨Nat.le_refl _, by simp only [length_nil, Nat.zero_add]; exact JV ks []⟩, ⟨by simp! [id_eq], by simp! [id_eq], by simp! [id_eq], by simp! [id_eq], by simp! [id_eq]⟩⟩⟩
  exact ⟨eH ▸ aZ _ _, ⟨0, eH ▸ bW _ _⟩, ⟨0, eH ▸ eJ _ _ 1⟩, ⟨0, eH ▸ eJ _ _ 2⟩, ⟨0, eH ▸ eJ _ _ 3⟩, .nil, nodup_nil, fun zz h => (by cases h), fun zz h => (by cases h)⟩
 ·rintro items ⟨e, h⟩ zI2 g hg
  refine Mine.hold fun gL bk => ?_
  obtain ⟨rest, seen, hi, hr, hall, F⟩ := zI2
  simp only [mem_singleton] at hg
  subst hg
  obtain ⟨bs, ts, C⟩ := F.fc
  refine bk ?_; clear bk gL
  exact aS C.pre eD
 ·rintro x items ⟨e, h⟩ zI3
  refine Mine.hold fun gL bk => ?_
  obtain ⟨rest, seen, hi, hr, hall, F⟩ := zI3
  refine bk ?_; clear bk gL
  cases rest with
  | nil => cases hi
  | cons x0 rest =>
  simp only [map_cons, List.cons.injEq] at hi
  obtain ⟨rfl, rfl⟩ := hi
  simp only at F
  have E := F.ev
  refine Mine.hold fun gL bk => ?_
  obtain ⟨bs, ts, C⟩ := F.fc
  obtain ⟨kse, ese⟩ := C.se
  refine bk ?_; clear bk gL
  simp! [E.se, sB, mZ, ese]
  by_cases hx : x0 ∈ seen
  ·have hc : seen.contains x0 = true := by simpa using hx
   simp! [hc]
   refine ⟨rest, seen, rfl, fun x h => hr x (mem_cons_of_mem _ h), fun x h => ?_, ⟨F.df, F.fc, F.sz, F.ev.node _⟩⟩
   rcases hall x h with h | h
   ·rcases mem_cons.mp h with rfl | h
    ·exact .inr hx
    ·exact .inl h
   ·exact .inr h
  have hc : seen.contains x0 = false := by simpa using hx
  simp! [hc]
  refine lX (fun n st => ∃ seen' fr node, n = mW ks su seen' fr /\ node ∈ ks /\ FS hB ks su sr D (some node) seen' fr st.env st.hp /\ st.env.lookup "node" = some (.int node) /\ (∀ x ∈ seen, x ∈ seen') /\ (node = x0 \/ x0 ∈ seen')) ?_ (mW ks su seen []) _ ?_
  rotate_left
  ·obtain ⟨rk, clk, d⟩ := F.df
   exact ⟨seen, [], x0, rfl, hr x0 mem_cons_self, ⟨⟨rk, clk, d.any _⟩, F.fc, F.sz, F.ev.node _⟩, by simp! [id_eq], fun zz h => h, .inl rfl⟩
  rintro n ⟨e1, h1⟩ zI2
  refine Mine.hold fun gL bk => ?_
  obtain ⟨seen1, fr1, node, rfl, hnk, F1, en1, hs1, hx1⟩ := zI2
  refine bk ?_; clear bk gL
  simp only at F1 en1
  have E1 := F1.ev
  refine Mine.hold fun gL bk => ?_
  obtain ⟨bs1, ts1, C1⟩ := F1.fc
  obtain ⟨rk1, clk1, d1⟩ := F1.df
  obtain ⟨kse1, ese1⟩ := C1.se
  obtain ⟨kst1, est1⟩ := C1.st
  obtain ⟨kns1, ens1⟩ := C1.ns
  refine bk ?_; clear bk gL
  have sz1 := F1.sz
  have hfl1 : fr1.length <= 900 := by have := sz1.a; have := sz1.b; omega
  simp! [dJ, fR, E1.se, en1, sB, mZ, ese1]
  by_cases hm : node ∈ seen1
  ·have hc1 : seen1.contains node = true := by simpa using hm
   simp! [hc1, en1, E1.ns, sB, mZ, ens1, RZ]
   by_cases hf : node ∈ fr1.map (fun f : Int × Nat => f.1)
   ·have hc2 : (fr1.map (fun f : Int × Nat => f.1)).contains node = true := by simpa using hf
    refine Mine.hold fun gL bk => ?_
    obtain ⟨i, hi⟩ := IB hf
    have hidx : oX (.ref (hB.length + 3)) (.int node) h1 = some (.int i) := DN ens1 hi
    have hl1 : ((fr1.map (fun f : Int × Nat => f.1)).reverse.map AV.int).length <= 1000000 := by simp; omega
    have hsl : jE (.ref hB.length) (some i) none none h1 = gJ (.list (pickL ((fr1.map (fun f : Int × Nat => f.1)).reverse.map AV.int) (some i) none none)) h1 := KG est1 hl1 (by decide)
    have hpl := yQ ((fr1.map (fun f : Int × Nat => f.1)).reverse.map AV.int) (some i) none none
    refine Mine.gen (pickL ((fr1.map (fun f : Int × Nat => f.1)).reverse.map AV.int) (some i) none none) fun pk epk => ?_
    refine bk ?_; clear bk gL
    rw [epk] at hsl hpl
    have hpl' : pk.length <= 900 := by simp at hpl; omega
    have hb : oB .add (.ref h1.length) (.ref (h1.length + 1)) (h1 ++ [(.list pk, 0), (.list [.int node], 0)]) = gJ (.list (pk ++ [.int node])) (h1 ++ [(.list pk, 0), (.list [.int node], 0)]) := pY (bW _ _) (eJ _ _ 1) (by simp; omega)
    simp! [hc2, E1.st, E1.ns, en1, hidx, fO, gG, hsl, hb]
    exact k2 _ _ (pk ++ [.int node]) 0 (C1.pre.trans (aZ _ _)) (d1.ring hf) (eJ _ _ 2) (by simp) (by simp; omega)
   ·have hc2 : (fr1.map (fun f : Int × Nat => f.1)).contains node = false := by simpa using hf
    simp! [hc2]
    refine yO S hcl hkl (n := mW ks su seen1 fr1) (fun fr2 node2 e2 h2 F2 hlt hk2 hn2 => ?_) (fun e2 h2 F2 => ?_) fr1 e1 h1 ⟨⟨rk1, clk1, d1.black hm hf⟩, ⟨bs1, ts1, C1⟩, sz1, E1⟩ (Nat.le_refl _)
    ·simp! [id_eq]
     exact ⟨_, hlt, seen1, fr2, node2, rfl, hk2, F2, hn2, hs1, .inr (hx1.elim (fun e => e ▸ hm) id)⟩
    ·simp! [id_eq]
     refine ⟨rest, seen1, rfl, fun x h => hr x (mem_cons_of_mem _ h), fun x h => ?_, F2⟩
     rcases hall x h with h | h
     ·rcases mem_cons.mp h with rfl | h
      ·exact .inr (hx1.elim (fun e => e ▸ hm) id)
      ·exact .inl h
     ·exact .inr (hs1 x h)
  ·have hc1 : seen1.contains node = false := by simpa using hm
   have hfx : node ∉ fr1.map (fun f : Int × Nat => f.1) := fun h => hm (d1.frs node h)
   have hsl1 : seen1.length < 1000 := by have := sz1.b; omega
   have C2 := C1.set2 (seen1 ++ [node]) (kse1 + 1)
   refine Mine.hold fun gL bk => ?_
   refine Mine.gen (h1.set (hB.length + 2) (.iset (seen1 ++ [node]), kse1 + 1)) fun h2 eh2 => ?_
   rw [eh2] at C2
   have hadd : JP [.ref (hB.length + 2), .int node] h1 = some (.none, h2) := by
    rw [RO ese1 hsl1, if_neg (by rw [hc1]; exact Bool.false_ne_true), eh2]
   have Sg := S.grow C2.pre
   obtain ⟨kD2, eD2⟩ := Sg.dct
   obtain ⟨kl, el⟩ := Sg.suc node hnk
   have hit : tT [.ref (sr node)] h2 = gJ (.liter (sr node) 0) h2 := CT el
   have C3 := C2.addIt node
   refine Mine.gen (h2 ++ [(aI.liter (sr node) 0, 0), (.bound "list_iterator.__next__" h2.length, 0)]) fun h3 eh3 => ?_
   rw [eh3] at C3
   obtain ⟨k4, e4⟩ := C3.it
   have lb : bs1.length = fr1.length := C1.its.len
   have hl4 : bs1.length <= 1000000 := by omega
   have C4 := C3.set1 (bs1.reverse ++ [h2.length + 1]) (k4 + 1)
   refine Mine.gen (h3.set (hB.length + 1) (.list ((bs1.reverse ++ [h2.length + 1]).map .ref), k4 + 1)) fun h4 eh4 => ?_
   rw [eh4] at C4
   have happ : cW [.ref (hB.length + 1), .ref (h2.length + 1)] h3 = some (.none, h4) := by
    have : (bs1.reverse.map AV.ref).length <= 1000000 := by simp; omega
    rw [jH e4 this, <- eh4, map_append]; rfl
   obtain ⟨k5, e5⟩ := C4.st
   have hlen : tZ [.ref hB.length] h4 = some (.int fr1.length, h4) := by
    have : ((fr1.map (fun f : Int × Nat => f.1)).reverse.map AV.int).length <= 1000000 := by simp; omega
    rw [RT e5 this]; simp
   obtain ⟨k6, e6⟩ := C4.ns
   have C5 := C4.set3 (qO ((node, 0) :: fr1)) (k6 + 1)
   refine Mine.gen (h4.set (hB.length + 3) (.dict (qO ((node, 0) :: fr1)), k6 + 1)) fun h5 eh5 => ?_
   rw [eh5] at C5
   have hset : gX (.ref (hB.length + 3)) (.int node) (.int fr1.length) h4 = some ((), h5) := by
    have : (qO fr1).length <= 1000000 := by rw [HI]; omega
    rw [EC e6 this, OG hfx, <- eh5]; rfl
   obtain ⟨k7, e7⟩ := C5.st
   have C6 := C5.set0 ((fr1.map (fun f : Int × Nat => f.1)).reverse ++ [node]) (k7 + 1)
   refine Mine.gen (h5.set hB.length (.list (((fr1.map (fun f : Int × Nat => f.1)).reverse ++ [node]).map .int), k7 + 1)) fun h6 eh6 => ?_
   refine bk ?_; clear bk gL
   rw [eh6] at C6
   have happ2 : cW [.ref hB.length, .int node] h5 = some (.none, h6) := by
    have : ((fr1.map (fun f : Int × Nat => f.1)).reverse.map AV.int).length <= 1000000 := by simp; omega
    rw [jH e7 this, <- eh6, map_append]; rfl
   have tyse : lW (.ref (hB.length + 2)) h1 = some "set" := VM ese1
   have hwr : tS "__next__" (.ref h2.length) (h2 ++ [(aI.liter (sr node) 0, 0)]) = gJ (.bound "list_iterator.__next__" h2.length) (h2 ++ [(aI.liter (sr node) 0, 0)]) := by
    simp! [tS]
   simp! [hc1, E1.se, en1, tyse, hadd, E1.it, jL e4, E1.n2i, sD eD2 hnk, Sg.n_su hnk, hit, hwr, eh3, happ, E1.st, hlen, E1.ns, hset, jL e7, happ2]
   have ty2 : lW (.ref (hB.length + 1)) h2 = some "list" := by obtain ⟨k, e⟩ := C2.it; exact jL e
   refine ⟨ty2, ?_⟩
   have hpu := EX hnk hm (su := su)
   have hml : (rS ks (seen1 ++ [node])).length < (rS ks seen1).length := FG (fun x hx => by rw [mem_singleton.mp hx]; exact ⟨hnk, hm⟩) (by simp)
   have hmW : mW ks su (seen1 ++ [node]) ((node, 0) :: fr1) < mW ks su seen1 fr1 := by
    unfold mW; rw [rN]; unfold wt at hpu; omega
   have szn : Sz ks (seen1 ++ [node]) ((node, 0) :: fr1) := by
    have := sz1.a; have := sz1.b
    refine ⟨?_, ?_⟩
    ·simp only [length_append, length_cons, length_nil]; omega
    ·simp only [length_append, length_cons, length_nil]; omega
   have C6' : FC hB h6 sr (((node, 0) :: fr1).map (·.1)).reverse ((h2.length + 1) :: bs1).reverse (seen1 ++ [node]) (qO ((node, 0) :: fr1)) ((h2.length + 1) :: bs1) (h2.length :: ts1) ((node, 0) :: fr1) := by
    rw [map_cons, List.reverse_cons, List.reverse_cons]; exact C6
   have hx2 : x0 ∈ seen1 ++ [node] := hx1.elim (fun e => by rw [e]; simp) fun h => mem_append_left _ h
   have hs2 : ∀ x ∈ seen, x ∈ seen1 ++ [node] := fun x h => mem_append_left _ (hs1 x h)
   refine yO S hcl hkl (n := mW ks su seen1 fr1) (fun fr2 node2 e2 hh F2 hlt hk2 hn2 => ?_) (fun e2 hh F2 => ?_) ((node, 0) :: fr1) e1 h6 ⟨⟨rk1, clk1, d1.push hm hnk⟩, ⟨_, _, C6'⟩, szn, E1⟩ (Nat.le_of_lt hmW)
   ·simp! [id_eq]
    exact ⟨_, hlt, seen1 ++ [node], fr2, node2, rfl, hk2, F2, hn2, hs2, .inr hx2⟩
   ·simp! [id_eq]
    refine ⟨rest, seen1 ++ [node], rfl, fun x h => hr x (mem_cons_of_mem _ h), fun x h => ?_, F2⟩
    rcases hall x h with h | h
    ·rcases mem_cons.mp h with rfl | h
     ·exact .inr hx2
     ·exact .inl h
    ·exact .inr (hs2 x h)
 ·rintro ⟨e, h⟩ zI1
  refine Mine.hold fun gL bk => ?_
  obtain ⟨rest, seen, hi, hr, hall, F⟩ := zI1
  have hn : rest = [] := by simpa using hi.symm
  subst hn
  obtain ⟨rk, clk, d⟩ := F.df
  obtain ⟨bs, ts, C⟩ := F.fc
  refine bk ?_; clear bk gL
  simp! [id_eq]
  exact k1 h C.pre (d.ranked fun x hx => (hall x hx).resolve_left (by simp))
noncomputable def pL (ks : List Int) (np : Int -> Int) : List Int := ks.filter fun v => decide (np v = 0)
theorem CA {h hb : AH} {lo s a D : Nat} {pa fi : Int} {g : Gr} {K : Except String AV -> AH -> Prop} (hS : L0 h lo s a D .none pa fi g) (pb : hb <+: h) (hbl : hb.length <= lo) (hlo : lo <= h.length) (hcl : ∀ v ∈ g.ks, ∀ w ∈ g.su v, w ∈ g.ks) (hkl : g.ks.length <= 900)
  (k : ∀ h' R ni sr dd r, sC h' lo s a D R g.ks ni sr dd g.np g.su (pL g.ks g.np) -> hb <+: h' -> lo <= R -> ((r = .ok .none /\ qJ g.ks g.su) \/ (r = .error "CycleError" /\ NX g.ks g.su)) -> K r h') : iF (vZ [.ref s]) K h := by
 refine IU (bs := [("self", .ref s)]) rfl ?_
 unfold prepare.prog
 obtain ⟨_, ni, sr, dd, S⟩ := hS
 obtain ⟨kD, eD⟩ := S.dct
 have lD := bR eD
 simp! [S.a_rn (.inl rfl), Bool.not_true, S.a_n2i, HJ eD, vR, eD, wA, rG lD]
 rw [map_map]
 have S1 := S.grow (aZ h [(aI.dview "dict_values" D, 0)])
 refine Mine.gen (h ++ [(aI.dview "dict_values" D, 0)]) fun H1 eH1 => ?_
 rw [eH1] at S1 |-
 have p1 : h <+: H1 := eH1 ▸ aZ _ _
 refine c_ (β := Int) (inj := fun v => .ref (ni v)) (p := fun v => decide (g.np v = 0)) (out := .int) (xs := g.ks) (hg := by simp [aS p1 eD]) (hl := by omega) ?_ ?_
 ·intro v hv e' h' he' p'
  have S' := S1.grow p'
  simp! [S'.n_np hv, mP]
  by_cases hz : g.np v = 0
  ·simp! [hz, decide_true, S'.n_node hv]
   exact ⟨rfl, he'.put (by decide), p'⟩
  ·simp! [hz, decide_false, Bool.false_eq_true]
   exact ⟨rfl, he'.put (by decide), p'⟩
 intro h2 p2
 refine Mine.gen (pL g.ks g.np) fun rdy erdy => ?_
 have erdy' : (g.ks.filter fun v => decide (g.np v = 0)) = rdy := erdy
 rw [erdy']
 rw [erdy] at k
 refine Mine.gen (h2 ++ [(aI.list (rdy.map AV.int), 0)]) fun H2 eH2 => ?_
 have q2 : H1 <+: H2 := eH2 ▸ jU p2 _
 have S2 := S1.grow q2
 have iR : IL H2 h2.length rdy := ⟨0, eH2 ▸ bW _ _⟩
 obtain ⟨h3, e3, S3, same3, l3, kl3⟩ := S2.set_at (n := "_ready_nodes") (x := .ref h2.length) (rv' := .ref h2.length) (pa' := pa) (fi' := fi) MZ (by simp [hO, fN])
 have hfe : uB "TopologicalSorter" "_find_cycle" (.ref s) h3 = some () := S3.own (by decide) (by decide) (by decide) (by decide)
 have lp := p2.length_le
 have lp1 := p1.length_le
 have lq2 := q2.length_le
 have iR3 : IL h3 h2.length rdy := by
  obtain ⟨kR, eR⟩ := iR
  exact ⟨kR, by rw [same3 _ (kl3 _ _ _ eR)]; exact eR⟩
 have pb3 : hb <+: h3 := fU ((pb.trans p1).trans q2) fun i hi => same3 i (by have := S.low.2.1; omega)
 have So3 : sC h3 lo s a D h2.length g.ks ni sr dd g.np g.su rdy := by
  refine ⟨⟨pa, fi, S3⟩, iR3, fun v hv => ?_, by omega, fun x hx => ?_⟩
  ·have := (S1.suc v hv).lt; omega
  ·rw [<- erdy] at hx; exact (mem_filter.mp hx).1
 simp! [eH2, e3, hfe]
 refine xJ S3 hcl hkl (fun h4 p4 rk => ?_) (fun h4 c xs kk p4 rg ec hne hl => ?_)
 ·simp! [dJ, fR]
  exact k h4 _ _ _ _ _ (So3.grow p4) (pb3.trans p4) (by omega) (.inl ⟨rfl, rk⟩)
 ·have hie : xs.isEmpty = false := by cases xs <;> simp_all
  simp! [dJ, fR, ec, hl, hie, Bool.not_false]
  exact k h4 _ _ _ _ _ (So3.grow p4) (pb3.trans p4) (by omega) (.inr ⟨rfl, rg⟩)
theorem CC : ∀ (T : List Int) (np : Int -> Int) (rdy : List Int), (∀ w ∈ T, (T.count w : Int) <= np w) ->
  (∀ w, (T.foldl zL (np, rdy)).1 w = np w - T.count w) /\ ∃ zs, (T.foldl zL (np, rdy)).2 = rdy ++ zs /\ zs.Nodup /\ ∀ w, w ∈ zs ↔ (w ∈ T /\ np w = T.count w)
 | [], np, rdy, _ => ⟨fun w => by simp, [], by simp, nodup_nil, fun w => by simp⟩
 | w0 :: T, np, rdy, H => by
  have H' : ∀ w ∈ T, (T.count w : Int) <= qP np w0 (np w0 - 1) w := fun w hw => by
   have h := H w (mem_cons_of_mem _ hw)
   rw [count_cons] at h
   by_cases e : w = w0
   ·subst e; rw [fM]; simp at h; omega
   ·rw [dL _ _ e]
    have : (w0 == w) = false := by simpa using fun q : w0 = w => e q.symm
    rw [this] at h; simpa using h
  refine Mine.hold fun gL bk => ?_
  obtain ⟨h1, zs, h2, h3, h4⟩ := CC T (qP np w0 (np w0 - 1)) (if np w0 - 1 = 0 then rdy ++ [w0] else rdy) H'
  refine bk ?_; clear bk gL
  have hf : (w0 :: T).foldl zL (np, rdy) = T.foldl zL (qP np w0 (np w0 - 1), if np w0 - 1 = 0 then rdy ++ [w0] else rdy) := rfl
  rw [hf]
  refine ⟨fun w => ?_, ?_⟩
  ·rw [h1, count_cons]
   by_cases e : w = w0
   ·subst e; rw [fM]; simp; omega
   ·rw [dL _ _ e]
    have : (w0 == w) = false := by simpa using fun q : w0 = w => e q.symm
    rw [this]; simp
  ·have key : ∀ w, w ≠ w0 -> (w ∈ zs ↔ w ∈ w0 :: T /\ np w = ((w0 :: T).count w : Int)) := fun w hw => by
    have : (w0 == w) = false := by simpa using fun q : w0 = w => hw q.symm
    rw [h4, dL _ _ hw, count_cons, this, mem_cons]
    simp [hw]
   have cw : ((w0 :: T).count w0 : Int) = T.count w0 + 1 := by rw [count_cons]; simp
   by_cases hz : np w0 - 1 = 0
   ·rw [if_pos hz] at h2
    have hnT : w0 ∉ T := fun hm => by
     have := H' w0 hm
     rw [fM, hz] at this
     have := count_pos_iff.mpr hm
     omega
    have hc0 : T.count w0 = 0 := count_eq_zero.mpr hnT
    have hnz : w0 ∉ zs := fun hm => hnT ((h4 w0).mp hm).1
    refine ⟨w0 :: zs, by rw [if_pos hz, h2, append_assoc]; rfl, nodup_cons.mpr ⟨hnz, h3⟩, fun w => ?_⟩
    by_cases e : w = w0
    ·subst e; rw [cw, hc0]; simp; omega
    ·rw [mem_cons, <- key w e]; simp [e]
   ·rw [if_neg hz] at h2
    refine ⟨zs, by rw [if_neg hz]; exact h2, h3, fun w => ?_⟩
    by_cases e : w = w0
    ·subst e
     rw [h4, fM, cw]
     constructor
     ·rintro ⟨a, b⟩; exact ⟨mem_cons_self, by omega⟩
     ·rintro ⟨a, b⟩
      refine ⟨?_, by omega⟩
      apply Classical.byContradiction
      intro hn
      have hc0 : T.count w = 0 := count_eq_zero.mpr hn
      omega
    ·exact key w e
theorem yG (su : Int -> List Int) : ∀ (W : List Int) (np : Int -> Int) (rdy : List Int), W.Nodup -> (∀ v ∈ W, ∀ u ∈ W, u ∉ su v) -> (∀ v ∈ W, np v = -1) -> (∀ w ∈ W.flatMap su, ((W.flatMap su).count w : Int) <= np w) ->
  wL su (np, rdy) W /\ (∀ w, (W.foldl (lA su) (np, rdy)).1 w = if w ∈ W then -2 else np w - (W.flatMap su).count w) /\ ∃ zs, (W.foldl (lA su) (np, rdy)).2 = rdy ++ zs /\ zs.Nodup /\ ∀ w, w ∈ zs ↔ (w ∈ W.flatMap su /\ np w = (W.flatMap su).count w)
 | [], np, rdy, _, _, _, _ => ⟨trivial, fun w => by simp, [], by simp, nodup_nil, fun w => by simp⟩
 | v :: W, np, rdy, hnd, hds, hm1, H => by
  obtain ⟨hvW, hndW⟩ := nodup_cons.mp hnd
  have hT : (v :: W).flatMap su = su v ++ W.flatMap su := List.flatMap_cons
  rw [hT] at H |-
  have hvs : v ∉ su v := hds v mem_cons_self v mem_cons_self
  have hWs : ∀ u ∈ W, u ∉ su v := fun u hu => hds v mem_cons_self u (mem_cons_of_mem _ hu)
  have hvF : v ∉ W.flatMap su := fun h => by
   obtain ⟨u, hu, hvu⟩ := mem_flatMap.mp h
   exact hds u (mem_cons_of_mem _ hu) v mem_cons_self hvu
  have hWF : ∀ u ∈ W, u ∉ W.flatMap su := fun u hu h => by
   obtain ⟨u', hu', huu⟩ := mem_flatMap.mp h
   exact hds u' (mem_cons_of_mem _ hu') u (mem_cons_of_mem _ hu) huu
  have Hs : ∀ w ∈ su v, ((su v).count w : Int) <= qP np v (-2) w := fun w hw => by
   have := H w (mem_append_left _ hw)
   rw [count_append] at this
   rw [dL _ _ (fun e : w = v => hvs (e ▸ hw))]; omega
  refine Mine.hold fun gL bk => ?_
  obtain ⟨a1, zs1, a2, a3, a4⟩ := CC (su v) (qP np v (-2)) rdy Hs
  refine Mine.gen ((lA su (np, rdy) v).1) fun np1 enp1 => ?_
  have hd : lA su (np, rdy) v = (np1, rdy ++ zs1) := by
   rw [<- enp1, <- a2]; rfl
  have a1' : ∀ w, np1 w = qP np v (-2) w - (su v).count w := fun w => by rw [<- enp1]; exact a1 w
  have b1 : ∀ w ∈ W.flatMap su, ((W.flatMap su).count w : Int) <= np1 w := fun w hw => by
   have := H w (List.mem_append_right _ hw)
   rw [count_append] at this
   rw [a1', dL _ _ (fun e : w = v => hvF (e ▸ hw))]; omega
  obtain ⟨c1, c2, zs2, c3, c4, c5⟩ := yG su W np1 (rdy ++ zs1) hndW (fun x hx u hu => hds x (mem_cons_of_mem _ hx) u (mem_cons_of_mem _ hu)) (fun u hu => by
   rw [a1', dL _ _ (fun e : u = v => hvW (e ▸ hu)), count_eq_zero.mpr (hWs u hu)]
   have := hm1 u (mem_cons_of_mem _ hu); omega) b1
  refine bk ?_; clear bk gL
  refine ⟨⟨hm1 v mem_cons_self, by rw [hd]; exact c1⟩, fun w => ?_, zs1 ++ zs2, ?_, ?_, fun w => ?_⟩
  ·rw [foldl_cons, hd, c2, a1', count_append]
   by_cases e : w = v
   ·subst e
    rw [if_neg hvW, if_pos mem_cons_self, fM, count_eq_zero.mpr hvs, count_eq_zero.mpr hvF]; rfl
   ·rw [dL _ _ e]
    by_cases hw : w ∈ W
    ·rw [if_pos hw, if_pos (mem_cons_of_mem _ hw)]
    ·rw [if_neg hw, if_neg (by simp [e, hw])]; omega
  ·rw [foldl_cons, hd, c3, append_assoc]
  ·refine List.nodup_append.mpr ⟨a3, c4, fun x hx y hy e => ?_⟩
   refine Mine.hold fun gL bk => ?_
   subst e
   obtain ⟨p1, p2⟩ := (a4 x).mp hx
   obtain ⟨q1, q2⟩ := (c5 x).mp hy
   refine bk ?_; clear bk gL
   rw [a1', p2] at q2
   have := count_pos_iff.mpr q1
   omega
  ·rw [mem_append, a4, c5, mem_append, count_append, a1']
   constructor
   ·rintro (⟨p1, p2⟩ | ⟨q1, q2⟩)
    ·have hne : w ≠ v := fun e => hvs (e ▸ p1)
     rw [dL _ _ hne] at p2
     refine ⟨.inl p1, ?_⟩
     have := H w (mem_append_left _ p1)
     rw [count_append] at this
     omega
    ·have hne : w ≠ v := fun e => hvF (e ▸ q1)
     rw [dL _ _ hne] at q2
     exact ⟨.inr q1, by omega⟩
   ·rintro ⟨p, q⟩
    by_cases hF : w ∈ W.flatMap su
    ·have hne : w ≠ v := fun e => hvF (e ▸ hF)
     exact .inr ⟨hF, by rw [dL _ _ hne]; omega⟩
    ·have p1 := p.resolve_right hF
     have hne : w ≠ v := fun e => hvs (e ▸ p1)
     rw [count_eq_zero.mpr hF] at q
     exact .inl ⟨p1, by rw [dL _ _ hne]; omega⟩
theorem HP (node : Int) : ∀ (preds : List Int) (g : Gr), (preds.foldl (nH node) g).np = g.np
 | [], _ => rfl
 | p :: ps, g => HP node ps (nH node g p)
theorem HT (node : Int) : ∀ (preds : List Int) (g : Gr) (x : Int), x ∈ (preds.foldl (nH node) g).ks ↔ x ∈ g.ks \/ x ∈ preds
 | [], g, x => by simp
 | p :: ps, g, x => by
  rw [foldl_cons, HT node ps]
  simp only [nH, nG, mem_cons]
  constructor
  ·rintro ((h | h) | h)
   ·exact .inl h
   ·exact .inr (.inl h)
   ·exact .inr (.inr h)
  ·rintro (h | h | h)
   ·exact .inl (.inl h)
   ·exact .inl (.inr h)
   ·exact .inr h
theorem IE (node : Int) : ∀ (preds : List Int) (g : Gr) (u w : Int), ((preds.foldl (nH node) g).su u).count w = (g.su u).count w + if w = node then preds.count u else 0
 | [], g, u, w => by simp
 | p :: ps, g, u, w => by
  rw [foldl_cons, IE node ps, count_cons]
  simp only [nH]
  by_cases e : u = p
  ·subst e
   rw [fM, count_append]
   by_cases hw : w = node
   ·subst hw; simp; omega
   ·have : (node == w) = false := by simpa using fun q : node = w => hw q.symm
    simp [count_cons, hw, this]
  ·rw [dL _ _ e]
   have : (p == u) = false := by simpa using fun q : p = u => e q.symm
   rw [this]; simp
noncomputable def cnt (nd : Int -> List Int) (L : List Int) (x : Int) : Nat := ((nd x).filter fun f => L.contains f || decide (f = 8)).length
theorem tF (x : Int) (l : List Int) : (pK l).count x = l.count x := (kU l).count_eq x
theorem tA : ∀ {l m : List Int}, l.Pairwise (· <= ·) -> m.Pairwise (· <= ·) -> (∀ x, l.count x = m.count x) -> l = m
 | [], m, _, _, h => by
  cases m with
  | nil => rfl
  | cons b m => have := h b; simp at this
 | a :: l, [], _, _, h => by have := h a; simp at this
 | a :: l, b :: m, h1, h2, h => by
  obtain ⟨p1, p2⟩ := pairwise_cons.mp h1
  obtain ⟨q1, q2⟩ := pairwise_cons.mp h2
  have hab : a = b := by
   have ha : a ∈ b :: m := count_pos_iff.mp (by rw [<- h a]; exact count_pos_iff.mpr mem_cons_self)
   have hb : b ∈ a :: l := count_pos_iff.mp (by rw [h b]; exact count_pos_iff.mpr mem_cons_self)
   rcases mem_cons.mp ha with e | ha
   ·exact e
   ·rcases mem_cons.mp hb with e | hb
    ·exact e.symm
    ·have := q1 a ha; have := p1 b hb; omega
  subst hab
  rw [tA p2 q2 fun x => by have := h x; rw [count_cons, count_cons] at this; omega]
theorem tH {l : List Int} (h : l.Nodup) (x : Int) : l.count x = if x ∈ l then 1 else 0 := by
 by_cases hx : x ∈ l
 ·rw [if_pos hx]
  have h1 := count_pos_iff.mpr hx
  have h2 := List.nodup_iff_count.mp h x
  omega
 ·rw [if_neg hx]; exact count_eq_zero.mpr hx
theorem JY {W F : List Int} (hW : W.Nodup) (hF : F.Pairwise (· < ·)) (hm : ∀ x, x ∈ W ↔ x ∈ F) : pK W = F := by
 refine tA (mQ W) (hF.imp fun h => by omega) fun x => ?_
 have hFn : F.Nodup := hF.imp fun h => by omega
 rw [tF, tH hW, tH hFn]
 by_cases h : x ∈ W
 ·rw [if_pos h, if_pos ((hm x).mp h)]
 ·rw [if_neg h, if_neg fun q => h ((hm x).mpr q)]
section
variable {h : AH} {lo s a D R : Nat} {ks : List Int} {ni sr dd : Int -> Nat} {np : Int -> Int} {su : Int -> List Int} {rdy : List Int}
theorem sC.own (S : sC h lo s a D R ks ni sr dd np su rdy) {n : String} (h1 : n ≠ "_node2info") (h2 : n ≠ "_ready_nodes") (h3 : n ≠ "_npassedout") (h4 : n ≠ "_nfinished") : uB "TopologicalSorter" n (.ref s) h = some () := by
 obtain ⟨pa, fi, C⟩ := S.c
 exact C.own h1 h2 h3 h4
theorem sC.other (S : sC h lo s a D R ks ni sr dd np su rdy) {i : Nat} {x : aI × Nat} {o : List AV} {k : Nat} (hi : h[i]? = some (.list o, k)) (hn : ∀ v ∈ ks, sr v ≠ i) (hR : i ≠ R) : sC (h.set i x) lo s a D R ks ni sr dd np su rdy := by
 obtain ⟨pa, fi, C⟩ := S.c
 exact ⟨⟨pa, fi, C.other hi hn⟩, S.r.set hR, S.ne, S.lo, S.sub⟩
end
theorem IL.keep {R : Nat} {h h' : AH} (k : hG R h h') {r : Nat} {xs : List Int} (i : IL h r xs) (hr : r ≠ R) : IL h' r xs := by
 obtain ⟨kk, e⟩ := i; exact ⟨kk, k.1 _ _ _ e hr⟩
theorem RL.keep {R lo rd : Nat} {h h' : AH} (k : hG R h h') {xss : List (List Int)} (i : RL h lo rd xss) (h1 : R < lo) (h2 : rd ≠ R) : RL h' lo rd xss := by
 obtain ⟨refs, kk, e, hn, is⟩ := i
 refine ⟨refs, kk, k.1 _ _ _ e h2, hn, ?_⟩
 have hlo := hn.2
 clear hn e
 induction is with
 | nil => exact .nil
 | cons a _ ih => exact .cons (a.keep k (by have := hlo _ mem_cons_self; omega)) (ih fun r hr => hlo r (mem_cons_of_mem _ hr))
theorem RL.snoc {lo rd r : Nat} {h : AH} {xss : List (List Int)} {xs : List Int} (i : RL h lo rd xss) (j : IL h r xs) (h1 : r ≠ rd) (h2 : lo <= r) (hl : xss.length <= 1000) : ∃ h', cW [.ref rd, .ref r] h = some (.none, h') /\ RL h' lo rd (xss ++ [xs]) /\ (∀ i, i ≠ rd -> h'[i]? = h[i]?) /\ h'.length = h.length /\ (∃ o k, h[rd]? = some (.list o, k) /\ h' = h.set rd (.list (o ++ [.ref r]), k + 1)) := by
 obtain ⟨refs, kk, e, hn, is⟩ := i
 have hlen := is.len
 refine ⟨h.set rd (.list (refs.map AV.ref ++ [.ref r]), kk + 1), ?_, ⟨refs ++ [r], kk + 1, by rw [eP (bR e)]; simp, ⟨?_, fun q hq => ?_⟩, (is.set hn.1).snoc (j.set (Ne.symm h1))⟩, fun i hi => bN (Ne.symm hi), length_set, _, _, e, rfl⟩
 ·have : (refs.map AV.ref).length <= 1000000 := by rw [length_map]; omega
  exact jH e this
 ·simp only [mem_append, hn.1, mem_singleton, false_or]; exact Ne.symm h1
 ·rcases mem_append.mp hq with hq | hq
  ·exact hn.2 q hq
  ·rw [mem_singleton.mp hq]; exact h2
theorem KA {l m : List Int} (h : l.Nodup) (hs : ∀ x ∈ l, x ∈ m) : l.length <= m.length := by
 induction l generalizing m with
 | nil => exact Nat.zero_le _
 | cons a l ih =>
  obtain ⟨h1, h2⟩ := nodup_cons.mp h
  have ha := hs a mem_cons_self
  have := ih (m := m.erase a) h2 fun x hx => (List.mem_erase_of_ne fun e => h1 (by rw [<- e]; exact hx)).mpr (hs x (mem_cons_of_mem _ hx))
  rw [List.length_erase_of_mem ha] at this
  have h3 := List.length_pos_of_mem ha
  rw [length_cons]; omega
noncomputable def wU : List AV -> dM AV := mR (CH ["self"] "graph") tsInit.prog
noncomputable def RV : List AV -> dM AV := yN "TopologicalSorter" false wU
noncomputable def row.prog : AM aN :=
 bU (dZ "row" (gD (pure [])))
  (bU
   (rF
    (iV
     (aO (gT iZ.add (iA (aG "counts") (aG "one")) (iA (aG "counts") (aG "other"))) (pure [])))
    (fun v => cD "turn" v)
    (jR
     (fI kB.eq (eY "list" qG (aG "row") (aO (aG "other") (pure [])))
      (iA (aG "counts") (aG "other")))
     (fP (eY "list" cW (aG "row") (aO (aG "one") (pure []))))
     (jR
      (JB
       (fI kB.lt (eY "list" qG (aG "row") (aO (aG "one") (pure [])))
        (iA (aG "counts") (aG "one")))
       (JB
        (fI kB.eq
         (gT iZ.mod (gT iZ.fdiv (aG "number") (gT iZ.pow (pure (AV.int 2)) (aG "turn")))
          (pure (AV.int 2)))
         (pure (AV.int 1)))
        (pure true)))
      (fP (eY "list" cW (aG "row") (aO (aG "one") (pure []))))
      (fP (eY "list" cW (aG "row") (aO (aG "other") (pure [])))))))
   (lT (aG "row")))
noncomputable def VK : List AV -> dM AV := mR (jA ["number", "one", "other", "counts"]) row.prog
noncomputable def sorter.prog : AM aN :=
 bU (dZ "sorter" (dF RV (pure [])))
  (bU
   (rF (iV (aO (pure (AV.int 4)) (pure []))) (fun v => cD "hand" v)
    (bU (fP (gR "TopologicalSorter" "add" qC (aG "sorter") (aO (aG "hand") (pure []))))
     (rF (iV (aO (pure (AV.int 1)) (aO (iA (aG "counts") (aG "hand")) (pure []))))
      (fun v => cD "turn" v)
      (fP
       (gR "TopologicalSorter" "add" qC (aG "sorter")
        (aO (gT iZ.add (aG "hand") (gT iZ.mul (pure (AV.int 4)) (aG "turn")))
         (aO
          (gT iZ.sub (gT iZ.add (aG "hand") (gT iZ.mul (pure (AV.int 4)) (aG "turn")))
           (pure (AV.int 4)))
          (pure []))))))))
   (bU
    (rF (iJ (aG "rows")) (fun v => cD "row" v)
     (bU
      (dZ "deeds"
       (fF ["row"] (ID (aO (aG "row") (pure []))) (dR ["place", "hand"]) (pure true)
        (fH
         (gT iZ.add (aG "hand")
          (gT iZ.mul (pure (AV.int 4))
           (eY "list" qG (lU (aG "row") (pure none) (nP (aG "place")) (pure none))
            (aO (aG "hand") (pure []))))))))
      (rF (iV (aO (pure (AV.int 1)) (aO (dF tZ (aO (aG "deeds") (pure []))) (pure []))))
       (fun v => cD "place" v)
       (fP
        (gR "TopologicalSorter" "add" qC (aG "sorter")
         (aO (iA (aG "deeds") (aG "place"))
          (aO (iA (aG "deeds") (gT iZ.sub (aG "place") (pure (AV.int 1)))) (pure []))))))))
    (lT (aG "sorter"))))
noncomputable def zT : List AV -> dM AV := mR (jA ["rows", "counts"]) sorter.prog
noncomputable def queued.prog : AM aN :=
 bU
  (dZ "queues"
   (fF [] (iJ (aG "rows")) (fun v => cD "row" v) (pure true)
    (fH (dF hY (aO (aG "row") (pure []))))))
  (bU (dZ "left" (dF hY (aO (aG "counts") (pure []))))
   (bU (dZ "log" (gD (pure [])))
    (bU (dZ "turns" (gD (pure [])))
     (kY (jX (pure (AV.bool true)))
      (bU
       (dZ "hands"
        (fF ["left"] (iV (aO (pure (AV.int 4)) (pure []))) (fun v => cD "hand" v)
         (fI kB.gt (iA (aG "left") (aG "hand")) (pure (AV.int 0))) (fH (aG "hand"))))
       (bU
        (dZ "hands"
         (fF ["queues"] (iJ (aG "hands")) (fun v => cD "hand" v)
          (fI kB.eq
           (fF ["hand"] (iJ (aG "queues")) (fun v => cD "row" v)
            (JB
             (fI kB.mem (aG "hand")
              (lU (aG "row") (nP (pure (AV.int 1))) (pure none) (pure none)))
             (JB (fI kB.ne (iA (aG "row") (pure (AV.int 0))) (aG "hand")) (pure true)))
            (fH (aG "row")))
           (gD (pure [])))
          (fH (aG "hand"))))
        (bU
         (jR (fI kB.eq (aG "hands") (gD (pure [])))
          (lT
           (sJ
            (aO (aG "turns")
             (aO (aG "log") (aO (aG "queues") (aO (aG "left") (pure [])))))))
          (pure aN.next))
         (bU (fP (eY "list" cW (aG "turns") (aO (aG "hands") (pure []))))
          (bU
           (fP (eY "list" cW (aG "log") (aO (iA (aG "hands") (aG "pick")) (pure []))))
           (bU (zJ iZ.sub (aG "left") (iA (aG "hands") (aG "pick")) (pure (AV.int 1)))
            (dZ "queues"
             (fF ["hands", "pick"] (iJ (aG "queues")) (fun v => cD "row" v) (pure true)
              (fH
               (A8
                (fI kB.eq (lU (aG "row") (pure none) (nP (pure (AV.int 1))) (pure none))
                 (gD (aO (iA (aG "hands") (aG "pick")) (pure []))))
                (lU (aG "row") (nP (pure (AV.int 1))) (pure none) (pure none))
                (aG "row")))))))))))
      (pure aN.next)))))
noncomputable def AR : List AV -> dM AV := mR (jA ["rows", "counts", "pick"]) queued.prog
noncomputable def log.prog : AM aN :=
 bU (dZ "sorter" (dF zT (aO (aG "rows") (aO (aG "counts") (pure [])))))
  (bU (dZ "ringed" (pure (AV.bool false)))
   (bU
    (KZ "CycleError" (A_ (zV "TopologicalSorter" "prepare" vZ (aG "sorter") (pure [])))
     (dZ "ringed" (pure (AV.bool true))))
    (bU (dZ "log" (gD (pure [])))
     (bU (dZ "turns" (gD (pure [])))
      (bU
       (dZ "waiting"
        (dF hY
         (aO (gR "TopologicalSorter" "get_ready" kO (aG "sorter") (pure [])) (pure []))))
       (bU
        (kY (fI kB.ne (aG "waiting") (gD (pure [])))
         (bU
          (dZ "hands"
           (dF lM
            (aO
             (fF [] (iJ (aG "waiting")) (fun v => cD "deed" v) (pure true)
              (fH (gT iZ.mod (aG "deed") (pure (AV.int 4)))))
             (pure []))))
          (bU (fP (eY "list" cW (aG "turns") (aO (aG "hands") (pure []))))
           (bU
            (fP (eY "list" cW (aG "log") (aO (iA (aG "hands") (aG "pick")) (pure []))))
            (bU
             (dZ "deed"
              (iA
               (fF ["hands", "pick"] (iJ (aG "waiting")) (fun v => cD "one" v)
                (fI kB.eq (gT iZ.mod (aG "one") (pure (AV.int 4)))
                 (iA (aG "hands") (aG "pick")))
                (fH (aG "one")))
               (pure (AV.int 0))))
             (bU
              (fP
               (gR "TopologicalSorter" "done" HR (aG "sorter") (aO (aG "deed") (pure []))))
              (dZ "waiting"
               (gT iZ.add
                (dF qX
                 (aO (aG "waiting") (aO (gD (aO (aG "deed") (pure []))) (pure []))))
                (dF hY
                 (aO (gR "TopologicalSorter" "get_ready" kO (aG "sorter") (pure []))
                  (pure []))))))))))
         (pure aN.next))
        (lT (sJ (aO (aG "ringed") (aO (aG "turns") (aO (aG "log") (pure []))))))))))))
noncomputable def WD : List AV -> dM AV := mR (jA ["rows", "counts", "pick"]) log.prog
noncomputable def holds.prog : AM aN :=
 bU
  (qR (dF WD (aO (aG "rows") (aO (aG "counts") (aO (aG "pick") (pure [])))))
   (dR ["ringed", "turns", "log"]))
  (bU
   (qR (dF AR (aO (aG "rows") (aO (aG "counts") (aO (aG "pick") (pure [])))))
    (dR ["due", "course", "queues", "left"]))
   (bU
    (jR
     (VB
      (fI kB.ne (aG "ringed")
       (LV (fI kB.gt (dF BB (aO (aG "left") (pure []))) (pure (AV.int 0)))))
      (VB (fI kB.ne (aG "turns") (aG "due")) (VB (fI kB.ne (aG "log") (aG "course")) (pure false))))
     (lT (pure (AV.bool false))) (pure aN.next))
    (bU
     (rF (NB (aO (aG "rows") (aO (aG "pairs") (aO (aG "queues") (pure [])))))
      (dR ["row", "pair", "queue"])
      (jR
       (fI kB.ne
        (gT iZ.add
         (dF qX
          (aO (aG "log")
           (aO
            (fF ["pair"] (iV (aO (pure (AV.int 4)) (pure []))) (fun v => cD "hand" v)
             (fI kB.nmem (aG "hand") (aG "pair")) (fH (aG "hand")))
            (pure []))))
         (aG "queue"))
        (aG "row"))
       (lT (pure (AV.bool false))) (pure aN.next)))
     (bU
      (dZ "deeds"
       (fF ["counts"] (iV (aO (pure (AV.int 4)) (pure []))) (fun v => cD "hand" v) (pure true)
        (pZ (iV (aO (iA (aG "counts") (aG "hand")) (pure []))) (fun v => cD "turn" v)
         (pure true) (fH (aG "hand")))))
      (bU
       (qR
        (dF US (aO (aG "deeds") (aO (dF hY (aO (aG "log") (pure []))) (pure []))))
        (dR ["missing", "other"]))
       (lT
        (OT (LV (fI kB.eq (aG "other") (gD (pure []))))
         (LV
          (fI kB.eq (dF lM (aO (aG "missing") (pure [])))
           (fF ["left"] (iV (aO (pure (AV.int 4)) (pure []))) (fun v => cD "hand" v) (pure true)
            (pZ (iV (aO (iA (aG "left") (aG "hand")) (pure []))) (fun v => cD "turn" v)
             (pure true) (fH (aG "hand")))))))))))))
noncomputable def AF : List AV -> dM AV := mR (jA ["rows", "pairs", "counts", "pick"]) holds.prog
noncomputable def law2.prog : AM aN :=
 bU
  (dZ "cells"
   (fF [] (iJ (lU (aG "script") (pure none) (nP (pure (AV.int 12))) (pure none)))
    (fun v => cD "cell" v) (pure true)
    (fH
     (gT iZ.mod (dF OO (aO (aG "cell") (pure [])))
      (gT iZ.pow (pure (AV.int 10)) (pure (AV.int 6)))))))
  (bU (dZ "total" (gT iZ.add (pure (AV.int 11)) (dF BB (aO (aG "cells") (pure [])))))
   (bU
    (dZ "counts"
     (fF ["total"] (iV (aO (pure (AV.int 4)) (pure []))) (fun v => cD "hand" v) (pure true)
      (fH
       (gT iZ.add (pure (AV.int 1))
        (gT iZ.mod (gT iZ.fdiv (aG "total") (gT iZ.pow (pure (AV.int 2)) (aG "hand")))
         (pure (AV.int 2)))))))
    (bU
     (dZ "drawn"
      (fF ["cells"]
       (ID
        (aO
         (gD
          (aO (pure (AV.int 21))
           (aO (pure (AV.int 5))
            (aO (pure (AV.int 6))
             (aO (pure (AV.int 8)) (aO (pure (AV.int 4)) (aO (pure (AV.int 3)) (pure []))))))))
         (pure [])))
       (dR ["place", "start"]) (pure true)
       (fH
        (gT iZ.add (aG "start")
         (dF BB
          (aO (lU (aG "cells") (nP (aG "place")) (pure none) (nP (pure (AV.int 6))))
           (pure [])))))))
     (bU
      (dZ "both"
       (gD
        (aO (sJ (aO (pure (AV.int 0)) (aO (pure (AV.int 1)) (pure []))))
         (aO (sJ (aO (pure (AV.int 0)) (aO (pure (AV.int 2)) (pure []))))
          (aO (sJ (aO (pure (AV.int 1)) (aO (pure (AV.int 2)) (pure []))))
           (aO (sJ (aO (pure (AV.int 0)) (aO (pure (AV.int 3)) (pure []))))
            (aO (sJ (aO (pure (AV.int 1)) (aO (pure (AV.int 3)) (pure []))))
             (aO (sJ (aO (pure (AV.int 2)) (aO (pure (AV.int 3)) (pure [])))) (pure [])))))))))
      (bU
       (dZ "seen"
        (fF [] (LU (aO (aG "drawn") (aO (aG "both") (pure [])))) (dR ["number", "pair"])
         (fI kB.gt (gT iZ.mod (aG "number") (pure (AV.int 4))) (pure (AV.int 0)))
         (fH
          (sJ (aO (gT iZ.fdiv (aG "number") (pure (AV.int 4))) (aO (aG "pair") (pure [])))))))
       (bU
        (dZ "pairs"
         (fF [] (iJ (aG "seen")) (dR ["number", "pair"]) (pure true) (fH (aG "pair"))))
        (bU
         (dZ "rows"
          (fF ["counts"] (iJ (aG "seen")) (dR ["number", "pair"]) (pure true)
           (fH
            (dF VK
             (aO (aG "number")
              (aO (iA (aG "pair") (pure (AV.int 0)))
               (aO (iA (aG "pair") (pure (AV.int 1))) (aO (aG "counts") (pure [])))))))))
         (bU
          (jR
           (NA
            (jX
             (dF AF
              (aO (aG "rows")
               (aO (aG "pairs") (aO (aG "counts") (aO (pure (AV.int 0)) (pure []))))))))
           (lT (pure (AV.bool false))) (pure aN.next))
          (lT
           (dF AF
            (aO
             (fF [] (iJ (aG "rows")) (fun v => cD "row" v) (pure true)
              (fH (lU (aG "row") (pure none) (pure none) (nP (JA (pure (AV.int 1)))))))
             (aO (aG "pairs")
              (aO (aG "counts") (aO (JA (pure (AV.int 1))) (pure [])))))))))))))))
noncomputable def r4 : List Int := (List.range 4).map fun (i : Nat) => (i : Int)
theorem gQ {x : Int} : x ∈ r4 ↔ 0 <= x /\ x < 4 := by
 simp only [r4, mem_map, mem_range]
 constructor
 ·rintro ⟨n, h, rfl⟩; exact ⟨Int.natCast_nonneg n, Int.ofNat_lt.mpr h⟩
 ·exact fun h => ⟨x.toNat, (Int.toNat_lt h.1).mpr h.2, Int.toNat_of_nonneg h.1⟩
theorem yP : r4.Pairwise (· < ·) := by decide
noncomputable def cn (cs : List Int) (h : Int) : Int := (cs[h.toNat]?).getD 0
structure jP (cs : List Int) (p : Int × Int) (row : List Int) : Prop where
 a4 : p.1 ∈ r4
 b4 : p.2 ∈ r4
 ne : p.1 ≠ p.2
 cnt : ∀ x, x = p.1 \/ x = p.2 -> (row.count x : Int) = cn cs x
 sub : ∀ x ∈ row, x = p.1 \/ x = p.2
noncomputable def t_ (p : Int × Int) (x : Int) : Bool := decide (x = p.1 \/ x = p.2)
noncomputable def pop (k : Int) (row : List Int) : List Int := if row.take 1 = [k] then row.drop 1 else row
noncomputable def qr (row L : List Int) : List Int := L.foldl (fun q k => pop k q) row
theorem IS (row L : List Int) (k : Int) : qr row (L ++ [k]) = pop k (qr row L) := by
 unfold qr; rw [List.foldl_append]; rfl
noncomputable def lf (cs L : List Int) : List Int := L.foldl (fun l k => l.set k.toNat (cn l k - 1)) cs
theorem QT (cs L : List Int) (k : Int) : lf cs (L ++ [k]) = (lf cs L).set k.toNat (cn (lf cs L) k - 1) := by
 unfold lf; rw [List.foldl_append]; rfl
noncomputable def ES (h : Int) (row : List Int) : Bool := (row.drop 1).contains h && !decide (row.head? = some h)
abbrev RP := List ((Int × Int) × List Int)
noncomputable def av (rp : RP) (cs L : List Int) : List Int := (r4.filter fun h => decide (cn (lf cs L) h > 0)).filter fun h => decide (((rp.map fun x => qr x.2 L).filter (ES h)) = [])
inductive Lg (rp : RP) (cs : List Int) : List Int -> Prop
 | nil : Lg rp cs []
 | snoc {L : List Int} {k : Int} : Lg rp cs L -> k ∈ av rp cs L -> Lg rp cs (L ++ [k])
section
variable {rp : RP} {cs L : List Int}
theorem lO {h : Int} : h ∈ av rp cs L ↔ h ∈ r4 /\ 0 < cn (lf cs L) h /\ ∀ x ∈ rp, ES h (qr x.2 L) = false := by
 unfold av
 simp only [mem_filter, decide_eq_true_eq, List.filter_eq_nil_iff, mem_map, forall_exists_index, and_imp, forall_apply_eq_imp_iff₂, Bool.not_eq_true, and_assoc, gt_iff_lt]
theorem KJ : (av rp cs L).Pairwise (· < ·) := (yP.filter _).filter _
theorem Lg.sub (g : Lg rp cs L) : ∀ x ∈ L, x ∈ r4 := by
 induction g with
 | nil => exact fun zz h => absurd h not_mem_nil
 | snoc _ hk ih =>
  intro x hx
  rcases mem_append.mp hx with hx | hx
  ·exact ih x hx
  ·rw [mem_singleton.mp hx]; exact (lO.mp hk).1
theorem FN (cs L : List Int) : (lf cs L).length = cs.length := by
 unfold lf
 induction L generalizing cs with
 | nil => rfl
 | cons k L ih => rw [foldl_cons, ih, length_set]
theorem BI {c : Int} (h : 1 <= c /\ c <= 2) : c = 1 \/ c = 2 := by omega
theorem YO (a : Int) (n : Nat) : a - 1 - n = a - (n + 1 : Nat) := by omega
theorem ZN {k : Int} (h : k ∈ r4) : k.toNat < 4 := (Int.toNat_lt (gQ.mp h).1).mpr (gQ.mp h).2
theorem WM {k h : Int} (hk : k ∈ r4) (hh : h ∈ r4) (n : k ≠ h) : k.toNat ≠ h.toNat := fun e => n (by
 rw [<- Int.toNat_of_nonneg (gQ.mp hk).1, e, Int.toNat_of_nonneg (gQ.mp hh).1])
theorem wH (hc : cs.length = 4) (g : ∀ x ∈ L, x ∈ r4) {h : Int} (hh : h ∈ r4) : cn (lf cs L) h = cn cs h - L.count h := by
 induction L generalizing cs with
 | nil => exact (Int.sub_zero _).symm
 | cons k L ih =>
  have hk := g k mem_cons_self
  have e : lf cs (k :: L) = lf (cs.set k.toNat (cn cs k - 1)) L := rfl
  rw [e, ih (by rw [length_set]; exact hc) fun x hx => g x (mem_cons_of_mem _ hx)]
  by_cases q : k = h
  ·subst q
   have : cn (cs.set k.toNat (cn cs k - 1)) k = cn cs k - 1 := by
    unfold cn
    rw [List.getElem?_set_self (hc ▸ ZN hk)]; rfl
   rw [this, count_cons_self]; exact YO _ _
  ·have : cn (cs.set k.toNat (cn cs k - 1)) h = cn cs h := by
    unfold cn
    rw [List.getElem?_set_ne (WM hk hh q)]
   rw [this, List.count_cons_of_ne q]
theorem Lg.le (hc : cs.length = 4) (hp : ∀ h ∈ r4, 0 <= cn cs h) (g : Lg rp cs L) : ∀ h ∈ r4, (L.count h : Int) <= cn cs h := by
 induction g with
 | nil => exact hp
 | @snoc L k g hk ih =>
  intro h hh
  rw [count_append]
  by_cases q : k = h
  ·subst q
   have := (lO.mp hk).2.1
   rw [wH hc g.sub hh] at this
   rw [List.count_singleton_self]; omega
  ·have := ih h hh
   rw [List.count_singleton, if_neg (by simpa using q)]; omega
theorem mI (p : Int × Int) (L : List Int) {x : Int} (hx : x = p.1 \/ x = p.2) : (L.filter (t_ p)).count x = L.count x := List.count_filter (by unfold t_; exact decide_eq_true hx)
theorem Lg.row (hc : cs.length = 4) (g : Lg rp cs L) {x : (Int × Int) × List Int} (hx : x ∈ rp) (V : jP cs x.1 x.2) : x.2 = L.filter (t_ x.1) ++ qr x.2 L := by
 induction g with
 | nil => rfl
 | @snoc L k g hk ih =>
  rw [IS, List.filter_append]
  obtain ⟨k4, hk1, hk2⟩ := lO.mp hk
  rw [wH hc g.sub k4] at hk1
  have hb := hk2 x hx
  by_cases hin : k = x.1.1 \/ k = x.1.2
  ·have h1 : (x.2.count k : Int) = cn cs k := V.cnt k hin
   rw [ih, count_append, mI _ _ hin] at h1
   have hm : k ∈ qr x.2 L := count_pos_iff.mp (by omega)
   have hf : [k].filter (t_ x.1) = [k] := by
    rw [filter_cons, if_pos (by unfold t_; exact decide_eq_true hin)]; rfl
   cases hq : qr x.2 L with
   | nil => rw [hq] at hm; cases hm
   | cons y q =>
    have hy : y = k := by
     rw [hq] at hb hm
     unfold ES at hb
     rcases mem_cons.mp hm with e | e
     ·exact e.symm
     ·simp only [List.drop_succ_cons, List.drop_zero, List.head?_cons, Bool.and_eq_false_iff, Bool.not_eq_false', decide_eq_true_eq, Option.some.injEq] at hb
      rcases hb with hb | hb
      ·rw [List.contains_iff_mem.mpr e] at hb; cases hb
      ·exact hb
    have : pop k (y :: q) = q := by unfold pop; rw [hy]; exact if_pos rfl
    rw [this, hf]
    have := ih
    rw [hq, hy] at this
    rw [append_assoc]; exact this
  ·have hf : [k].filter (t_ x.1) = [] := by
    rw [filter_cons, if_neg (by unfold t_; simpa using hin)]; rfl
   have : pop k (qr x.2 L) = qr x.2 L := by
    unfold pop
    refine if_neg fun e => hin (V.sub k ?_)
    rw [ih]
    refine mem_append.mpr (.inr (List.mem_of_mem_take (i := 1) ?_))
    rw [e]; exact mem_singleton.mpr rfl
   rw [this, hf, append_nil]; exact ih
noncomputable def Dn (L : List Int) (v : Int) : Prop := v / 4 < (L.count (v % 4) : Int)
noncomputable def Nd (cs : List Int) (v : Int) : Prop := 0 <= v /\ v / 4 < cn cs (v % 4)
theorem vQ (v : Int) (hv : 0 <= v) : ¬ Dn [] v := by unfold Dn; rw [List.count_nil]; omega
theorem oO {k v : Int} (hk : k ∈ r4) : Dn (L ++ [k]) v ↔ Dn L v \/ (v % 4 = k /\ v / 4 = L.count k) := by
 unfold Dn
 rw [count_append]
 by_cases q : v % 4 = k
 ·rw [q, List.count_singleton_self]
  exact ⟨fun h => (Int.le_iff_lt_or_eq.mp (Int.lt_add_one_iff.mp h)).imp id fun e => ⟨rfl, e⟩, fun h => Int.lt_add_one_iff.mpr (h.elim Int.le_of_lt fun h => Int.le_of_eq h.2)⟩
 ·rw [List.count_singleton, if_neg (by simpa using fun e : k = v % 4 => q e.symm)]
  exact ⟨.inl, fun h => h.resolve_right fun h => q h.1⟩
noncomputable def Ed (row : List Int) (u v : Int) : Prop := ∃ A h' h B, row = A ++ h' :: h :: B /\ u = h' + 4 * A.count h' /\ v = h + 4 * (A ++ [h']).count h
noncomputable def Pr (rp : RP) (u v : Int) : Prop := (4 <= v /\ u = v - 4) \/ ∃ x ∈ rp, Ed x.2 u v
theorem k_ {h : Int} (hh : h ∈ r4) (j : Int) : (h + 4 * j) % 4 = h /\ (h + 4 * j) / 4 = j := by
 obtain ⟨h1, h2⟩ := gQ.mp hh
 rw [Int.add_mul_emod_self_left, Int.add_mul_ediv_left h j (by decide), Int.ediv_eq_zero_of_lt h1 h2]
 exact ⟨Int.emod_eq_of_lt h1 h2, Int.zero_add j⟩
theorem jP.mem4 {p : Int × Int} {row : List Int} (V : jP cs p row) {x : Int} (hx : x ∈ row) : x ∈ r4 := by
 rcases V.sub x hx with rfl | rfl
 ·exact V.a4
 ·exact V.b4
theorem BM (hc : cs.length = 4) (g : Lg rp cs L) (hV : ∀ x ∈ rp, jP cs x.1 x.2) {h : Int} (hh : h ∈ r4) : h ∈ av rp cs L ↔ (L.count h : Int) < cn cs h /\ ∀ u, Pr rp u (h + 4 * L.count h) -> Dn L u := by
 rw [lO, wH hc g.sub hh]
 have s4 := k_ hh (L.count h)
 constructor
 ·rintro ⟨_, h1, h2⟩
  refine ⟨by omega, fun u hu => ?_⟩
  rcases hu with ⟨h3, rfl⟩ | ⟨x, hx, A, h', k, B, er, rfl, ev⟩
  ·unfold Dn
   have := gQ.mp hh
   have e1 : (h + 4 * (L.count h : Int) - 4) % 4 = h := by omega
   rw [e1]; omega
  ·have V := hV x hx
   have hk : k ∈ r4 := V.mem4 (by rw [er]; simp)
   have hk' : h' ∈ r4 := V.mem4 (by rw [er]; simp)
   have t4 := k_ hk ((A ++ [h']).count k)
   rw [<- ev, s4.1] at t4
   obtain ⟨rfl, t5⟩ := t4
   rw [s4.2] at t5
   have hin : h = x.1.1 \/ h = x.1.2 := V.sub h (by rw [er]; simp)
   have hin' : h' = x.1.1 \/ h' = x.1.2 := V.sub h' (by rw [er]; simp)
   have erow := g.row hc hx V
   have ct := mI x.1 L hin
   have ct' := mI x.1 L hin'
   generalize L.filter (t_ x.1) = tk at erow ct ct'
   have hb := h2 x hx
   have key : tk = A ++ [h'] := by
    have e2 : (A ++ [h']) ++ h :: B = tk ++ qr x.2 L := by rw [<- erow, er]; simp
    rcases List.append_eq_append_iff.mp e2 with ⟨C, e3, e4⟩ | ⟨C, e3, e4⟩
    ·cases C with
     | nil => rw [e3, append_nil]
     | cons y C =>
      rw [List.cons_append] at e4
      obtain ⟨rfl, _⟩ := List.cons.inj e4
      rw [e3, count_append, count_cons_self] at ct
      omega
    ·cases C with
     | nil => rw [<- e3.symm, append_nil]
     | cons y C =>
      rw [e3, count_append] at t5
      have h0 : h ∉ y :: C := count_eq_zero.mp (by omega)
      rw [e4] at hb
      unfold ES at hb
      have hm : (List.drop 1 ((y :: C) ++ h :: B)).contains h = true := List.contains_iff_mem.mpr (by simp)
      have hn : decide ((((y :: C) ++ h :: B).head?) = some h) = false := decide_eq_false fun e => h0 (by
       have := Option.some.inj e
       rw [<- this]; exact mem_cons_self)
      rw [hm, hn] at hb
      cases hb
   unfold Dn
   obtain ⟨u1, u2⟩ := k_ hk' (A.count h')
   rw [u1, u2, <- ct', key, count_append, List.count_singleton_self]
   omega
 ·rintro ⟨h1, h2⟩
  refine ⟨hh, by omega, fun x hx => ?_⟩
  have V := hV x hx
  cases hb : ES h (qr x.2 L) with
  | false => rfl
  | true =>
   exfalso
   unfold ES at hb
   obtain ⟨b1, b2⟩ := Bool.and_eq_true_iff.mp hb
   have b1 := List.contains_iff_mem.mp b1
   have b2 : (qr x.2 L).head? ≠ some h := by simpa using b2
   obtain ⟨q1, q2, eq, hn⟩ := List.eq_append_cons_of_mem (List.mem_of_mem_drop b1)
   have hne : q1 ≠ [] := fun e => b2 (by rw [eq, e]; rfl)
   obtain ⟨q0, h', rfl⟩ := (List.eq_nil_or_concat q1).resolve_left hne
   rw [List.concat_eq_append] at eq hn
   have erow := g.row hc hx V
   have er : x.2 = (L.filter (t_ x.1) ++ q0) ++ h' :: h :: q2 := by
    rw [eq] at erow
    refine erow.trans ?_
    simp
   have hin : h = x.1.1 \/ h = x.1.2 := V.sub h (by rw [er]; simp)
   have hin' : h' = x.1.1 \/ h' = x.1.2 := V.sub h' (by rw [er]; simp)
   have hk' : h' ∈ r4 := V.mem4 (by rw [er]; simp)
   have ct := mI x.1 L hin
   have ct' := mI x.1 L hin'
   have hd := h2 (h' + 4 * ((L.filter (t_ x.1) ++ q0).count h' : Int)) (.inr ⟨x, hx, _, h', h, q2, er, rfl, by
    rw [append_assoc, count_append, ct, count_eq_zero.mpr hn, Nat.add_zero]⟩)
   unfold Dn at hd
   obtain ⟨u1, u2⟩ := k_ hk' ((L.filter (t_ x.1) ++ q0).count h')
   rw [u1, u2, count_append, ct'] at hd
   omega
end
structure sF (cs : List Int) : Prop where
 len : cs.length = 4
 one : ∀ h ∈ r4, 1 <= cn cs h /\ cn cs h <= 2
structure DW (rp : RP) (cs ks : List Int) (np : Int -> Int) (su nd : Int -> List Int) : Prop where
 vk : ∀ v, v ∈ ks ↔ Nd cs v
 nup : ks.Nodup
 vp : ∀ v ∈ ks, np v = (nd v).length
 vs : ∀ u w, (su u).count w = (nd w).count u
 vd : ∀ u v, Nd cs v -> (u ∈ nd v ↔ Pr rp u v)
 off : ∀ v, ¬ Nd cs v -> nd v = []
noncomputable def dn (L : List Int) (v : Int) : Bool := decide (v / 4 < (L.count (v % 4) : Int))
theorem fX {L : List Int} {v : Int} : dn L v = true ↔ Dn L v := decide_eq_true_iff
noncomputable def HM (nd : Int -> List Int) (L : List Int) (v : Int) : Nat := ((nd v).filter fun u => !dn L u).length
noncomputable def WE (nd : Int -> List Int) (L : List Int) (v : Int) : Int := if dn L v = true then -2 else if HM nd L v = 0 then -1 else HM nd L v
structure LS (cs ks : List Int) (nd : Int -> List Int) (L W : List Int) (np : Int -> Int) : Prop where
 nup : W.Nodup
 mem : ∀ v, v ∈ W ↔ Nd cs v /\ ¬ Dn L v /\ ∀ u ∈ nd v, Dn L u
 np : ∀ v ∈ ks, np v = WE nd L v
section
variable {rp : RP} {cs ks L W : List Int} {np np0 : Int -> Int} {su nd : Int -> List Int}
theorem vS {h j : Int} (hh : h ∈ r4) (j0 : 0 <= j) (hj : j < cn cs h) : Nd cs (h + 4 * j) := by
 obtain ⟨s1, s2⟩ := k_ hh j
 exact ⟨Int.add_nonneg (gQ.mp hh).1 (Int.mul_nonneg (by decide) j0), by rw [s1, s2]; exact hj⟩
theorem yZ (v : Int) : (v - 4) % 4 = v % 4 /\ (v - 4) / 4 = v / 4 - 1 := by
 have e : v - 4 = v + 4 * (-1) := rfl
 rw [e, Int.add_mul_emod_self_left, Int.add_mul_ediv_left v (-1) (by decide)]
 exact ⟨rfl, rfl⟩
theorem u3 {v k j : Int} (h : v % 4 = k /\ v / 4 = j) : v = k + 4 * j := by
 rw [<- h.1, <- h.2]; exact (Int.emod_add_mul_ediv v 4).symm
theorem YF {a b : Int} (h : a - 1 < b) (h' : ¬ a < b) : a = b := by omega
theorem L5 {v : Int} {n : Nat} (h : ¬ v / 4 < n) (q : v / 4 ≠ n) : 4 <= v := by omega
theorem UG {a b : Nat} {c : Int} (h : ((a + (b + 1) : Nat) : Int) = c) : (a : Int) < c := by omega
theorem Ed.node (hV : ∀ x ∈ rp, jP cs x.1 x.2) {u v : Int} {x : (Int × Int) × List Int} (hx : x ∈ rp) (e : Ed x.2 u v) : Nd cs u /\ Nd cs v := by
 obtain ⟨A, h', h, B, er, rfl, rfl⟩ := e
 have V := hV x hx
 have k4 : h ∈ r4 := V.mem4 (by rw [er]; simp)
 have k4' : h' ∈ r4 := V.mem4 (by rw [er]; simp)
 have c1 := V.cnt h' (V.sub h' (by rw [er]; simp))
 have c2 := V.cnt h (V.sub h (by rw [er]; simp))
 rw [er, count_append, count_cons_self] at c1
 rw [er, show A ++ h' :: h :: B = (A ++ [h']) ++ h :: B by simp, count_append, count_cons_self] at c2
 exact ⟨vS k4' (Int.natCast_nonneg _) (UG c1), vS k4 (Int.natCast_nonneg _) (UG c2)⟩
theorem Pr.node (hV : ∀ x ∈ rp, jP cs x.1 x.2) {u v : Int} (p : Pr rp u v) (hv : Nd cs v) : Nd cs u := by
 rcases p with ⟨h1, rfl⟩ | ⟨x, hx, e⟩
 ·obtain ⟨h2, h3⟩ := hv
  refine ⟨Int.sub_nonneg.mpr h1, ?_⟩
  rw [(yZ v).1, (yZ v).2]
  exact Int.lt_trans (Int.sub_lt_self _ (by decide)) h3
 ·exact (Ed.node hV hx e).1
theorem nR {v : Int} : v % 4 ∈ r4 := gQ.mpr (by omega)
theorem Lg.closed (hc : cs.length = 4) (hV : ∀ x ∈ rp, jP cs x.1 x.2) (g : Lg rp cs L) : ∀ u v, Pr rp u v -> Dn L v -> 0 <= v -> Dn L u := by
 induction g with
 | nil => exact fun u v zz h h0 => absurd h (vQ v h0)
 | @snoc L k g hk ih =>
  intro u v hp hd h0
  have k4 := (lO.mp hk).1
  rcases (oO k4).mp hd with h1 | ⟨h1, h2⟩
  ·exact (oO k4).mpr (.inl (ih u v hp h1 h0))
  ·have e : v = k + 4 * L.count k := by omega
   rw [e] at hp
   exact (oO k4).mpr (.inl (((BM hc g hV k4).mp hk).2 u hp))
theorem LS.init (G : DW rp cs ks np0 su nd) (hV : ∀ x ∈ rp, jP cs x.1 x.2) : LS cs ks nd [] (pL ks np0) (uC np0 (pL ks np0)) := by
 have nod : ∀ v, Nd cs v -> ∀ u ∈ nd v, ¬ Dn [] u := fun v hv u hu => vQ u (Pr.node hV ((G.vd u v hv).mp hu) hv).1
 have emp : ∀ v, Nd cs v -> (np0 v = 0 ↔ nd v = []) := fun v hv => by
  rw [G.vp v ((G.vk v).mpr hv)]
  exact ⟨fun h => length_eq_zero_iff.mp (by omega), fun h => by rw [h]; rfl⟩
 refine ⟨G.nup.filter _, fun v => ?_, fun v hv => ?_⟩
 ·unfold pL
  rw [mem_filter, G.vk, decide_eq_true_eq]
  constructor
  ·rintro ⟨h1, h2⟩
   have e := (emp v h1).mp h2
   exact ⟨h1, vQ v h1.1, fun u hu => by rw [e] at hu; cases hu⟩
  ·rintro ⟨h1, _, h3⟩
   refine ⟨h1, (emp v h1).mpr ?_⟩
   cases e : nd v with
   | nil => rfl
   | cons u r =>
    have hu : u ∈ nd v := by rw [e]; exact mem_cons_self
    exact absurd (h3 u hu) (nod v h1 u hu)
 ·have hn := (G.vk v).mp hv
  have d0 : dn [] v = false := Bool.eq_false_iff.mpr fun h => vQ v hn.1 (fX.mp h)
  have u0 : HM nd [] v = (nd v).length := by
   unfold HM
   rw [List.filter_eq_self.mpr fun u hu => by rw [Bool.not_eq_true']; exact Bool.eq_false_iff.mpr fun h => nod v hn u hu (fX.mp h)]
  unfold WE uC pL
  rw [d0, u0, if_neg Bool.false_ne_true]
  have hm := G.vp v hv
  by_cases q : (nd v).length = 0
  ·rw [if_pos q, if_pos (mem_filter.mpr ⟨hv, decide_eq_true (by omega)⟩)]
  ·rw [if_neg q, if_neg fun h => q (by have := of_decide_eq_true (mem_filter.mp h).2; omega), hm]
theorem LS.mem' (hc : cs.length = 4) (g : Lg rp cs L) (G : DW rp cs ks np0 su nd) (hV : ∀ x ∈ rp, jP cs x.1 x.2) (S : LS cs ks nd L W np) (v : Int) : v ∈ W ↔ v % 4 ∈ av rp cs L /\ v = v % 4 + 4 * L.count (v % 4) := by
 rw [S.mem, BM hc g hV nR]
 constructor
 ·rintro ⟨h1, h2, h3⟩
  have q : v / 4 = L.count (v % 4) := by
   unfold Dn at h2
   by_cases q : v / 4 = L.count (v % 4)
   ·exact q
   ·have h4 := h3 (v - 4) ((G.vd _ v h1).mpr (.inl ⟨L5 h2 q, rfl⟩))
    unfold Dn at h4
    rw [(yZ v).1, (yZ v).2] at h4
    exact YF h4 h2
  have e := u3 ⟨rfl, q⟩
  refine ⟨⟨q ▸ h1.2, fun u hu => ?_⟩, e⟩
  rw [<- e] at hu
  exact h3 u ((G.vd u v h1).mpr hu)
 ·rintro ⟨⟨h1, h2⟩, e⟩
  have hn := vS (cs := cs) nR (Int.natCast_nonneg (L.count (v % 4))) h1
  have q := (k_ (h := v % 4) nR (L.count (v % 4))).2
  rw [<- e] at hn q
  refine ⟨hn, ?_, fun u hu => h2 u ?_⟩
  ·unfold Dn; rw [q]; exact Int.lt_irrefl _
  ·rw [<- e]; exact (G.vd u v hn).mp hu
theorem LS.hands (hc : cs.length = 4) (g : Lg rp cs L) (G : DW rp cs ks np0 su nd) (hV : ∀ x ∈ rp, jP cs x.1 x.2) (S : LS cs ks nd L W np) : pK (W.map (· % 4)) = av rp cs L := by
 have hm := S.mem' hc g G hV
 refine JY ?_ KJ fun h => ?_
 ·refine List.pairwise_map.mpr (S.nup.imp_of_mem fun {a b} ha hb hn e => hn ?_)
  rw [((hm a).mp ha).2, ((hm b).mp hb).2, e]
 ·rw [mem_map]
  constructor
  ·rintro ⟨v, hv, rfl⟩; exact ((hm v).mp hv).1
  ·intro hh
   obtain ⟨s1, _⟩ := k_ (lO.mp hh).1 (L.count h)
   exact ⟨h + 4 * L.count h, (hm _).mpr ⟨by rw [s1]; exact hh, by rw [s1]⟩, s1⟩
theorem MA (nd : Int -> List Int) {k : Int} (hk : k ∈ r4) (v : Int) : HM nd L v = HM nd (L ++ [k]) v + (nd v).count (k + 4 * L.count k) := by
 unfold HM
 obtain ⟨s1, s2⟩ := k_ hk (L.count k)
 induction nd v with
 | nil => rfl
 | cons u r ih =>
  have hd : dn (L ++ [k]) u = (dn L u || decide (u = k + 4 * L.count k)) := by
   have := oO (L := L) (k := k) (v := u) hk
   rw [Bool.eq_iff_iff, Bool.or_eq_true, fX, fX, this, decide_eq_true_eq]
   exact or_congr_right ⟨u3, fun h => by rw [h]; exact ⟨s1, s2⟩⟩
  have h0 : u = k + 4 * L.count k -> dn L u = false := fun e => Bool.eq_false_iff.mpr fun h => by
   have := fX.mp h
   unfold Dn at this
   rw [e, s1, s2] at this
   omega
  rw [filter_cons, filter_cons, count_cons, hd]
  by_cases q : u = k + 4 * L.count k
  ·rw [h0 q]
   simp only [q, Bool.not_false, if_true, Bool.false_or, decide_true, Bool.not_true, Bool.false_eq_true, if_false, length_cons, beq_self_eq_true]
   omega
  ·have hb : (u == k + 4 * (L.count k : Int)) = false := by simpa using q
   rw [hb]
   cases dn L u <;> simp [q] <;> omega
theorem LS.step (hc : cs.length = 4) (g : Lg rp cs L) (G : DW rp cs ks np0 su nd) (hV : ∀ x ∈ rp, jP cs x.1 x.2) (S : LS cs ks nd L W np) {k : Int} (hk : k ∈ av rp cs L) :
  wL su (np, []) [k + 4 * L.count k] /\ ([k + 4 * (L.count k : Int)].foldl (lA su) (np, [])).2.length <= ks.length /\
   LS cs ks nd (L ++ [k]) ((W.filter fun x => !([k + 4 * (L.count k : Int)] : List Int).contains x) ++ ([k + 4 * (L.count k : Int)].foldl (lA su) (np, [])).2) (uC ([k + 4 * (L.count k : Int)].foldl (lA su) (np, [])).1 ([k + 4 * (L.count k : Int)].foldl (lA su) (np, [])).2) := by
 have k4 := (lO.mp hk).1
 obtain ⟨s1, s2⟩ := k_ k4 (L.count k)
 have hdW : k + 4 * (L.count k : Int) ∈ W := (S.mem' hc g G hV _).mpr ⟨by rw [s1]; exact hk, by rw [s1]⟩
 have hus := fun v => MA (L := L) nd k4 v
 have hds := fun v => oO (L := L) (v := v) k4
 have he : ∀ v, v % 4 = k /\ v / 4 = L.count k -> v = k + 4 * L.count k := fun v => u3
 generalize k + 4 * (L.count k : Int) = d at hdW hus s1 s2 he |-
 have hd3 : ∀ v, v % 4 = k /\ v / 4 = L.count k ↔ v = d := fun v => ⟨he v, fun h => by rw [h]; exact ⟨s1, s2⟩⟩
 obtain ⟨dN, dU, dP⟩ := (S.mem d).mp hdW
 have dks := (G.vk d).mpr dN
 have suc : ∀ w, w ∈ su d ↔ d ∈ nd w := fun w => by rw [<- count_pos_iff, <- count_pos_iff, G.vs]
 have sucN : ∀ w ∈ su d, Nd cs w := fun w hw => by
  refine Classical.byContradiction fun h => ?_
  have := (suc w).mp hw
  rw [G.off w h] at this; cases this
 have sucU : ∀ w ∈ su d, ¬ Dn L w := fun w hw h => dU (g.closed hc hV d w ((G.vd d w (sucN w hw)).mp ((suc w).mp hw)) h (sucN w hw).1)
 have npS : ∀ w ∈ ks, ¬ Dn L w -> 0 < (nd w).count d -> np w = HM nd L w /\ (nd w).count d <= HM nd L w := fun w hw hu h => by
  have := hus w
  rw [S.np w hw]
  unfold WE
  rw [if_neg fun h => hu (fX.mp h), if_neg (by omega)]
  exact ⟨rfl, by omega⟩
 have hdself : d ∉ su d := fun h => dU (dP d ((suc d).mp h))
 have npd : np d = -1 := by
  rw [S.np d dks]
  unfold WE
  rw [if_neg fun h => dU (fX.mp h), if_pos]
  unfold HM
  rw [List.filter_eq_nil_iff.mpr fun u hu => by rw [fX.mpr (dP u hu)]; decide]
  rfl
 have fl : [d].flatMap su = su d := by rw [List.flatMap_cons, List.flatMap_nil, append_nil]
 obtain ⟨f1, f2, zs, f3, f4, f5⟩ := yG su [d] np [] (nodup_cons.mpr ⟨not_mem_nil, nodup_nil⟩)
  (fun v hv u hu => by rw [mem_singleton.mp hv, mem_singleton.mp hu]; exact hdself) (fun v hv => by rw [mem_singleton.mp hv]; exact npd)
  (fun w hw => by
   rw [fl] at hw |-
   have h1 := G.vs d w
   have h2 := npS w ((G.vk w).mpr (sucN w hw)) (sucU w hw) (by rw [<- h1]; exact count_pos_iff.mpr hw)
   rw [h2.1, h1]; exact Int.ofNat_le.mpr h2.2)
 rw [fl] at f2 f5
 rw [nil_append] at f3
 rw [f3]
 have zsub : ∀ w ∈ zs, w ∈ ks := fun w hw => (G.vk w).mpr (sucN w ((f5 w).mp hw).1)
 refine ⟨f1, ?_, ?_, fun v => ?_, fun v hv => ?_⟩
 ·exact KA f4 zsub
 ·refine List.nodup_append.mpr ⟨S.nup.filter _, f4, fun a ha b hb e => ?_⟩
  subst e
  have h1 := (mem_filter.mp ha).1
  have h2 := (f5 a).mp hb
  obtain ⟨_, _, h3⟩ := (S.mem a).mp h1
  exact dU (h3 d ((suc a).mp h2.1))
 ·rw [mem_append, mem_filter, S.mem, f5, hds v, hd3 v]
  have hcon : (!([d] : List Int).contains v) = true ↔ v ≠ d := by simp
  rw [hcon]
  constructor
  ·rintro (⟨⟨h1, h2, h3⟩, h4⟩ | ⟨h1, h2⟩)
   ·exact ⟨h1, fun h => h.elim h2 h4, fun u hu => (hds u).mpr (.inl (h3 u hu))⟩
   ·have hN := sucN v h1
    have hU := sucU v h1
    have hne : v ≠ d := fun e => hdself (e ▸ h1)
    refine ⟨hN, fun h => h.elim hU hne, fun u hu => ?_⟩
    have h3 := G.vs d v
    obtain ⟨h4, _⟩ := npS v ((G.vk v).mpr hN) hU (by rw [<- h3]; exact count_pos_iff.mpr h1)
    rw [h4, h3] at h2
    have h5 := hus v
    have h6 : HM nd (L ++ [k]) v = 0 := by omega
    refine Classical.byContradiction fun hn => ?_
    have : u ∈ (nd v).filter fun u => !dn (L ++ [k]) u := mem_filter.mpr ⟨hu, by
     rw [Bool.not_eq_true']; exact Bool.eq_false_iff.mpr fun h => hn (fX.mp h)⟩
    rw [length_eq_zero_iff.mp h6] at this; cases this
  ·rintro ⟨h1, h2, h3⟩
   have hU : ¬ Dn L v := fun h => h2 (.inl h)
   have hne : v ≠ d := fun h => h2 (.inr h)
   by_cases hm : d ∈ nd v
   ·have hw := (suc v).mpr hm
    refine .inr ⟨hw, ?_⟩
    have h4 := G.vs d v
    obtain ⟨h5, _⟩ := npS v ((G.vk v).mpr h1) hU (count_pos_iff.mpr hm)
    have h6 := hus v
    have h7 : HM nd (L ++ [k]) v = 0 := by
     unfold HM
     rw [List.filter_eq_nil_iff.mpr fun u hu => by rw [fX.mpr (h3 u hu)]; decide]
     rfl
    rw [h5, h4]; omega
   ·refine .inl ⟨⟨h1, hU, fun u hu => ?_⟩, hne⟩
    rcases (hds u).mp (h3 u hu) with h | h
    ·exact h
    ·exact absurd (((hd3 u).mp h) ▸ hu) hm
 ·have hN := (G.vk v).mp hv
  have hz : v ∈ zs ↔ (v ∈ su d /\ np v = (su d).count v) := f5 v
  unfold uC
  rw [f2 v, G.vs d v]
  unfold WE
  have h6 := hus v
  by_cases q : v = d
  ·subst q
   rw [if_neg fun h => hdself ((hz.mp h).1), if_pos (mem_singleton.mpr rfl), if_pos (fX.mpr ((hds v).mpr (.inr ((hd3 v).mpr rfl))))]
  ·rw [if_neg fun h : v ∈ [d] => q (mem_singleton.mp h)]
   by_cases hD : Dn L v
   ·have c0 : (nd v).count d = 0 := count_eq_zero.mpr fun h => dU (g.closed hc hV d v ((G.vd d v hN).mp h) hD hN.1)
    rw [if_neg fun h => sucU v (hz.mp h).1 hD, if_pos (fX.mpr ((hds v).mpr (.inl hD))), S.np v hv]
    unfold WE
    rw [if_pos (fX.mpr hD), c0]; rfl
   ·have hD' : ¬ dn (L ++ [k]) v = true := fun h => ((hds v).mp (fX.mp h)).elim hD fun h => q ((hd3 v).mp h)
    rw [if_neg hD']
    by_cases hm : d ∈ nd v
    ·obtain ⟨h5, h7⟩ := npS v hv hD (count_pos_iff.mpr hm)
     by_cases hz0 : HM nd (L ++ [k]) v = 0
     ·rw [if_pos hz0, if_pos (hz.mpr ⟨(suc v).mpr hm, by rw [h5, G.vs]; omega⟩)]
     ·rw [if_neg hz0, if_neg fun h => hz0 (by have := (hz.mp h).2; rw [h5, G.vs] at this; omega), h5]; omega
    ·have c0 : (nd v).count d = 0 := count_eq_zero.mpr hm
     rw [if_neg fun h => hm ((suc v).mp (hz.mp h).1), S.np v hv, c0]
     unfold WE
     rw [if_neg fun h => hD (fX.mp h), h6, c0]
     exact Int.sub_zero _
theorem KB (hc : cs.length = 4) (g : Lg rp cs L) (G : DW rp cs ks np0 su nd) (hV : ∀ x ∈ rp, jP cs x.1 x.2) (r : NX ks su) : ∃ h ∈ r4, (L.count h : Int) < cn cs h := by
 obtain ⟨S, hne, hS, hp⟩ := r
 have key : ∀ x ∈ S, ¬ Dn L x := by
  induction g with
  | nil => exact fun x hx => vQ x ((G.vk x).mp (hS x hx)).1
  | @snoc L k g hk ih =>
   intro x hx hd
   have k4 := (lO.mp hk).1
   rcases (oO k4).mp hd with h1 | ⟨h1, h2⟩
   ·exact ih x hx h1
   ·obtain ⟨y, hy, hyx⟩ := hp x hx
    have hN := (G.vk x).mp (hS x hx)
    have hm : y ∈ nd x := count_pos_iff.mp (by rw [<- G.vs]; exact count_pos_iff.mpr hyx)
    have := (G.vd y x hN).mp hm
    rw [show x = k + 4 * L.count k by omega] at this
    exact ih y hy (((BM hc g hV k4).mp hk).2 y this)
 obtain ⟨x, hx⟩ := List.exists_mem_of_ne_nil _ hne
 have h1 := key x hx
 have h2 := ((G.vk x).mp (hS x hx)).2
 unfold Dn at h1
 exact ⟨x % 4, nR, by omega⟩
theorem GK (hc : cs.length = 4) (g : Lg rp cs L) (G : DW rp cs ks np0 su nd) (hV : ∀ x ∈ rp, jP cs x.1 x.2) (r : qJ ks su) (h0 : av rp cs L = []) : ∀ h ∈ r4, cn cs h <= (L.count h : Int) := by
 intro h hh
 refine Classical.byContradiction fun hn => ?_
 obtain ⟨s1, s2⟩ := k_ hh (L.count h)
 have b := gQ.mp hh
 have hN : Nd cs (h + 4 * L.count h) := vS hh (Int.natCast_nonneg _) (Int.not_le.mp hn)
 refine r.no (S := ks.filter fun v => !dn L v) (fun e => ?_) (fun x hx => (mem_filter.mp hx).1) fun x hx => ?_
 ·have : h + 4 * (L.count h : Int) ∈ ks.filter fun v => !dn L v := mem_filter.mpr ⟨(G.vk _).mpr hN, by
   rw [Bool.not_eq_true']
   refine Bool.eq_false_iff.mpr fun q => ?_
   have := fX.mp q
   unfold Dn at this
   rw [s1, s2] at this; omega⟩
  rw [e] at this; cases this
 ·obtain ⟨h1, h2⟩ := mem_filter.mp hx
  have hU : ¬ Dn L x := fun q => by rw [fX.mpr q] at h2; cases h2
  have hNx := (G.vk x).mp h1
  refine Classical.byContradiction fun hno => ?_
  have all : ∀ u, Pr rp u x -> Dn L u := fun u hu => Classical.byContradiction fun hnd => hno ⟨u, mem_filter.mpr ⟨(G.vk u).mpr (Pr.node hV hu hNx), by
   rw [Bool.not_eq_true']; exact Bool.eq_false_iff.mpr fun q => hnd (fX.mp q)⟩, count_pos_iff.mp (by rw [G.vs]; exact count_pos_iff.mpr ((G.vd u x hNx).mpr hu))⟩
  have q : x / 4 = L.count (x % 4) := by
   unfold Dn at hU
   by_cases q : x / 4 = L.count (x % 4)
   ·exact q
   ·have h4 := all (x - 4) (.inl ⟨L5 hU q, rfl⟩)
    unfold Dn at h4
    rw [(yZ x).1, (yZ x).2] at h4
    exact YF h4 hU
  have e := u3 ⟨rfl, q⟩
  have : x % 4 ∈ av rp cs L := (BM hc g hV nR).mpr ⟨q ▸ hNx.2, fun u hu => all u (by rw [e]; exact hu)⟩
  rw [h0] at this; cases this
end
noncomputable def oY (row : List Int) (p : Nat) : Int := (row[p]?).getD 0 + 4 * ((row.take p).count ((row[p]?).getD 0) : Int)
noncomputable def tR (row : List Int) : List (Int × List Int) := (List.range (row.length - 1)).map fun i => (oY row (i + 1), [oY row i])
noncomputable def nI (cs : List Int) (h : Int) : List (Int × List Int) := (h, []) :: (List.range ((cn cs h).toNat - 1)).map fun (t : Nat) => (h + 4 * (1 + (t : Int)), [h + 4 * (1 + (t : Int)) - 4])
noncomputable def oZ (rp : RP) (cs : List Int) : List (Int × List Int) := r4.flatMap (nI cs) ++ rp.flatMap fun x => tR x.2
noncomputable def xO (as : List (Int × List Int)) : Gr := as.foldl (fun g x => zZ g x.1 x.2) g0
noncomputable def xT (as : List (Int × List Int)) (v : Int) : List Int := (as.filter fun x => decide (x.1 = v)).flatMap (·.2)
theorem nN (as : List (Int × List Int)) (a : Int × List Int) : xO (as ++ [a]) = zZ (xO as) a.1 a.2 := by
 unfold xO; rw [List.foldl_append]; rfl
theorem yB (as : List (Int × List Int)) (a : Int × List Int) (v : Int) : xT (as ++ [a]) v = xT as v ++ if a.1 = v then a.2 else [] := by
 unfold xT
 rw [List.filter_append, List.flatMap_append, filter_cons]
 by_cases h : a.1 = v <;> simp [h]
theorem IF {α : Type} {P : List α -> Prop} (h0 : P []) (h1 : ∀ as a, P as -> P (as ++ [a])) (l : List α) : P l := by
 have : ∀ l : List α, P l.reverse := fun l => by
  induction l with
  | nil => exact h0
  | cons a l ih => rw [List.reverse_cons]; exact h1 _ _ ih
 rw [<- List.reverse_reverse l]; exact this _
theorem HY (as : List (Int × List Int)) : (∀ a ∈ as, a.2.length <= 1) -> (xO as).ks.length <= 2 * as.length /\ ∀ w, ((xO as).su w).length <= as.length := by
 induction as using IF with
 | h0 => exact fun zz => ⟨Nat.le_refl _, fun zz => Nat.le_refl _⟩
 | h1 as a ih =>
  intro h
  obtain ⟨h1, h2⟩ := ih fun b hb => h b (mem_append.mpr (.inl hb))
  have h3 := h a (mem_append.mpr (.inr (mem_singleton.mpr rfl)))
  obtain ⟨h4, h5⟩ := CO a.1 (xO as) a.2 ⟨nC (xO as).ks a.1, qP (xO as).np a.1 ((xO as).np a.1 + a.2.length), (xO as).su⟩
  have h6 := rJ (xO as).ks a.1
  rw [nN, length_append, length_singleton]
  simp only at h4 h5
  refine ⟨?_, fun w => ?_⟩
  ·unfold zZ; omega
  ·have := h5 w
   have := h2 w
   unfold zZ; omega
theorem NT (as : List (Int × List Int)) : (∀ v, (xO as).np v = (xT as v).length) /\ (∀ x, x ∈ (xO as).ks ↔ ∃ a ∈ as, x = a.1 \/ x ∈ a.2) /\ ∀ u w, ((xO as).su u).count w = (xT as w).count u := by
 induction as using IF with
 | h0 => exact ⟨fun zz => rfl, fun x => ⟨fun h => absurd h not_mem_nil, fun ⟨a, h, _⟩ => absurd h not_mem_nil⟩, fun zz zz => rfl⟩
 | h1 as a ih =>
  obtain ⟨h1, h2, h3⟩ := ih
  refine ⟨fun v => ?_, fun x => ?_, fun u w => ?_⟩
  ·rw [nN, yB, length_append]
   unfold zZ
   rw [HP]
   simp only [qP]
   by_cases e : v = a.1
   ·rw [if_pos e, if_pos e.symm, e, h1]; exact (Int.natCast_add _ _).symm
   ·rw [if_neg e, if_neg (Ne.symm e), h1]; rfl
  ·rw [nN]
   unfold zZ
   rw [HT, nG, h2]
   constructor
   ·rintro ((⟨b, hb, hx⟩ | h) | h)
    ·exact ⟨b, mem_append.mpr (.inl hb), hx⟩
    ·exact ⟨a, mem_append.mpr (.inr (mem_singleton.mpr rfl)), .inl h⟩
    ·exact ⟨a, mem_append.mpr (.inr (mem_singleton.mpr rfl)), .inr h⟩
   ·rintro ⟨b, hb, hx⟩
    rcases mem_append.mp hb with hb | hb
    ·exact .inl (.inl ⟨b, hb, hx⟩)
    ·rw [mem_singleton.mp hb] at hx
     exact hx.elim (fun h => .inl (.inr h)) .inr
  ·rw [nN, yB, count_append]
   unfold zZ
   rw [IE]
   simp only [h3]
   by_cases e : w = a.1
   ·rw [if_pos e, if_pos e.symm]
   ·rw [if_neg e, if_neg (Ne.symm e)]; rfl
theorem OJ {as : List (Int × List Int)} {u v : Int} : u ∈ xT as v ↔ ∃ a ∈ as, a.1 = v /\ u ∈ a.2 := by
 unfold xT
 simp only [mem_flatMap, mem_filter, decide_eq_true_eq, and_assoc]
theorem qU (A B : List Int) (h : Int) : oY (A ++ h :: B) A.length = h + 4 * (A.count h : Int) := by
 unfold oY
 rw [getElem?_append_right (Nat.le_refl _), Nat.sub_self, List.take_left']
 ·rfl
 ·rfl
theorem NO {row : List Int} {p : Nat} (hp : p < row.length) : ∃ A h B, row = A ++ h :: B /\ A.length = p := by
 refine ⟨row.take p, row[p], row.drop (p + 1), ?_, List.length_take_of_le (Nat.le_of_lt hp)⟩
 rw [<- List.drop_eq_getElem_cons hp, List.take_append_drop]
theorem FJ {row : List Int} {u v : Int} : Ed row u v ↔ ∃ i, i + 1 < row.length /\ v = oY row (i + 1) /\ u = oY row i := by
 constructor
 ·rintro ⟨A, h', h, B, rfl, rfl, rfl⟩
  refine ⟨A.length, by simp, ?_, (qU _ _ _).symm⟩
  have := qU (A ++ [h']) B h
  rw [length_append, length_singleton, append_assoc] at this
  exact this.symm
 ·rintro ⟨i, hi, rfl, rfl⟩
  obtain ⟨A', h, B, e, hl⟩ := NO hi
  have hne : A' ≠ [] := fun q => by rw [q] at hl; cases hl
  obtain ⟨A, h', rfl⟩ := (List.eq_nil_or_concat A').resolve_left hne
  rw [List.concat_eq_append] at e hl
  have hl' : A.length = i := by rw [length_append, length_singleton] at hl; omega
  subst hl'
  have e2 : row = A ++ h' :: (h :: B) := by rw [e, append_assoc]; rfl
  refine ⟨A, h', h, B, e2, ?_, ?_⟩
  ·rw [e2]; exact qU _ _ _
  ·have := qU (A ++ [h']) B h
   rw [length_append, length_singleton] at this
   rw [e]; exact this
section
variable {rp : RP} {cs : List Int}
theorem mD {a : Int × List Int} : a ∈ oZ rp cs ↔ (∃ h ∈ r4, a = (h, []) \/ ∃ t : Nat, t < (cn cs h).toNat - 1 /\ a = (h + 4 * (1 + (t : Int)), [h + 4 * (1 + (t : Int)) - 4])) \/ ∃ x ∈ rp, ∃ i, i < x.2.length - 1 /\ a = (oY x.2 (i + 1), [oY x.2 i]) := by
 unfold oZ tR nI
 simp only [mem_append, mem_flatMap, mem_cons, mem_map, mem_range, eq_comm (a := a)]
theorem m2 {t : Int} (h : Int) : h + 4 * (1 + t) - 4 = h + 4 * t /\ h + 4 * 0 = h := by omega
theorem B2 {c : Int} (h : 1 <= c /\ c <= 2) {t : Nat} (ht : t < c.toNat - 1) : (1 + (t : Int)) < c /\ (t : Int) < c /\ 0 <= 1 + (t : Int) /\ 0 <= (t : Int) := by
 rcases BI h with rfl | rfl
 ·exact absurd ht (Nat.not_lt_zero _)
 ·rw [Nat.lt_one_iff.mp ht]; decide
theorem c9 {v c : Int} (h0 : 0 <= v) (h1 : v / 4 < c) (q : v / 4 ≠ 0) : (v / 4).toNat - 1 < c.toNat - 1 /\ v % 4 + 4 * (1 + (((v / 4).toNat - 1 : Nat) : Int)) = v := by
 obtain ⟨m, hm⟩ := Int.eq_ofNat_of_zero_le (Int.ediv_nonneg h0 (by decide : (0 : Int) <= 4))
 have e := Int.emod_add_mul_ediv v 4
 cases m with
 | zero => exact absurd hm q
 | succ n =>
  rw [hm] at e h1 |-
  refine ⟨Nat.lt_sub_of_add_lt (Int.lt_toNat.mpr h1), ?_⟩
  show v % 4 + 4 * (1 + (n : Int)) = v
  rw [Int.add_comm 1]; exact e
theorem A6 {v : Int} (q : v / 4 = 0) : v = v % 4 := by omega
theorem C7 {v : Int} (h : 4 <= v) : v / 4 ≠ 0 := by omega
theorem B8 {h t v u : Int} (hh : 0 <= h) (ht : 0 <= t) (e : h + 4 * (1 + t) = v) (hu : u = h + 4 * (1 + t) - 4) : 4 <= v /\ u = v - 4 := by omega
theorem G1 (hC : sF cs) (hV : ∀ x ∈ rp, jP cs x.1 x.2) (hn : (xO (oZ rp cs)).ks.Nodup) : DW rp cs (xO (oZ rp cs)).ks (xO (oZ rp cs)).np (xO (oZ rp cs)).su (xT (oZ rp cs)) := by
 obtain ⟨t1, t2, t3⟩ := NT (oZ rp cs)
 have node : ∀ a ∈ oZ rp cs, Nd cs a.1 /\ ∀ u ∈ a.2, Nd cs u := fun a ha => by
  rcases mD.mp ha with ⟨h, hh, rfl | ⟨t, ht, rfl⟩⟩ | ⟨x, hx, i, hi, rfl⟩
  ·have := vS (cs := cs) (j := 0) hh (Int.le_refl _) (Int.lt_of_lt_of_le (by decide) (hC.one h hh).1)
   rw [(m2 (t := 0) h).2] at this
   exact ⟨this, fun u hu => absurd hu not_mem_nil⟩
  ·obtain ⟨c1, c2, c3, c4⟩ := B2 (hC.one h hh) ht
   refine ⟨vS hh c3 c1, fun u hu => ?_⟩
   rw [mem_singleton.mp hu, (m2 h).1]
   exact vS hh c4 c2
  ·obtain ⟨n1, n2⟩ := Ed.node hV hx (FJ.mpr ⟨i, Nat.add_lt_of_lt_sub hi, rfl, rfl⟩)
   exact ⟨n2, fun u hu => by rw [mem_singleton.mp hu]; exact n1⟩
 refine ⟨fun v => ?_, hn, fun v zz => t1 v, t3, fun u v hv => ?_, fun v hv => ?_⟩
 ·rw [t2]
  constructor
  ·rintro ⟨a, ha, rfl | h⟩
   ·exact (node a ha).1
   ·exact (node a ha).2 v h
  ·intro hv
   by_cases q : v / 4 = 0
   ·exact ⟨_, mD.mpr (.inl ⟨v % 4, nR, .inl rfl⟩), .inl (A6 q)⟩
   ·obtain ⟨p1, p2⟩ := c9 hv.1 hv.2 q
    exact ⟨_, mD.mpr (.inl ⟨v % 4, nR, .inr ⟨_, p1, rfl⟩⟩), .inl p2.symm⟩
 ·rw [OJ]
  constructor
  ·rintro ⟨a, ha, e, hu⟩
   rcases mD.mp ha with ⟨h, hh, rfl | ⟨t, ht, rfl⟩⟩ | ⟨x, hx, i, hi, rfl⟩
   ·cases hu
   ·exact .inl (B8 (gQ.mp hh).1 (Int.natCast_nonneg t) e (mem_singleton.mp hu))
   ·exact .inr ⟨x, hx, FJ.mpr ⟨i, Nat.add_lt_of_lt_sub hi, e.symm, mem_singleton.mp hu⟩⟩
  ·rintro (⟨h4, rfl⟩ | ⟨x, hx, e⟩)
   ·obtain ⟨p1, p2⟩ := c9 hv.1 hv.2 (C7 h4)
    exact ⟨_, mD.mpr (.inl ⟨v % 4, nR, .inr ⟨_, p1, rfl⟩⟩), p2, mem_singleton.mpr (by rw [p2])⟩
   ·obtain ⟨i, hi, rfl, rfl⟩ := FJ.mp e
    exact ⟨_, mD.mpr (.inr ⟨x, hx, i, Nat.lt_sub_of_add_lt hi, rfl⟩), rfl, mem_singleton.mpr rfl⟩
 ·unfold xT
  rw [List.filter_eq_nil_iff.mpr fun a ha h => hv (by have e : a.1 = v := of_decide_eq_true h; rw [<- e]; exact (node a ha).1)]
  rfl
end
section
variable {h : AH} {r k : Nat} {xs : List AV} {ns : List Int} {i : Int} {x v : AV}
theorem sN (e : IL h r ns) : qG [.ref r, .int i] h = some (.int (ns.count i), h) := by
 obtain ⟨k, e⟩ := e
 exact (eS e).trans (eS (iE ns))
theorem qI (e : h[r]? = some (.list xs, k)) (hl : xs.length <= 1000000) : hY [.ref r] h = gJ (.list xs) h := by
 show bO (bE (bO h[r]? _) _) _ = _
 rw [e]; exact lG hl _
theorem tV (hl : xs.length <= 1000000) : hY [.tup xs] h = gJ (.list xs) h := lG hl _
theorem JL (e : h[r]? = some (.list xs, k)) (hz : 0 <= i /\ i < xs.length /\ xs.length <= 1000000) : sA (.ref r) (.int i) v h = some ((), h.set r (.list (xs.set i.toNat v), k + 1)) := (eS e).trans (lG hz _)
theorem nV {n : Nat} (h0 : 0 <= i) (h1 : i < n) (h2 : n <= 1000000) : idxOf i n = some i.toNat := by
 unfold idxOf
 rw [if_pos h0, if_pos ⟨by omega, by omega⟩]
theorem jJ {y : Int} {j : Nat} (e : IL h r ns) (hj : idxOf i ns.length = some j) (hy : ns[j]? = some y) : oX (.ref r) (.int i) h = some (.int y) := by
 obtain ⟨k, e⟩ := e
 exact IP e (by rw [length_map]; exact hj) (by rw [getElem?_map, hy]; rfl)
theorem kJ {C : Nat} {cs : List Int} (e : IL h C cs) (hl : cs.length = 4) (hi : i ∈ r4) : oX (.ref C) (.int i) h = some (.int (cn cs i)) := by
 have b := gQ.mp hi
 refine jJ e (nV b.1 (by omega) (by omega)) ?_
 unfold cn
 rw [getElem?_eq_getElem (by omega)]; rfl
theorem uK {y : Int} (e : IL h r ns) (hl : ns.length <= 1000000) : ∃ h', cW [.ref r, .int y] h = some (.none, h') /\ IL h' r (ns ++ [y]) /\ ∃ o, h' = h.set r o := by
 obtain ⟨k, e⟩ := e
 exact ⟨_, jH e (by rw [length_map]; exact hl), ⟨k + 1, by rw [eP (bR e), map_append]; rfl⟩, _, rfl⟩
theorem IL.ty (e : IL h r ns) : lW (.ref r) h = some "list" := by
 obtain ⟨k, e⟩ := e; exact jL e
end
theorem sZ {a b : Int} (hb : b ≠ 0 /\ b.natAbs < 1073741824) (h : AH) : oB .fdiv (.int a) (.int b) h = some (.int (a.fdiv b), h) := by
 show bE (bG _ _) _ = _
 rw [lG hb]; rfl
theorem lY {a b : Int} (hb : b ≠ 0) (h : AH) : oB .mod (.int a) (.int b) h = some (.int (a.fmod b), h) := by
 show bE (bG _ _) _ = _
 rw [lG hb]; rfl
theorem wW {a b : Int} (hb : 0 <= b /\ b <= 1000000 /\ a.natAbs < 2 ^ 62) (h : AH) : oB .pow (.int a) (.int b) h = some (.int (a ^ b.toNat), h) := by
 show bE (bG _ _) _ = _
 rw [lG hb]; rfl
theorem F5 : ∀ i : Nat, i < 4 -> (2 : Int) ^ ((i : Int)).toNat ≠ 0 /\ ((2 : Int) ^ ((i : Int)).toNat).natAbs < 1073741824 := by decide
structure qB (cs : List Int) (a b : Int) (n : Nat) (row : List Int) : Prop where
 sub : ∀ x ∈ row, x = a \/ x = b
 ca : (row.count a : Int) <= cn cs a
 cb : (row.count b : Int) <= cn cs b
 len : (row.length : Int) + n = cn cs a + cn cs b
theorem sW {a b : Int} (hne : a ≠ b) {row : List Int} (h : ∀ x ∈ row, x = a \/ x = b) : row.count a + row.count b = row.length := by
 induction row with
 | nil => rfl
 | cons x row ih =>
  have := ih fun y hy => h y (mem_cons_of_mem _ hy)
  rw [length_cons]
  rcases h x mem_cons_self with rfl | rfl
  ·rw [count_cons_self, List.count_cons_of_ne hne]; omega
  ·rw [count_cons_self, List.count_cons_of_ne (Ne.symm hne)]; omega
theorem qB.end {cs : List Int} {a b : Int} {row : List Int} (R : qB cs a b 0 row) (ha : a ∈ r4) (hb : b ∈ r4) (hne : a ≠ b) : jP cs (a, b) row := by
 have h1 := R.ca
 have h2 := R.cb
 have h3 := R.len
 have h4 := sW hne R.sub
 refine ⟨ha, hb, hne, fun x hx => ?_, R.sub⟩
 rcases hx with rfl | rfl
 ·exact Int.le_antisymm h1 (by omega)
 ·exact Int.le_antisymm h2 (by omega)
theorem qB.one {cs : List Int} {a b : Int} {n : Nat} {row : List Int} (R : qB cs a b (n + 1) row) (hne : a ≠ b) (h : (row.count a : Int) < cn cs a) : qB cs a b n (row ++ [a]) := by
 have h1 := R.ca
 have h2 := R.cb
 have h3 := R.len
 refine ⟨fun x hx => ?_, ?_, ?_, ?_⟩
 ·rcases mem_append.mp hx with hx | hx
  ·exact R.sub x hx
  ·exact .inl (mem_singleton.mp hx)
 ·rw [count_append, List.count_singleton_self]; omega
 ·rw [count_append, List.count_singleton, if_neg (by simpa using hne)]; omega
 ·rw [length_append, length_singleton]; omega
theorem qB.other {cs : List Int} {a b : Int} {n : Nat} {row : List Int} (R : qB cs a b (n + 1) row) (hne : a ≠ b) (h : (row.count b : Int) < cn cs b) : qB cs a b n (row ++ [b]) := by
 have h1 := R.ca
 have h2 := R.cb
 have h3 := R.len
 refine ⟨fun x hx => ?_, ?_, ?_, ?_⟩
 ·rcases mem_append.mp hx with hx | hx
  ·exact R.sub x hx
  ·exact .inr (mem_singleton.mp hx)
 ·rw [count_append, List.count_singleton, if_neg (by simpa using Ne.symm hne)]; omega
 ·rw [count_append, List.count_singleton_self]; omega
 ·rw [length_append, length_singleton]; omega
theorem CF {x y : Int} (h : 1 <= x /\ x <= 2) (h' : 1 <= y /\ y <= 2) : (x + y).natAbs < 4611686018427387904 /\ (x + y).toNat <= 4 /\ ((x + y).toNat : Int) = x + y := by
 rcases BI h with rfl | rfl <;> rcases BI h' with rfl | rfl <;> decide
theorem qB.init {cs : List Int} {a b : Int} (h : 1 <= cn cs a /\ cn cs a <= 2) (h' : 1 <= cn cs b /\ cn cs b <= 2) : qB cs a b (List.range (cn cs a + cn cs b).toNat).length [] :=
 ⟨fun x hx => absurd hx not_mem_nil, Int.le_trans (show (0 : Int) <= 1 by decide) h.1, Int.le_trans (show (0 : Int) <= 1 by decide) h'.1, by rw [List.length_range, (CF h h').2.2]; exact Int.zero_add _⟩
theorem qB.le {cs : List Int} {a b : Int} {n : Nat} {row : List Int} (R : qB cs a b n row) (h : 1 <= cn cs a /\ cn cs a <= 2) (h' : 1 <= cn cs b /\ cn cs b <= 2) : row.length <= 1000000 := by
 have h1 := R.len
 rw [<- (CF h h').2.2] at h1
 have h2 := (CF h h').2.1
 exact Nat.le_trans (Nat.le_trans (Nat.le_add_right _ _) (Nat.le_of_eq (Int.ofNat.inj h1))) (Nat.le_trans h2 (by decide))
theorem qB.two {cs : List Int} {a b : Int} {n : Nat} {row : List Int} (R : qB cs a b (n + 1) row) (hne : a ≠ b) (h : (row.count b : Int) = cn cs b) : (row.count a : Int) < cn cs a := by
 have h1 := sW hne R.sub
 have h2 := R.len
 omega
noncomputable def B5 (h : AH) (cs : List Int) (a b number : Int) (C : Nat) (items : List AV) (st : AS) : Prop := ∃ (rest : List Nat) (row : List Int), items = rest.map (fun (i : Nat) => AV.int (i : Int)) /\ (∀ i ∈ rest, i < 4) /\ qB cs a b rest.length row /\ h <+: st.hp /\ IL st.hp h.length row /\
 st.env.lookup "row" = some (.ref h.length) /\ st.env.lookup "number" = some (.int number) /\ st.env.lookup "one" = some (.int a) /\ st.env.lookup "other" = some (.int b) /\ st.env.lookup "counts" = some (.ref C)
theorem P_ {h : AH} {C : Nat} {cs : List Int} {number a b : Int} {K : AV -> AH -> Prop} (iC : IL h C cs) (hC : sF cs) (ha : a ∈ r4) (hb : b ∈ r4) (hne : a ≠ b)
  (k : ∀ h' r row, h <+: h' -> h.length <= r -> IL h' r row -> jP cs (a, b) row -> K (.ref r) h') : iF (VK [.int number, .int a, .int b, .ref C]) K h := by
 refine gH (bs := [("number", .int number), ("one", .int a), ("other", .int b), ("counts", .ref C)]) rfl ?_
 unfold row.prog
 have iH : IL (h ++ [(aI.list [], 0)]) C cs := iC.mono (aZ _ _)
 have ca := hC.one a ha
 have cb := hC.one b hb
 have hr := (CF ca cb).1
 simp! [kJ iH hC.len ha, kJ iH hC.len hb, iM, hX, hr]
 refine eZ (B5 h cs a b number C) (fun zz zz zz g hg => by cases hg) ?_ ?_ _ _ ?_
 rotate_right
 ·refine ⟨List.range (cn cs a + cn cs b).toNat, [], rfl, fun i hi => Nat.lt_of_lt_of_le (mem_range.mp hi) (CF ca cb).2.1, .init ca cb, aZ _ _, ⟨0, bW _ _⟩, ?_⟩
  simp! [id_eq]
 ·rintro x items ⟨e, hh⟩ zI
  obtain ⟨rest, row, hi, h4, R, p, iR, e1, e2, e3, e4, e5⟩ := zI
  cases rest with
  | nil => cases hi
  | cons i rest =>
  rw [map_cons] at hi
  obtain ⟨rfl, rfl⟩ := List.cons.inj hi
  simp only at p iR e1 e2 e3 e4 e5
  have iC' := iC.mono p
  have i4 := h4 i mem_cons_self
  obtain ⟨q1, q2⟩ := F5 i i4
  have rl := R.le ca cb
  rw [length_cons] at R
  have h4' : ∀ j ∈ rest, j < 4 := fun j hj => h4 j (mem_cons_of_mem _ hj)
  obtain ⟨ha', ea, ia, oa, eoa⟩ := uK (y := a) iR rl
  obtain ⟨hb', eb, ib, ob, eob⟩ := uK (y := b) iR rl
  have pa : h <+: ha' := eoa ▸ f_ p (Nat.le_refl _)
  have pb : h <+: hb' := eob ▸ f_ p (Nat.le_refl _)
  clear eoa eob
  have hp : (0 : Int) <= (i : Int) /\ (i : Int) <= 1000000 /\ (2 : Int).natAbs < 2 ^ 62 := ⟨Int.natCast_nonneg i, Int.ofNat_le.mpr (Nat.le_trans (Nat.le_of_lt i4) (by decide)), by decide⟩
  simp! [e1, e2, e3, e4, e5, iR.ty, sN iR, kJ iC' hC.len ha, kJ iC' hC.len hb, mP]
  cases hc : decide ((row.count b : Int) = cn cs b) with
  | true =>
   simp! [e1, e3, iR.ty, ea]
   refine ⟨rest, row ++ [a], rfl, h4', R.one hne (R.two hne (of_decide_eq_true hc)), pa, ia, ?_⟩
   simp! [e1, e2, e3, e4, e5]
  | false =>
   have hb2 : (row.count b : Int) < cn cs b := Int.lt_iff_le_and_ne.mpr ⟨R.cb, of_decide_eq_false hc⟩
   simp! [e1, e3, e5, iR.ty, sN iR, kJ iC' hC.len ha]
   cases hd : decide ((row.count a : Int) < cn cs a) with
   | false =>
    simp! [e1, e4, iR.ty, eb]
    refine ⟨rest, row ++ [b], rfl, h4', R.other hne hb2, pb, ib, ?_⟩
    simp! [e1, e2, e3, e4, e5]
   | true =>
    simp! [e2, wW hp, sZ ⟨q1, q2⟩, lY (by decide : (2 : Int) ≠ 0), mP]
    cases he : decide ((number.fdiv (2 ^ ((i : Int)).toNat)).fmod 2 = 1) with
    | true =>
     simp! [e1, e3, iR.ty, ea]
     refine ⟨rest, row ++ [a], rfl, h4', R.one hne (of_decide_eq_true hd), pa, ia, ?_⟩
     simp! [e1, e2, e3, e4, e5]
    | false =>
     simp! [e1, e4, iR.ty, eb]
     refine ⟨rest, row ++ [b], rfl, h4', R.other hne hb2, pb, ib, ?_⟩
     simp! [e1, e2, e3, e4, e5]
 ·rintro ⟨e, hh⟩ zI
  obtain ⟨rest, row, hi, h4, R, p, iR, e1, e2, e3, e4, e5⟩ := zI
  have : rest = [] := by simpa using hi.symm
  subst this
  simp! [e1]
  exact k _ _ _ p (Nat.le_refl _) iR (R.end ha hb hne)
structure SI (h0 h : AH) (s a D : Nat) (as : List (Int × List Int)) (P : Nat -> Prop) : Prop where
 so : y4 h h0.length s a D 0 0 (xO as) P
 pre : h0 <+: h
section
variable {h0 h h' : AH} {s a D : Nat} {as : List (Int × List Int)} {P : Nat -> Prop}
theorem SI.own (I : SI h0 h s a D as P) : uB "TopologicalSorter" "add" (.ref s) h = some () := by
 obtain ⟨_, _, _, _, S, _⟩ := I.so
 exact S.own (by decide) (by decide) (by decide) (by decide)
theorem SI.grow (I : SI h0 h s a D as P) (p : h <+: h') : SI h0 h' s a D as fun zz => False := by
 obtain ⟨d, ni, sr, dd, S, _⟩ := I.so
 exact ⟨⟨d, ni, sr, dd, S.grow p, fun zz h => h.elim⟩, I.pre.trans p⟩
theorem SI.prot (I : SI h0 h s a D as P) (p : h <+: h') {j k : Nat} {os : List AV} (hj : h.length <= j) (e : h'[j]? = some (.list os, k)) : SI h0 h' s a D as (· = j) := by
 obtain ⟨d, ni, sr, dd, S, _⟩ := I.so
 refine ⟨⟨d, ni, sr, dd, S.grow p, fun i hi => ?_⟩, I.pre.trans p⟩
 subst hi
 exact ⟨⟨os, k, e⟩, fun v hv => Nat.ne_of_lt (Nat.lt_of_lt_of_le (S.suc v hv).lt hj)⟩
theorem SI.add {K : AV -> AH -> Prop} {node : Int} {preds : List Int} (I : SI h0 h s a D as P) (hl : as.length <= 100) (h1 : ∀ x ∈ as, x.2.length <= 1) (hp : preds.length <= 1)
  (k : ∀ h', SI h0 h' s a D (as ++ [(node, preds)]) P -> (∀ j, P j -> h'[j]? = h[j]?) -> K .none h') : iF (qC (.ref s :: .int node :: preds.map .int)) K h := by
 obtain ⟨l1, l2⟩ := HY as h1
 refine LQ I.so I.pre (Nat.le_refl _) I.pre.length_le (by omega) (fun w => by have := l2 w; omega) fun h' S' p' l' kp => ?_
 exact k h' ⟨by rw [nN]; exact S', p'⟩ kp
end
theorem oR : (List.range (Int.toNat 4)).map (fun (i : Nat) => AV.int (i : Int)) = r4.map .int := by rfl
noncomputable def PS (row : List Int) : List Int := (List.range row.length).map (oY row)
theorem IN (row : List Int) : (PS row).length = row.length := by unfold PS; rw [length_map, List.length_range]
theorem BE {row : List Int} {i : Nat} (hi : i < row.length) : (PS row)[i]? = some (oY row i) := by
 unfold PS; rw [getElem?_map, List.getElem?_range hi]; rfl
theorem GQ (row : List Int) : (row.map AV.int).zipIdx.map (fun x => AV.tup [.int x.2, x.1]) = row.zipIdx.map fun x => AV.tup [.int x.2, .int x.1] := by
 rw [List.zipIdx_map, map_map]; rfl
theorem VD (row : List Int) : row.zipIdx.map (fun x => AV.int (x.1 + 4 * ((row.take x.2).count x.1 : Int))) = (PS row).map .int := by
 refine List.ext_getElem? fun i => ?_
 rw [getElem?_map, getElem?_map, List.getElem?_zipIdx, Nat.zero_add]
 by_cases hi : i < row.length
 ·rw [BE hi, getElem?_eq_getElem hi]
  show some _ = some _
  unfold oY
  rw [getElem?_eq_getElem hi]; rfl
 ·rw [List.getElem?_eq_none (Nat.le_of_not_lt hi), List.getElem?_eq_none (by rw [IN]; exact Nat.le_of_not_lt hi)]; rfl
theorem EA {P : List Int -> Prop} (h0 : P []) (h1 : ∀ a, P [a]) (h2 : ∀ a b, P [a, b]) (h3 : ∀ a b c, P [a, b, c]) (h4 : ∀ a b c d, P [a, b, c, d]) {xs : List Int} (h : xs.length <= 4) : P xs := by
 cases xs with
 | nil => exact h0
 | cons a xs =>
 cases xs with
 | nil => exact h1 a
 | cons b xs =>
 cases xs with
 | nil => exact h2 a b
 | cons c xs =>
 cases xs with
 | nil => exact h3 a b c
 | cons d xs =>
 cases xs with
 | nil => exact h4 a b c d
 | cons e xs => exact absurd h (by simp)
theorem EY {xs : List Int} {p : Nat} (h : xs.length <= 4) (hp : p <= xs.length) (hq : p < 4) : pickL (xs.map AV.int) none (some (p : Int)) none = (xs.take p).map .int := by
 have : p = 0 \/ p = 1 \/ p = 2 \/ p = 3 := by omega
 revert hp
 refine EA (P := fun xs => p <= xs.length -> pickL (xs.map AV.int) none (some (p : Int)) none = (xs.take p).map .int) ?_ ?_ ?_ ?_ ?_ h <;> (intros; rcases this with rfl | rfl | rfl | rfl <;> kernel_rfl)
theorem CN {a b : Int} (hb : b.natAbs < 2 ^ 62) (h : AH) : oB .mul (.int a) (.int b) h = some (.int (a * b), h) := by
 show bE (bG _ _) _ = _
 rw [lG hb]; rfl
theorem jP.len {cs : List Int} {p : Int × Int} {row : List Int} (hC : sF cs) (V : jP cs p row) : row.length <= 4 := by
 have h1 := sW V.ne V.sub
 have h2 := V.cnt p.1 (.inl rfl)
 have h3 := V.cnt p.2 (.inr rfl)
 have h4 := hC.one p.1 V.a4
 have h5 := hC.one p.2 V.b4
 omega
theorem sH {cs : List Int} (hC : sF cs) : ∀ dn : List Int, (∀ x ∈ dn, x ∈ r4) -> (dn.flatMap (nI cs)).length <= 2 * dn.length := by
 intro dn
 induction dn with
 | nil => exact fun zz => Nat.le_refl _
 | cons x dn ih =>
  intro h
  have h1 := ih fun y hy => h y (mem_cons_of_mem _ hy)
  have h2 := hC.one x (h x mem_cons_self)
  have h3 : (nI cs x).length <= 2 := by
   unfold nI
   rw [length_cons, length_map, List.length_range]; omega
  rw [List.flatMap_cons, length_append, length_cons]; omega
theorem zC {rp : RP} (h : ∀ x ∈ rp, x.2.length <= 4) : (rp.flatMap fun x => tR x.2).length <= 3 * rp.length := by
 induction rp with
 | nil => exact Nat.le_refl _
 | cons x rp ih =>
  have h1 := ih fun y hy => h y (mem_cons_of_mem _ hy)
  have h2 := h x mem_cons_self
  have h3 : (tR x.2).length <= 3 := by
   unfold tR
   rw [length_map, List.length_range]; omega
  rw [List.flatMap_cons, length_append, length_cons]; omega
theorem oV {cs : List Int} {dn : List Int} : ∀ a ∈ dn.flatMap (nI cs), a.2.length <= 1 := by
 intro a ha
 obtain ⟨x, _, hx⟩ := mem_flatMap.mp ha
 rcases mem_cons.mp hx with rfl | hx
 ·exact Nat.zero_le _
 ·obtain ⟨t, _, rfl⟩ := mem_map.mp hx
  exact Nat.le_refl _
theorem yL {rp : RP} : ∀ a ∈ rp.flatMap (fun x => tR x.2), a.2.length <= 1 := by
 intro a ha
 obtain ⟨x, _, hx⟩ := mem_flatMap.mp ha
 obtain ⟨t, _, rfl⟩ := mem_map.mp hx
 exact Nat.le_refl _
theorem qZ {as bs : List (Int × List Int)} (h1 : ∀ a ∈ as, a.2.length <= 1) (h2 : ∀ a ∈ bs, a.2.length <= 1) : ∀ a ∈ as ++ bs, a.2.length <= 1 := fun a ha => (mem_append.mp ha).elim (h1 a) (h2 a)
theorem SV {h : AH} {K : AV -> AH -> Prop} (k : ∀ h', SI h h' (h.length + 1) h.length (h.length + 2) [] (fun zz => False) -> K (.ref (h.length + 1)) h') : iF (RV []) K h := by
 unfold RV wU
 simp! [id_eq]
 refine gH (bs := [("self", .ref (h.length + 1)), ("graph", .none)]) rfl ?_
 unfold tsInit.prog
 simp! [eX, FI, MZ, PC, PB, Bool.false_eq_true, hO, fN, Bool.not_true, (by decide : 0 < 900), (by decide : 1 < 900), (by decide : 2 < 900), (by decide : 3 < 900)]
 refine k _ ⟨⟨fun zz zz => ⟨rfl, rfl⟩, fun zz => 0, fun zz => 0, fun zz => 0, ⟨⟨0, eJ _ _ 1⟩, ⟨4, bW _ _⟩, ⟨0, eJ _ _ 2⟩, fun v hv => (by cases hv), fun v hv => (by cases hv), ⟨by omega, by omega, by omega, fun v hv => (by cases hv)⟩, fun v hv => (by cases hv), nodup_nil, by decide⟩, fun zz h => h.elim⟩, aZ _ _⟩
theorem iK {α : Type} (xs : List α) : xs.filter (fun zz => true) = xs := List.filter_eq_self.mpr fun zz zz => rfl
theorem vW.cons' {h : AH} {refs : List Nat} {xs : List Int} {xss : List (List Int)} (i : vW h refs (xs :: xss)) : ∃ r rs, refs = r :: rs /\ IL h r xs /\ vW h rs xss := by
 cases i with
 | cons a b => exact ⟨_, _, rfl, a, b⟩
theorem i0 {dn rest : List Int} (h : r4 = dn ++ rest) : dn.length <= 4 := by
 have := congrArg List.length h
 rw [length_append] at this
 exact Nat.le_trans (Nat.le_add_right _ _) (Nat.le_of_eq this.symm)
theorem E4 {x n : Nat} (h : x <= 2 * n) (h' : n <= 4) : x <= 100 := Nat.le_trans h (Nat.le_trans (Nat.mul_le_mul_left 2 h') (by decide))
theorem TV {n t : Nat} {d r : List Nat} (h : List.range n = d ++ t :: r) : t < n /\ d.length < n := by
 refine ⟨mem_range.mp (by rw [h]; simp), ?_⟩
 have := congrArg List.length h
 rw [length_append, List.length_range, length_cons] at this
 rw [this]; exact Nat.lt_add_of_pos_right (Nat.succ_pos _)
theorem G3 {rp dn rest : RP} {x : (Int × Int) × List Int} (h : rp = dn ++ x :: rest) (hl : rp.length <= 6) : dn.length <= 5 := by
 rw [h, length_append, length_cons] at hl
 exact Nat.le_trans (Nat.le_add_right _ _) (Nat.le_of_succ_le_succ hl)
theorem N1 {c : Int} (h : 1 <= c /\ c <= 2) : c.natAbs < 4611686018427387904 /\ (c - 1).toNat = c.toNat - 1 := by
 have : c = 1 \/ c = 2 := by omega
 rcases this with rfl | rfl <;> decide
theorem N6 {α β : Type} {A : List α} {a : α} {B : List β} {f : β -> α} {n m : Nat} {c : Int} (hA : A.length <= 2 * n) (hn : n <= 4) (hB : B.length < c.toNat - 1) (hc : 1 <= c /\ c <= 2) (hm : m < c.toNat - 1) : (A ++ [a] ++ B.map f).length <= 100 /\ (1 + (m : Int)).natAbs < 2 ^ 62 := by
 have h := Int.toNat_le.mpr hc.2
 have h1 : B.length < 1 := Nat.lt_of_lt_of_le hB (Nat.sub_le_sub_right h 1)
 have h2 : m < 1 := Nat.lt_of_lt_of_le hm (Nat.sub_le_sub_right h 1)
 simp only [length_append, length_map, length_singleton]
 rw [Nat.lt_one_iff.mp h1, Nat.lt_one_iff.mp h2]
 exact ⟨Nat.le_trans (Nat.add_le_add_right (Nat.le_trans hA (Nat.mul_le_mul_left 2 hn)) 1) (by decide), by decide⟩
theorem N5 {α β : Type} {A A' : List α} {B : List β} {f : β -> α} {n m : Nat} (hA : A.length <= 2 * r4.length) (hA' : A'.length <= 3 * n) (hn : n <= 5) (hB : B.length < m - 1) (hm : m <= 4) : (A ++ A' ++ B.map f).length <= 100 := by
 simp only [length_append, length_map]
 exact Nat.le_trans (Nat.add_le_add (Nat.add_le_add hA (Nat.le_trans hA' (Nat.mul_le_mul_left 3 hn))) (Nat.le_trans (Nat.le_of_lt hB) (Nat.sub_le_sub_right hm 1))) (by decide)
theorem ZD {t n : Nat} (h : t < n - 1) (hn : n <= 4) : t + 1 < n /\ t < n /\ idxOf (1 + (t : Int)) n = some (t + 1) /\ idxOf (1 + (t : Int) - 1) n = some t := by
 have h1 : t + 1 < n := Nat.add_lt_of_lt_sub h
 refine ⟨h1, Nat.lt_of_succ_lt h1, ?_, ?_⟩
 ·rw [nV (by omega) (by omega) (by omega)]; congr 1; omega
 ·rw [nV (by omega) (by omega) (by omega)]; congr 1; omega
theorem a8 {n : Nat} (h : n <= 4) : n <= 1000000 /\ ((n : Nat) : Int).natAbs < 4611686018427387904 /\ ((n : Int) - 1).toNat = n - 1 := by
 refine ⟨Nat.le_trans h (by decide), Nat.lt_of_le_of_lt h (by decide), ?_⟩
 cases n with
 | zero => rfl
 | succ n => rw [Nat.add_sub_cancel, show ((n + 1 : Nat) : Int) - 1 = n from by omega]; rfl
theorem YN {l : List Int} {n : Nat} {x : Int} (h : l.length <= 4) : ((l.take n).count x : Int).natAbs < 2 ^ 62 :=
 Nat.lt_of_le_of_lt (Nat.le_trans List.count_le_length (Nat.le_trans (List.length_take_le' n l) h)) (by decide)
noncomputable def E7 (h : AH) (cs : List Int) (dn : RP) (row : List Int) (r : Nat) (items : List AV) (st : AS) : Prop := ∃ d2 rs : List Nat, List.range (row.length - 1) = d2 ++ rs /\ items = rs.map (fun (t : Nat) => AV.int (1 + (t : Int))) /\ SI h st.hp (h.length + 1) h.length (h.length + 2) ((r4.flatMap (nI cs) ++ dn.flatMap fun x => tR x.2) ++ d2.map fun i => (oY row (i + 1), [oY row i])) (· = r) /\ st.hp[r]? = some (aI.list ((PS row).map AV.int), 0) /\
 st.env.lookup "sorter" = some (.ref (h.length + 1)) /\ st.env.lookup "deeds" = some (.ref r)
noncomputable def G6 (h : AH) (cs : List Int) (rp : RP) (items : List AV) (st : AS) : Prop := ∃ (dn rest : RP) (refs : List Nat), rp = dn ++ rest /\ items = refs.map .ref /\ vW h refs (rest.map (·.2)) /\ SI h st.hp (h.length + 1) h.length (h.length + 2) (r4.flatMap (nI cs) ++ dn.flatMap fun x => tR x.2) (fun zz => False) /\
 st.env.lookup "sorter" = some (.ref (h.length + 1))
noncomputable def F7 (h : AH) (cs : List Int) (dn : List Int) (i : Int) (C R : Nat) (items : List AV) (st : AS) : Prop := ∃ d2 rs : List Nat, List.range ((cn cs i).toNat - 1) = d2 ++ rs /\ items = rs.map (fun (t : Nat) => AV.int (1 + (t : Int))) /\ SI h st.hp (h.length + 1) h.length (h.length + 2) (dn.flatMap (nI cs) ++ [(i, [])] ++ d2.map fun (t : Nat) => (i + 4 * (1 + (t : Int)), [i + 4 * (1 + (t : Int)) - 4])) (fun zz => False) /\
 st.env.lookup "sorter" = some (.ref (h.length + 1)) /\ st.env.lookup "counts" = some (.ref C) /\ st.env.lookup "rows" = some (.ref R) /\ st.env.lookup "hand" = some (.int i)
noncomputable def B1 (h : AH) (cs : List Int) (C R : Nat) (items : List AV) (st : AS) : Prop := ∃ dn rest : List Int, r4 = dn ++ rest /\ items = rest.map .int /\ SI h st.hp (h.length + 1) h.length (h.length + 2) (dn.flatMap (nI cs)) (fun zz => False) /\
 st.env.lookup "sorter" = some (.ref (h.length + 1)) /\ st.env.lookup "counts" = some (.ref C) /\ st.env.lookup "rows" = some (.ref R)
theorem GS {h : AH} {R C lo : Nat} {rp : RP} {cs : List Int} {K : AV -> AH -> Prop} (iR : RL h lo R (rp.map (·.2))) (iC : IL h C cs) (hC : sF cs) (hV : ∀ x ∈ rp, jP cs x.1 x.2) (hl : rp.length <= 6)
  (k : ∀ h' s a D, SI h h' s a D (oZ rp cs) (fun zz => False) -> K (.ref s) h') : iF (zT [.ref R, .ref C]) K h := by
 refine gH (bs := [("rows", .ref R), ("counts", .ref C)]) rfl ?_
 unfold sorter.prog
 simp! [id_eq]
 refine SV fun h1 I1 => ?_
 have e4 : (4 : Int).natAbs < 4611686018427387904 := by decide
 have hrl : ∀ x ∈ rp, x.2.length <= 4 := fun x hx => (hV x hx).len hC
 simp! [hX, e4, oR]
 refine eZ (B1 h cs C R) (fun zz zz zz g hg => by cases hg) ?_ ?_ _ _ ?_
 rotate_right
 ·refine ⟨[], r4, rfl, rfl, I1, ?_⟩
  simp! [id_eq]
 ·rintro x items ⟨e, hh⟩ zI
  obtain ⟨dn, rest, h4, hi, I, e1, e2, e3⟩ := zI
  cases rest with
  | nil => cases hi
  | cons i rest =>
  rw [map_cons] at hi
  obtain ⟨rfl, rfl⟩ := List.cons.inj hi
  simp only at I e1 e2 e3
  have i4 : i ∈ r4 := by rw [h4]; simp
  have d4 : ∀ x ∈ dn, x ∈ r4 := fun x hx => by rw [h4]; simp [hx]
  have b4 := gQ.mp i4
  have c4 := hC.one i i4
  have ld := sH hC dn d4
  have ldn := i0 h4
  obtain ⟨hr, hc1⟩ := N1 c4
  simp! [e1, I.own]
  refine SI.add (preds := []) I (E4 ld ldn) oV (Nat.zero_le _) fun h2 I2 zz => ?_
  have iC2 := iC.mono I2.pre
  have e1' : (1 : Int).natAbs < 4611686018427387904 := by decide
  simp! [e2, kJ iC2 hC.len i4, hr, e1', hX]
  refine eZ (F7 h cs dn i C R) (fun zz zz zz g hg => by cases hg) ?_ ?_ _ _ ?_
  rotate_right
  ·refine ⟨[], List.range ((cn cs i).toNat - 1), rfl, ?_, by simpa using I2, ?_⟩
   ·rw [hc1]
   ·simp! [e1, e2, e3]
  ·rintro x items ⟨e', hh'⟩ zI
   obtain ⟨d2, rs, hd, hi, I, f1, f2, f3, f4⟩ := zI
   cases rs with
   | nil => cases hi
   | cons t rs =>
   rw [map_cons] at hi
   obtain ⟨rfl, rfl⟩ := List.cons.inj hi
   simp only at I f1 f2 f3 f4
   obtain ⟨lt, l2⟩ := TV hd
   obtain ⟨la, lb⟩ := N6 (a := ((i, []) : Int × List Int)) (f := fun (t : Nat) => (i + 4 * (1 + (t : Int)), [i + 4 * (1 + (t : Int)) - 4])) ld ldn l2 c4 lt
   simp! [f1, f4, CN (a := 4) (b := 1 + (t : Int)) lb, iM, rK, I.own]
   refine SI.add (preds := [i + 4 * (1 + (t : Int)) - 4]) I la (qZ (qZ oV (by simp)) (by simp)) (Nat.le_refl _) fun h3 I3 zz => ?_
   simp! [id_eq]
   refine ⟨d2 ++ [t], rs, by rw [hd]; simp, rfl, by simpa using I3, ?_⟩
   simp! [f1, f2, f3, f4]
  ·rintro ⟨e', hh'⟩ zI
   obtain ⟨d2, rs, hd, hi, I, f1, f2, f3, f4⟩ := zI
   have : rs = [] := by simpa using hi.symm
   subst this
   rw [append_nil] at hd
   subst hd
   simp only at I f1 f2 f3
   simp! [id_eq]
   refine ⟨dn ++ [i], rest, by rw [h4]; simp, rfl, ?_, ?_⟩
   ·rw [List.flatMap_append, List.flatMap_singleton]
    unfold nI at I |-
    simpa using I
   ·simp! [f1, f2, f3]
 ·rintro ⟨e, hh⟩ zI
  obtain ⟨dn, rest, h4, hi, I, e1, e2, e3⟩ := zI
  have : rest = [] := by simpa using hi.symm
  subst this
  rw [append_nil] at h4
  subst h4
  simp only at I e1 e2 e3
  have ld := sH hC r4 fun zz h => h
  have l4 : r4.length = 4 := by decide
  obtain ⟨refs, kR, eR, _, iL⟩ := iR
  have eR' := aS I.pre eR
  simp! [e3, fA, eR']
  clear I1
  refine eZ (G6 h cs rp) ?_ ?_ ?_ _ _ ?_
  rotate_right
  ·refine ⟨[], rp, refs, rfl, rfl, iL, by simpa using I, ?_⟩
   simp! [e1]
  ·rintro items ⟨e, h'⟩ zI g hg
   obtain ⟨_, _, _, _, _, _, I, _⟩ := zI
   rw [mem_singleton.mp hg]
   exact aS I.pre eR
  ·rintro x items ⟨e, h3⟩ zI
   obtain ⟨dn, rest, refs', hrp, hi, iL', I, f1⟩ := zI
   cases rest with
   | nil =>
    cases iL'
    cases hi
   | cons row rest =>
   obtain ⟨rr, rfs, rfl, ir, irs⟩ := vW.cons' iL'
   rw [map_cons] at hi
   obtain ⟨rfl, rfl⟩ := List.cons.inj hi
   simp only at I f1
   have hm : row ∈ rp := by rw [hrp]; simp
   have rl := hrl row hm
   have ldn := G3 hrp hl
   obtain ⟨ll2, ll', et⟩ := a8 rl
   have lR := zC (rp := dn) fun x hx => hrl x (by rw [hrp]; simp [hx])
   obtain ⟨kr, er⟩ := ir.mono I.pre
   simp! [AB, er, GQ]
   have p3 := I.pre
   refine c_ (β := Int × Nat) (inj := fun x => .tup [.int x.2, .int x.1]) (p := fun zz => true) (out := fun x => AV.int (x.1 + 4 * ((row.2.take x.2).count x.1 : Int))) (xs := row.2.zipIdx) (hg := fun x hx => (by rw [mem_singleton.mp hx]; exact er)) (hl := by rw [List.length_zipIdx]; omega) ?_ ?_
   ·intro x hx e' h' he' p'
    have g1 := he' "row" (by simp)
    simp! [id_eq] at g1
    have er' := aS p' er
    have hxl : x.2 < row.2.length := by
     obtain ⟨y, n⟩ := x
     have := List.mem_zipIdx hx
     simp only at this |-; omega
    have ic : IL (h' ++ [(aI.list ((row.2.take x.2).map AV.int), 0)]) h'.length (row.2.take x.2) := ⟨0, bW _ _⟩
    have cl := YN (n := x.2) (x := x.1) rl
    simp! [gJ, ne_eq, not_false_eq_true, reduceCtorEq, g1, fO, gG, jE, er', ll2, EY rl (Nat.le_of_lt hxl) (Nat.lt_of_lt_of_le hxl rl), ic.ty, sN ic, iM, CN (a := 4) cl]
    exact ⟨rfl, (he'.put (by decide)).put (by decide), p'.trans (aZ _ _)⟩
   intro h4 p4
   rw [iK, VD]
   refine Mine.gen (h4 ++ [(aI.list ((PS row.2).map AV.int), 0)]) fun H4 eH4 => ?_
   have q4 : h3 <+: H4 := eH4 ▸ jU p4 _
   have eD : H4[h4.length]? = some (aI.list ((PS row.2).map AV.int), 0) := eH4 ▸ bW _ _
   have I4 := I.prot q4 p4.length_le eD
   have e1' : (1 : Int).natAbs < 4611686018427387904 := by decide
   have ll : (PS row.2).length = row.2.length := IN _
   rw [eH4]
   simp! [tZ, eD, ll, ll', ll2, e1', hX]
   rw [et]
   refine eZ (E7 h cs dn row.2 h4.length) (fun zz zz zz g hg => by cases hg) ?_ ?_ _ _ ?_
   rotate_right
   ·refine ⟨[], List.range (row.2.length - 1), rfl, rfl, by simpa using I4, eD, ?_⟩
    simp! [f1]
   ·rintro x items ⟨e', h5⟩ zI
    obtain ⟨d2, rs, hd, hi, I, eD, g1, g2⟩ := zI
    cases rs with
    | nil => cases hi
    | cons t rs =>
    rw [map_cons] at hi
    obtain ⟨rfl, rfl⟩ := List.cons.inj hi
    simp only at I eD g1 g2
    obtain ⟨lt, l2⟩ := TV hd
    obtain ⟨t1, t2, t3, t4⟩ := ZD lt rl
    rw [<- ll] at t3 t4
    have iD : IL h5 h4.length (PS row.2) := ⟨0, eD⟩
    have x1 : oX (.ref h4.length) (.int (1 + (t : Int))) h5 = some (.int (oY row.2 (t + 1))) := jJ (j := t + 1) iD t3 (BE t1)
    have x2 : oX (.ref h4.length) (.int (1 + (t : Int) - 1)) h5 = some (.int (oY row.2 t)) := jJ (j := t) iD t4 (BE t2)
    simp! [g1, g2, x1, x2, rK, I.own]
    refine SI.add (preds := [oY row.2 t]) I (N5 ld lR ldn l2 rl) (qZ (qZ oV yL) (by simp)) (Nat.le_refl _) fun h6 I6 kp => ?_
    simp! [id_eq]
    refine ⟨d2 ++ [t], rs, by rw [hd]; simp, rfl, by simpa using I6, by rw [kp _ rfl]; exact eD, ?_⟩
    ·simp! [g1, g2]
   ·rintro ⟨e', h5⟩ zI
    obtain ⟨d2, rs, hd, hi, I, eD, g1, g2⟩ := zI
    have : rs = [] := by simpa using hi.symm
    subst this
    rw [append_nil] at hd
    subst hd
    simp only at I g1
    simp! [id_eq]
    refine ⟨dn ++ [row], rest, rfs, by rw [hrp]; simp, rfl, irs, ?_, g1⟩
    rw [List.flatMap_append, List.flatMap_singleton, <- append_assoc]
    exact I.grow (prefix_refl _)
  ·rintro ⟨e, h3⟩ zI
   obtain ⟨dn, rest, refs', hrp, hi, iL', I, f1⟩ := zI
   have : refs' = [] := by simpa using hi.symm
   subst this
   have : rest = [] := by
    cases rest with
    | nil => rfl
    | cons => cases iL'
   subst this
   rw [append_nil] at hrp
   subst hrp
   simp only at I f1
   simp! [f1]
   exact k _ _ _ _ I
theorem gP {β : Type} {gs : List (Nat × (aI × Nat))} {f : AV -> AM Unit} {tst : AM Bool} {m : AM (List AV)} (inj : β -> AV) (I : List β -> List AV -> AS -> Prop) (hg : ∀ dn acc st, I dn acc st -> ∀ x ∈ gs, st.hp[x.1]? = some x.2) :
  ∀ (rest dn : List β) (acc : List AV) (Q : List AV -> AS -> Prop) (st : AS), (∀ x ∈ rest, ∀ dn acc st, I dn acc st -> cB (f (inj x)) (HZ tst m (fun ys st' => I (dn ++ [x]) (acc ++ ys) st')) st) -> I dn acc st -> (∀ ys st', I (dn ++ rest) (acc ++ ys) st' -> Q ys st') -> cB (compLoop gs f tst m (rest.map inj)) Q st := by
 intro rest
 induction rest with
 | nil => exact fun dn acc Q st hs hI hq => ⟨hg _ _ _ hI, hq [] st (by rw [append_nil, append_nil]; exact hI)⟩
 | cons x xs ih =>
  refine fun dn acc Q st hs hI hq => ⟨hg _ _ _ hI, (f (inj x)).mono (hs x mem_cons_self dn acc st hI) fun zz st1 h1 => tst.mono h1 fun b st2 h2 => ?_⟩
  have hs' := fun y (hy : y ∈ xs) => hs y (mem_cons_of_mem _ hy)
  cases b with
  | true =>
   refine m.mono h2 fun ys st3 h3 => ?_
   refine ih (dn ++ [x]) (acc ++ ys) _ st3 hs' h3 fun zs st4 h4 => ?_
   refine hq _ _ ?_
   rw [append_assoc, append_assoc] at h4
   exact h4
  | false =>
   refine ih (dn ++ [x]) (acc ++ []) _ st2 hs' h2 fun ys st4 h4 => ?_
   refine hq _ _ ?_
   rw [append_assoc, append_nil] at h4
   exact h4
abbrev NL := List (Nat × List Int)
noncomputable def PL (h : AH) (ps : NL) : Prop := ∀ p ∈ ps, IL h p.1 p.2
theorem vW.pl {h : AH} {refs : List Nat} {xss : List (List Int)} (i : vW h refs xss) : ∃ ps : NL, refs = ps.map (·.1) /\ xss = ps.map (·.2) /\ PL h ps := by
 induction i with
 | nil => exact ⟨[], rfl, rfl, fun zz h => absurd h not_mem_nil⟩
 | @cons r xs _ _ a _ ih =>
  obtain ⟨ps, rfl, rfl, h1⟩ := ih
  exact ⟨(r, xs) :: ps, rfl, rfl, fun p hp => (mem_cons.mp hp).elim (fun e => e ▸ a) (h1 p)⟩
theorem PL.ils {h : AH} {ps : NL} : PL h ps -> vW h (ps.map (·.1)) (ps.map (·.2)) := by
 induction ps with
 | nil => exact fun zz => .nil
 | cons p ps ih => exact fun i => .cons (i p mem_cons_self) (ih fun q hq => i q (mem_cons_of_mem _ hq))
theorem PL.data {h : AH} {ps : NL} (n : Nat) : PL h ps -> tY (jB h (n + 2)) (ps.map fun p => AV.ref p.1) = some (ps.map fun p => LI p.2) := by
 induction ps with
 | nil => exact fun zz => rfl
 | cons p ps ih =>
  intro i
  rw [map_cons, yE, qD n (i p mem_cons_self), ih fun q hq => i q (mem_cons_of_mem _ hq)]; rfl
theorem PL.mono {h h' : AH} {ps : NL} (i : PL h ps) (p : h <+: h') : PL h' ps := fun q hq => (i q hq).mono p
theorem PL.eq0 {h : AH} {ps : NL} (i : PL h ps) : EL (.ref h.length) (.ref (h.length + 1)) (h ++ [(.list (ps.map fun p => AV.ref p.1), 0), (.list [], 0)]) = some (decide (ps = [])) := by
 have e1 := vB (n := 7) (bW h [(aI.list (ps.map fun p => AV.ref p.1), 0), (aI.list [], 0)])
 have e2 := vB (n := 7) (eJ h [(aI.list (ps.map fun p => AV.ref p.1), 0), (aI.list [], 0)] 1)
 unfold EL
 rw [e1, e2, PL.data 5 (i.mono (aZ _ _))]
 cases ps <;> rfl
theorem SZ (T : List (List Int)) : PyData.eqvAll (T.map LI) (T.map LI) = true := by
 induction T with
 | nil => rfl
 | cons t T ih =>
  rw [map_cons]
  show (PyData.eqv (LI t) (LI t) && PyData.eqvAll (T.map LI) (T.map LI)) = true
  rw [ih, Bool.and_true]
  show PyData.eqvAll (t.map .int) (t.map .int) = true
  rw [uT]; exact decide_eq_true rfl
theorem tK {xs : List Int} (h : xs.length <= 4) : pickL (xs.map AV.int) (some 1) none none = (xs.drop 1).map .int := by
 refine EA (P := fun xs => pickL (xs.map AV.int) (some 1) none none = (xs.drop 1).map .int) ?_ ?_ ?_ ?_ ?_ h <;> (intros; kernel_rfl)
theorem JW {xs : List Int} (h : xs.length <= 4) : pickL (xs.map AV.int) none none (some (-1)) = xs.reverse.map .int := by
 refine EA (P := fun xs => pickL (xs.map AV.int) none none (some (-1)) = (xs.reverse).map .int) ?_ ?_ ?_ ?_ ?_ h <;> (intros; kernel_rfl)
theorem EB {xs : List Int} (h : xs.length <= 4) : pickL (xs.map AV.int) none (some 1) none = (xs.take 1).map .int := by
 refine EA (P := fun xs => pickL (xs.map AV.int) none (some 1) none = (xs.take 1).map .int) ?_ ?_ ?_ ?_ ?_ h <;> (intros; kernel_rfl)
theorem RF (k : Int) (row : List Int) : (pop k row).length <= row.length := by
 unfold pop
 split
 ·rw [List.length_drop]; exact Nat.sub_le _ _
 ·exact Nat.le_refl _
theorem G_ {L : List Int} : ∀ row : List Int, (qr row L).length <= row.length := by
 unfold qr
 induction L with
 | nil => exact fun zz => Nat.le_refl _
 | cons k L ih => exact fun row => Nat.le_trans (ih (pop k row)) (RF k row)
noncomputable def TN (pk : Int) (w : List Int) : Int := if pk = 0 then w.head?.getD 0 else w.getLast?.getD 0
theorem zR {pk : Int} {w : List Int} (h : pk = 0 \/ pk = -1) (hw : w ≠ []) (hl : w.length <= 4) : (∃ j, idxOf pk w.length = some j /\ w[j]? = some (TN pk w)) /\ TN pk w ∈ w := by
 have : w.length = 1 \/ w.length = 2 \/ w.length = 3 \/ w.length = 4 := by
  have := List.length_pos_iff.mpr hw; omega
 rcases h with rfl | rfl
 ·cases w with
  | nil => exact absurd rfl hw
  | cons a w => exact ⟨⟨0, by unfold idxOf; rw [if_pos (by decide), if_pos ⟨by rw [length_cons]; omega, by omega⟩]; rfl, rfl⟩, mem_cons_self⟩
 ·obtain ⟨w, x, rfl⟩ := (u_ w).resolve_left hw
  have e : TN (-1) (w ++ [x]) = x := by
   unfold TN
   rw [if_neg (by decide), List.getLast?_append]; rfl
  rw [e]
  rw [length_append, length_singleton] at hl
  refine ⟨⟨w.length, ?_, by rw [getElem?_append_right (Nat.le_refl _), Nat.sub_self]; rfl⟩, by simp⟩
  rw [length_append, length_singleton]
  have : w.length = 0 \/ w.length = 1 \/ w.length = 2 \/ w.length = 3 := by omega
  rcases this with e | e | e | e <;> rw [e] <;> decide
section
variable {rp : RP} {cs : List Int} {pk : Int}
noncomputable def nD (rp : RP) (cs : List Int) (pk : Int) (n : Nat) : List (List Int) × List Int := Nat.rec ([], []) (fun zz p => (p.1 ++ [av rp cs p.2], p.2 ++ [TN pk (av rp cs p.2)])) n
theorem vU (n : Nat) : nD rp cs pk (n + 1) = ((nD rp cs pk n).1 ++ [av rp cs (nD rp cs pk n).2], (nD rp cs pk n).2 ++ [TN pk (av rp cs (nD rp cs pk n).2)]) := rfl
structure At (rp : RP) (cs : List Int) (pk : Int) (n : Nat) : Prop where
 lg : Lg rp cs (nD rp cs pk n).2
 bf : ∀ m, m < n -> av rp cs (nD rp cs pk m).2 ≠ []
theorem BF (L : List Int) : (av rp cs L).length <= 4 := by
 unfold av
 exact Nat.le_trans (length_filter_le _ _) (length_filter_le _ _)
theorem At.zero : At rp cs pk 0 := ⟨.nil, fun zz h => absurd h (Nat.not_lt_zero _)⟩
theorem At.step {n : Nat} (a : At rp cs pk n) (hp : pk = 0 \/ pk = -1) (hn : av rp cs (nD rp cs pk n).2 ≠ []) : At rp cs pk (n + 1) := by
 refine ⟨.snoc a.lg (zR hp hn (BF _)).2, fun m hm => ?_⟩
 rcases Nat.lt_succ_iff_lt_or_eq.mp hm with h | rfl
 ·exact a.bf m h
 ·exact hn
theorem At.one {n m : Nat} (a : At rp cs pk n) (b : At rp cs pk m) (ha : av rp cs (nD rp cs pk n).2 = []) (hb : av rp cs (nD rp cs pk m).2 = []) : n = m := by
 rcases Nat.lt_trichotomy n m with h | h | h
 ·exact absurd ha (b.bf n h)
 ·exact h
 ·exact absurd hb (a.bf m h)
theorem uP (n : Nat) : (nD rp cs pk n).2.length = n /\ (nD rp cs pk n).1.length = n := by
 induction n with
 | zero => exact ⟨rfl, rfl⟩
 | succ n ih => rw [vU, length_append, length_append, ih.1, ih.2]; exact ⟨rfl, rfl⟩
theorem B7 {L : List Int} : (∀ x ∈ L, x ∈ r4) -> L.length = L.count 0 + L.count 1 + L.count 2 + L.count 3 := by
 induction L with
 | nil => exact fun zz => rfl
 | cons x L ih =>
  intro h
  have h1 := ih fun y hy => h y (mem_cons_of_mem _ hy)
  have h2 := gQ.mp (h x mem_cons_self)
  have : x = 0 \/ x = 1 \/ x = 2 \/ x = 3 := by omega
  rw [length_cons, h1]
  rcases this with rfl | rfl | rfl | rfl <;> simp [count_cons] <;> omega
theorem Lg.len {L : List Int} (g : Lg rp cs L) (hC : sF cs) : L.length <= 8 := by
 have h1 := B7 g.sub
 have h2 := g.le hC.len fun h hh => by have := hC.one h hh; omega
 have a0 := h2 0 (by decide)
 have a1 := h2 1 (by decide)
 have a2 := h2 2 (by decide)
 have a3 := h2 3 (by decide)
 have b0 := hC.one 0 (by decide)
 have b1 := hC.one 1 (by decide)
 have b2 := hC.one 2 (by decide)
 have b3 := hC.one 3 (by decide)
 omega
theorem At.le {n : Nat} (a : At rp cs pk n) (hC : sF cs) : n <= 8 := by
 have := a.lg.len hC
 rw [(uP n).1] at this; exact this
end
noncomputable def Ou (N r : Nat) : Prop := r < N \/ N + 3 <= r
noncomputable def J_ (h : AH) (q : Nat) (xss : List (List Int)) : Prop := ∃ (ps : NL) (k : Nat), h[q]? = some (.list (ps.map fun p => AV.ref p.1), k) /\ ps.map (·.2) = xss /\ PL h ps
noncomputable def QL (h : AH) (N q : Nat) (xss : List (List Int)) : Prop := ∃ (ps : NL) (k : Nat), h[q]? = some (.list (ps.map fun p => AV.ref p.1), k) /\ ps.map (·.2) = xss /\ PL h ps /\ (∀ p ∈ ps, Ou N p.1) /\ Ou N q
section
variable {h h' : AH} {N q R : Nat} {xss : List (List Int)}
theorem RL.nls {lo : Nat} (i : RL h lo R xss) : J_ h R xss := by
 obtain ⟨refs, k, e, _, is⟩ := i
 obtain ⟨ps, rfl, rfl, pl⟩ := is.pl
 rw [map_map] at e
 exact ⟨ps, k, e, rfl, pl⟩
theorem QL.nls (i : QL h N q xss) : J_ h q xss := by
 obtain ⟨ps, k, e, e', pl, _⟩ := i
 exact ⟨ps, k, e, e', pl⟩
theorem J_.mono (i : J_ h q xss) (p : h <+: h') : J_ h' q xss := by
 obtain ⟨ps, k, e, e', pl⟩ := i
 exact ⟨ps, k, aS p e, e', pl.mono p⟩
theorem QL.mono (i : QL h N q xss) (p : h <+: h') : QL h' N q xss := by
 obtain ⟨ps, k, e, e', pl, o⟩ := i
 exact ⟨ps, k, aS p e, e', pl.mono p, o⟩
theorem QL.set (i : QL h N q xss) {j : Nat} {x : aI × Nat} (hj : ¬ Ou N j) : QL (h.set j x) N q xss := by
 obtain ⟨ps, k, e, e', pl, o1, o2⟩ := i
 exact ⟨ps, k, by rw [bN fun z : j = q => hj (by rw [z]; exact o2)]; exact e, e', fun p hp => (pl p hp).set fun z => hj (by rw [z]; exact o1 p hp), o1, o2⟩
theorem J_.data (i : J_ h q xss) : jB h 8 (.ref q) = some (.list (xss.map LI)) := by
 obtain ⟨ps, k, e, rfl, pl⟩ := i
 rw [vB e, PL.data 5 pl, map_map]; rfl
theorem J_.eqv {q' : Nat} (i : J_ h q xss) (j : J_ h q' xss) : EL (.ref q) (.ref q') h = some true := by
 unfold EL
 rw [i.data, j.data]
 show some (PyData.eqvAll (xss.map LI) (xss.map LI)) = _
 rw [SZ]
end
theorem RB {ps : NL} {f : List Int -> Bool} : decide ((ps.map (·.2)).filter f = []) = decide (ps.filter (fun p => f p.2) = []) := by
 rw [List.filter_map]
 refine decide_eq_decide.mpr ?_
 rw [List.map_eq_nil_iff]; rfl
theorem YC {x y : Int} {r : List Int} : ES x (y :: r) = (r.contains x && !decide (y = x)) := by
 unfold ES
 rw [List.drop_succ_cons, List.drop_zero, List.head?_cons]
 congr 2
 exact decide_eq_decide.mpr Option.some_inj
theorem YL {x : Int} {r : List Int} (h : (r.drop 1).contains x = false) : ES x r = false := by
 unfold ES; rw [h]; rfl
noncomputable def E3 (h : AH) (rp : RP) (cs : List Int) (pk : Int) (N : Nat) (n : Nat) (st : AS) : Prop := ∃ m q, n + m = 9 /\ At rp cs pk m /\ IL st.hp N (lf cs (nD rp cs pk m).2) /\ IL st.hp (N + 1) (nD rp cs pk m).2 /\ RL st.hp (N + 3) (N + 2) (nD rp cs pk m).1 /\ QL st.hp N q (rp.map fun x => qr x.2 (nD rp cs pk m).2) /\ h <+: st.hp /\ N + 3 <= st.hp.length /\
 st.env.lookup "queues" = some (.ref q) /\ st.env.lookup "left" = some (.ref N) /\ st.env.lookup "log" = some (.ref (N + 1)) /\ st.env.lookup "turns" = some (.ref (N + 2)) /\ st.env.lookup "pick" = some (.int pk)
noncomputable def D9 (H9 : AH) (N : Nat) (kk pk : Int) (hn : Nat) (dn : List (Nat × List Int)) (acc : List AV) (st : AS) : Prop := ∃ ps' : NL, acc = ps'.map (fun p => AV.ref p.1) /\ ps'.map (·.2) = dn.map (fun p => pop kk p.2) /\ PL st.hp ps' /\ (∀ p ∈ ps', Ou N p.1) /\ H9 <+: st.hp /\ st.env.lookup "hands" = some (.ref hn) /\ st.env.lookup "pick" = some (.int pk)
theorem FF {h : AH} {R C lo : Nat} {rp : RP} {cs : List Int} {pk : Int} {K : AV -> AH -> Prop} (iR : RL h lo R (rp.map (·.2))) (iC : IL h C cs) (hC : sF cs) (hrl : ∀ x ∈ rp, x.2.length <= 4) (hl : rp.length <= 6) (hp : pk = 0 \/ pk = -1)
  (k : ∀ h' t l q f n, h <+: h' -> At rp cs pk n -> av rp cs (nD rp cs pk n).2 = [] -> J_ h' t (nD rp cs pk n).1 -> IL h' l (nD rp cs pk n).2 -> J_ h' q (rp.map fun x => qr x.2 (nD rp cs pk n).2) -> IL h' f (lf cs (nD rp cs pk n).2) -> K (.tup [.ref t, .ref l, .ref q, .ref f]) h') : iF (AR [.ref R, .ref C, .int pk]) K h := by
 refine gH (bs := [("rows", .ref R), ("counts", .ref C), ("pick", .int pk)]) rfl ?_
 unfold queued.prog
 obtain ⟨ps0, kR, eR, e0, pl0⟩ := iR.nls
 have l0 : ps0.length <= 6 := by
  have := congrArg List.length e0
  rw [length_map, length_map] at this; omega
 have le0 : ∀ p ∈ ps0, p.2.length <= 4 := fun p hp => by
  have : p.2 ∈ rp.map (·.2) := e0 ▸ mem_map.mpr ⟨p, hp, rfl⟩
  obtain ⟨x, hx, e⟩ := mem_map.mp this
  rw [<- e]; exact hrl x hx
 simp! [fA, eR]
 refine gP (inj := fun p : Nat × List Int => AV.ref p.1) (fun dn acc st => ∃ ps : NL, acc = ps.map (fun p => AV.ref p.1) /\ ps.map (·.2) = dn.map (·.2) /\ PL st.hp ps /\ (∀ p ∈ ps, p.1 < st.hp.length) /\ h <+: st.hp) (fun dn acc st zI x hx => ?_) ps0 [] [] _ _ ?_ ?_ ?_
 ·obtain ⟨_, _, _, _, _, p⟩ := zI
  rw [mem_singleton.mp hx]; exact aS p eR
 ·rintro p hp dn acc ⟨e', h'⟩ zI
  obtain ⟨ps, rfl, e2, pl, lt, p'⟩ := zI
  simp only at pl lt p'
  obtain ⟨kp, ep⟩ := (pl0 p hp).mono p'
  have lp := le0 p hp
  simp! [qI ep (by rw [length_map]; omega)]
  refine ⟨ps ++ [(h'.length, p.2)], by simp, by simp [e2], fun x hx => ?_, fun x hx => ?_, p'.trans (aZ _ _)⟩
  ·rcases mem_append.mp hx with hx | hx
   ·exact (pl x hx).mono (aZ _ _)
   ·rw [mem_singleton.mp hx]; exact ⟨0, bW _ _⟩
  ·rcases mem_append.mp hx with hx | hx
   ·have := lt x hx; omega
   ·rw [mem_singleton.mp hx]; omega
 ·exact ⟨[], rfl, rfl, fun x hx => absurd hx not_mem_nil, fun x hx => absurd hx not_mem_nil, prefix_refl _⟩
 rintro ys ⟨e1, h1⟩ zI
 obtain ⟨ps, hy, e2, pl, lt, p1⟩ := zI
 rw [nil_append] at hy e2
 subst hy
 simp only at pl lt p1
 have l2 : ps.length <= 6 := by
  have := congrArg List.length e2
  rw [length_map, length_map] at this; omega
 refine ⟨by rw [length_map]; omega, ?_⟩
 obtain ⟨kC, eC⟩ := iC.mono (p1.trans (aZ h1 [(aI.list (ps.map fun p => AV.ref p.1), 0)]))
 have hcl := hC.len
 simp! [qI eC (by rw [length_map]; omega)]
 refine Mine.gen (h1.length + 1) fun N eN => ?_
 refine lX (E3 h rp cs pk N) ?_ 9 _ ?_
 rotate_left
 ·refine ⟨0, h1.length, rfl, .zero, ?_, ?_, ?_, ?_, p1.trans (aZ _ _), ?_, ?_⟩
  ·subst eN; exact ⟨0, eJ _ _ 1⟩
  ·subst eN; exact ⟨0, eJ _ _ 2⟩
  ·subst eN; exact ⟨[], 0, eJ _ _ 3, ⟨not_mem_nil, fun zz h => absurd h not_mem_nil⟩, .nil⟩
  ·refine ⟨ps, 0, bW _ _, ?_, pl.mono (aZ _ _), fun p hp => .inl ?_, .inl ?_⟩
   ·rw [e2, e0]; rfl
   ·have := lt p hp; omega
   ·omega
  ·show N + 3 <= (h1 ++ _).length
   rw [length_append]; simp only [length_cons, length_nil]; omega
  ·subst eN
   simp! [id_eq]
 rintro n ⟨e, h2⟩ zI2
 obtain ⟨m, q, hn, A, iL, iG, iT, iQ, p2, N3, f1, f2, f3, f4, f5⟩ := zI2
 simp only at iL iG iT iQ p2 N3 f1 f2 f3 f4 f5
 have m8 := A.le hC
 have cl := uP (rp := rp) (cs := cs) (pk := pk) m
 generalize eL : (nD rp cs pk m).2 = L at iL iG iQ cl
 generalize eT : (nD rp cs pk m).1 = T at iT cl
 have lL : (lf cs L).length = 4 := by rw [FN]; exact hC.len
 have e4 : (4 : Int).natAbs < 4611686018427387904 := by decide
 simp! [dJ, hX, e4, oR]
 refine c_ (β := Int) (inj := .int) (p := fun x => decide (cn (lf cs L) x > 0)) (out := .int) (xs := r4) (hg := fun x hx => (by cases hx)) (hl := by decide) ?_ ?_
 ·intro x hx e' h' he' p'
  have g1 := he' "left" (by simp)
  simp! [g1, f2, kJ (iL.mono p') lL hx]
  cases hc : decide (cn (lf cs L) x > 0) <;> simp! [id_eq] <;> exact ⟨rfl, he'.put (by decide), p'⟩
 intro h3 p3
 refine Mine.gen (r4.filter fun x => decide (cn (lf cs L) x > 0)) fun w1 ew1 => ?_
 rw [ew1]
 refine Mine.gen (h3 ++ [(aI.list (w1.map AV.int), 0)]) fun H3 eH3 => ?_
 have q3 : h2 <+: H3 := eH3 ▸ jU p3 _
 have gw1 : H3[h3.length]? = some (aI.list (w1.map AV.int), 0) := eH3 ▸ bW _ _
 have w1l : w1.length <= 4 := by rw [<- ew1]; exact length_filter_le _ _
 rw [eH3]
 simp! [fA, gw1]
 obtain ⟨ps, kq, eq, eps, plq, oq, oq'⟩ := iQ.mono q3
 have lps : ps.length <= 6 := by
  have := congrArg List.length eps
  rw [length_map, length_map] at this; omega
 have leq : ∀ p ∈ ps, p.2.length <= 4 := fun p hp => by
  have : p.2 ∈ rp.map fun x => qr x.2 L := eps ▸ mem_map.mpr ⟨p, hp, rfl⟩
  obtain ⟨x, hx, e⟩ := mem_map.mp this
  rw [<- e]; exact Nat.le_trans (G_ _) (hrl x hx)
 refine c_ (β := Int) (inj := .int) (p := fun x => decide (((rp.map fun y => qr y.2 L).filter (ES x)) = [])) (out := .int) (xs := w1) (hg := fun x hx => (by rw [mem_singleton.mp hx]; exact gw1)) (hl := by omega) ?_ ?_
 ·intro x hx e' h' he' p'
  have g1 := he' "queues" (by simp)
  simp! [id_eq] at g1
  have eq' := aS p' eq
  have plq' := plq.mono p'
  simp! [g1, f1, fA, eq']
  refine c_ (β := Nat × List Int) (inj := fun p => AV.ref p.1) (p := fun p => ES x p.2) (out := fun p => AV.ref p.1) (xs := ps) (hg := fun x hx => (by rw [mem_singleton.mp hx]; exact eq')) (hl := by omega) ?_ ?_
  ·intro p hp e'' h'' he'' p''
   have g2 := he'' "hand" (by simp)
   simp! [id_eq] at g2
   have ip := (plq' p hp).mono p''
   have lp := leq p hp
   obtain ⟨kp, ep⟩ := ip
   have lp' : p.2.length <= 1000000 := by omega
   have ic : IL (h'' ++ [(aI.list ((p.2.drop 1).map AV.int), 0)]) h''.length (p.2.drop 1) := ⟨0, bW _ _⟩
   have ip' : IL (h'' ++ [(aI.list ((p.2.drop 1).map AV.int), 0)]) p.1 p.2 := IL.mono ⟨kp, ep⟩ (aZ _ _)
   simp! [gJ, ne_eq, not_false_eq_true, reduceCtorEq, g2, fO, gG, jE, ep, lp', tK lp, yY x ic]
   cases hb : (p.2.drop 1).contains x with
   | false =>
    simp! [YL hb]
    exact ⟨rfl, he''.put (by decide), p''.trans (aZ _ _)⟩
   | true =>
    cases hrow : p.2 with
    | nil => rw [hrow] at hb; cases hb
    | cons y r =>
    rw [hrow] at ip' hb
    have x0 := jJ (i := 0) (j := 0) (y := y) ip' (nV (Int.le_refl _) (by rw [length_cons]; omega) (by rw [<- hrow]; exact lp')) rfl
    have hb : r.contains x = true := hb
    simp! [x0, g2, mP, YC, hb, Bool.true_and]
    cases hd : decide (y = x) <;> simp! [Bool.not_true, Bool.not_false] <;> exact ⟨rfl, he''.put (by decide), p''.trans (aZ _ _)⟩
  intro h4 p4
  simp! [PL.eq0 (fun p hp => (plq'.mono p4) p (mem_filter.mp hp).1)]
  rw [<- eps, RB]
  have p5 : H3 <+: h4 ++ [(aI.list ((ps.filter fun p => ES x p.2).map fun p => AV.ref p.1), 0), (aI.list [], 0)] := (p'.trans p4).trans (aZ _ _)
  cases hd : decide (ps.filter (fun p => ES x p.2) = []) <;> simp! [id_eq] <;> exact ⟨rfl, he'.put (by decide), p5⟩
 intro h5 p5
 refine Mine.gen (w1.filter fun x => decide (((rp.map fun y => qr y.2 L).filter (ES x)) = [])) fun w ew => ?_
 rw [ew]
 have wa : av rp cs L = w := by rw [<- ew, <- ew1]; rfl
 have wl : w.length <= 4 := by rw [<- wa]; exact BF L
 refine Mine.gen (h5 ++ [(aI.list (w.map AV.int), 0)]) fun H5 eH5 => ?_
 have q5 : h2 <+: H5 := q3.trans (eH5 ▸ jU p5 _)
 have iw : IL H5 h5.length w := ⟨0, eH5 ▸ bW _ _⟩
 rw [eH5]
 have iw0 : IL (H5 ++ [(aI.list [], 0)]) h5.length w := iw.mono (aZ _ _)
 have in0 : IL (H5 ++ [(aI.list [], 0)]) H5.length [] := ⟨0, bW _ _⟩
 simp! [lC iw0 in0]
 by_cases hw : w = []
 ·simp! [decide_eq_true hw, f1, f2, f3, f4]
  have p6 := q5.trans (aZ H5 [(aI.list [], 0)])
  refine k _ _ _ _ _ m (p2.trans p6) A (by rw [eL, wa]; exact hw) ?_ ?_ ?_ ?_
  ·rw [eT]; exact (iT.mono p6).nls
  ·rw [eL]; exact iG.mono p6
  ·rw [eL]; exact (iQ.mono p6).nls
  ·rw [eL]; exact iL.mono p6
 ·simp! [decide_eq_false hw]
  obtain ⟨⟨j, ej, wj⟩, km⟩ := zR hp hw wl
  generalize ekk : TN pk w = kk at wj km
  have k4 : kk ∈ r4 := (lO.mp (by rw [wa]; exact km)).1
  have b4 := gQ.mp k4
  have q6 : h2 <+: H5 ++ [(aI.list [], 0)] := q5.trans (aZ _ _)
  have h53 : N + 3 <= h5.length := by have := q3.length_le; have := p5.length_le; omega
  have iT6 := iT.mono q6
  have iG6 := iG.mono q6
  have iL6 := iL.mono q6
  have iQ6 := iQ.mono q6
  have lq6 := q6.length_le
  have p26 := p2.trans q6
  refine Mine.gen (H5 ++ [(aI.list [], 0)]) fun H6 eH6 => ?_
  rw [eH6] at iw0 in0 iT6 iG6 iL6 iQ6 lq6 p26 |-
  have ty6 : lW (.ref (N + 2)) H6 = some "list" := by obtain ⟨_, _, e, _⟩ := iT6; exact jL e
  obtain ⟨H7, e7, iT7, same7, l7, o7, k7, g7, eH7⟩ := iT6.snoc iw0 (by omega) h53 (by omega)
  have iw7 : IL H7 h5.length w := iw0.same (same7 _ (by omega))
  have iG7 : IL H7 (N + 1) L := iG6.same (same7 _ (by omega))
  have iL7 : IL H7 N (lf cs L) := iL6.same (same7 _ (by omega))
  have iQ7 : QL H7 N q (rp.map fun x => qr x.2 L) := by
   rw [eH7]; exact iQ6.set (by unfold Ou; omega)
  have x7 := jJ iw7 ej wj
  have hN : h.length <= N := by have := p1.length_le; omega
  have p27 : h <+: H7 := fU p26 fun i hi => same7 i (by omega)
  clear eH7 same7 g7
  obtain ⟨H8, e8, iG8, o8, eH8⟩ := uK (y := kk) iG7 (by omega)
  have iw8 : IL H8 h5.length w := by rw [eH8]; exact iw7.set (by omega)
  have iL8 : IL H8 N (lf cs L) := by rw [eH8]; exact iL7.set (by omega)
  have iQ8 : QL H8 N q (rp.map fun x => qr x.2 L) := by rw [eH8]; exact iQ7.set (by unfold Ou; omega)
  have iT8 : RL H8 (N + 3) (N + 2) (T ++ [w]) := by rw [eH8]; exact iT7.set (by omega) (by omega)
  have p28 : h <+: H8 := by rw [eH8]; exact f_ p27 (by omega)
  have l8 : H8.length = H7.length := by rw [eH8]; exact length_set
  clear eH8
  have x8 := jJ iw8 ej wj
  have xL8 := kJ iL8 lL k4
  have hzz : 0 <= kk /\ kk < ((lf cs L).map AV.int).length /\ ((lf cs L).map AV.int).length <= 1000000 := by rw [length_map, lL]; omega
  obtain ⟨kL, eL8⟩ := iL8
  simp! [f1, f2, f3, f4, f5, ty6, e7, iG7.ty, x7, e8, x8, xL8, rK, JL eL8 hzz]
  have lt8 := bR eL8
  refine Mine.gen (H8.set N (aI.list (((lf cs L).map AV.int).set kk.toNat (.int (cn (lf cs L) kk - 1))), kL + 1)) fun H9 eH9 => ?_
  have iL9 : IL H9 N (lf cs (L ++ [kk])) := ⟨kL + 1, by rw [<- eH9, eP lt8, QT, List.map_set]⟩
  have iw9 : IL H9 h5.length w := by rw [<- eH9]; exact iw8.set (by omega)
  have iG9 : IL H9 (N + 1) (L ++ [kk]) := by rw [<- eH9]; exact iG8.set (by omega)
  have iT9 : RL H9 (N + 3) (N + 2) (T ++ [w]) := by rw [<- eH9]; exact iT8.set (by omega) (by omega)
  have iQ9 : QL H9 N q (rp.map fun x => qr x.2 L) := by rw [<- eH9]; exact iQ8.set (by unfold Ou; omega)
  have p29 : h <+: H9 := by rw [<- eH9]; exact f_ p28 (by omega)
  have l9 : H9.length = H8.length := by rw [<- eH9]; exact length_set
  rw [eH9]
  clear eH9 eL8 iL7 iQ7 iG7 iw7 iw8 iG8 iT8 iQ8 iT7 plq eq leq lps oq eps ps
  obtain ⟨ps, kq, eq, eps, plq, oq, oq'⟩ := iQ9
  have lps : ps.length <= 6 := by
   have := congrArg List.length eps
   rw [length_map, length_map] at this; omega
  have leq : ∀ p ∈ ps, p.2.length <= 4 := fun p hp => by
   have : p.2 ∈ rp.map fun x => qr x.2 L := eps ▸ mem_map.mpr ⟨p, hp, rfl⟩
   obtain ⟨x, hx, e⟩ := mem_map.mp this
   rw [<- e]; exact Nat.le_trans (G_ _) (hrl x hx)
  simp! [fA, eq]
  refine gP (inj := fun p : Nat × List Int => AV.ref p.1) (D9 H9 N kk pk h5.length) (fun dn acc st zI x hx => ?_) ps [] [] _ _ ?_ ?_ ?_
  ·obtain ⟨_, _, _, _, _, p, _⟩ := zI
   rw [mem_singleton.mp hx]; exact aS p eq
  ·rintro p hpp dn acc ⟨e', h'⟩ zI
   obtain ⟨ps', rfl, e2, pl, ou, p', g1, g2⟩ := zI
   simp only at pl p' g1 g2
   have ip := (plq p hpp).mono p'
   have lp := leq p hpp
   have lp' : p.2.length <= 1000000 := by omega
   obtain ⟨kp, ep⟩ := ip
   have op := oq p hpp
   have pA := aZ h' [(aI.list ((p.2.take 1).map AV.int), 0)]
   have pB := aZ h' [(aI.list ((p.2.take 1).map AV.int), 0), (aI.list [AV.int kk], 0)]
   have pC := aZ h' [(aI.list ((p.2.take 1).map AV.int), 0), (aI.list [AV.int kk], 0), (aI.list ((p.2.drop 1).map AV.int), 0)]
   have xk := jJ ((iw9.mono p').mono pA) ej wj
   have it : IL (h' ++ [(aI.list ((p.2.take 1).map AV.int), 0), (aI.list [AV.int kk], 0)]) h'.length (p.2.take 1) := ⟨0, bW _ _⟩
   have ik : IL (h' ++ [(aI.list ((p.2.take 1).map AV.int), 0), (aI.list [AV.int kk], 0)]) (h'.length + 1) [kk] := ⟨0, eJ _ _ 1⟩
   have lh' := p'.length_le
   simp! [gJ, ne_eq, not_false_eq_true, reduceCtorEq, fO, gG, jE, ep, lp', EB lp, g1, g2, xk, lC it ik]
   cases hd : decide (p.2.take 1 = [kk]) with
   | true =>
    have epB := aS pB ep
    simp! [gJ, ne_eq, not_false_eq_true, reduceCtorEq, fO, gG, jE, epB, lp', tK lp]
    refine ⟨ps' ++ [(h'.length + 2, p.2.drop 1)], by simp, ?_, fun x hx => ?_, fun x hx => ?_, p'.trans pC, ?_⟩
    ·rw [map_append, map_append, e2]
     congr 1
     show [_] = [pop kk p.2]
     unfold pop
     rw [if_pos (of_decide_eq_true hd)]
    ·rcases mem_append.mp hx with hx | hx
     ·exact (pl x hx).mono pC
     ·rw [mem_singleton.mp hx]; exact ⟨0, eJ _ _ 2⟩
    ·rcases mem_append.mp hx with hx | hx
     ·exact ou x hx
     ·rw [mem_singleton.mp hx]; unfold Ou; simp only; omega
    ·simp! [g1, g2]
   | false =>
    simp! [id_eq]
    refine ⟨ps' ++ [p], by simp, ?_, fun x hx => ?_, fun x hx => ?_, p'.trans pB, ?_⟩
    ·rw [map_append, map_append, e2]
     congr 1
     show [_] = [pop kk p.2]
     unfold pop
     rw [if_neg (of_decide_eq_false hd)]
    ·rcases mem_append.mp hx with hx | hx
     ·exact (pl x hx).mono pB
     ·rw [mem_singleton.mp hx]; exact IL.mono ⟨kp, ep⟩ pB
    ·rcases mem_append.mp hx with hx | hx
     ·exact ou x hx
     ·rw [mem_singleton.mp hx]; exact op
    ·simp! [g1, g2]
  ·refine ⟨[], rfl, rfl, fun x hx => absurd hx not_mem_nil, fun x hx => absurd hx not_mem_nil, prefix_refl _, ?_, ?_⟩
   ·rw [fC _ _ (by simp)]; simp! [id_eq]
   ·rw [fC _ _ (by simp)]; simp! [f5]
  rintro ys ⟨e', h6⟩ zI
  obtain ⟨ps', hy, e2, pl, ou, p6, _⟩ := zI
  rw [nil_append] at hy e2
  subst hy
  simp only at pl p6
  have lps' : ps'.length <= 6 := by
   have := congrArg List.length e2
   rw [length_map, length_map] at this; omega
  have pD := p6.trans (aZ h6 [(aI.list (ps'.map fun p => AV.ref p.1), 0)])
  have l6 := p6.length_le
  refine ⟨by rw [length_map]; omega, ?_⟩
  simp! [id_eq]
  have ec : nD rp cs pk (m + 1) = (T ++ [w], L ++ [kk]) := by rw [vU, eL, eT, wa, ekk]
  refine ⟨n - 1, by omega, m + 1, h6.length, by omega, A.step hp (by rw [eL, wa]; exact hw), ?_, ?_, ?_, ?_, p29.trans pD, ?_, ?_⟩
  ·rw [ec]; exact iL9.mono pD
  ·rw [ec]; exact iG9.mono pD
  ·rw [ec]; exact iT9.mono pD
  ·rw [ec]
   refine ⟨ps', 0, bW _ _, ?_, pl.mono (aZ _ _), ou, by unfold Ou; omega⟩
   rw [e2]
   have : (ps.map (·.2)).map (pop kk) = (rp.map fun x => qr x.2 L).map (pop kk) := by rw [eps]
   rw [map_map, map_map] at this
   refine this.trans ?_
   simp only [IS]; rfl
  ·show N + 3 <= (h6 ++ _).length
   rw [length_append]; omega
  ·simp! [f2, f3, f4, f5]
theorem L7 (x : Int) : x.fmod 4 = x % 4 := Int.fmod_eq_emod_of_nonneg x (by decide)
theorem LS.deed {rp : RP} {cs ks L W : List Int} {np np0 : Int -> Int} {su nd : Int -> List Int} (hc : cs.length = 4) (g : Lg rp cs L) (G : DW rp cs ks np0 su nd) (hV : ∀ x ∈ rp, jP cs x.1 x.2) (S : LS cs ks nd L W np) {k : Int} (hk : k ∈ av rp cs L) :
  k + 4 * (L.count k : Int) ∈ W /\ ∃ r, W.filter (fun x => decide (x % 4 = k)) = (k + 4 * (L.count k : Int)) :: r := by
 have hm := S.mem' hc g G hV
 obtain ⟨s1, s2⟩ := k_ (lO.mp hk).1 (L.count k)
 have hd : k + 4 * (L.count k : Int) ∈ W := (hm _).mpr ⟨by rw [s1]; exact hk, by rw [s1]⟩
 refine ⟨hd, ?_⟩
 have hf : k + 4 * (L.count k : Int) ∈ W.filter (fun x => decide (x % 4 = k)) := mem_filter.mpr ⟨hd, decide_eq_true s1⟩
 have all : ∀ x ∈ W.filter (fun x => decide (x % 4 = k)), x = k + 4 * (L.count k : Int) := fun x hx => by
  obtain ⟨h1, h2⟩ := mem_filter.mp hx
  have h2 : x % 4 = k := of_decide_eq_true h2
  have := ((hm x).mp h1).2
  rw [h2] at this; exact this
 cases e : W.filter (fun x => decide (x % 4 = k)) with
 | nil => rw [e] at hf; cases hf
 | cons y r => exact ⟨r, by rw [all y (by rw [e]; exact mem_cons_self)]⟩
noncomputable def B9 (h h2 : AH) (rp : RP) (cs : List Int) (pk : Int) (g : Gr) (nd : Int -> List Int) (ni sr dd : Int -> Nat) (s a D R : Nat) (rg : Bool) (n : Nat) (st : AS) : Prop := ∃ m W np' w, n + m = 9 /\ At rp cs pk m /\ LS cs g.ks nd (nD rp cs pk m).2 W np' /\ sC st.hp h.length s a D R g.ks ni sr dd np' g.su [] /\ IL st.hp w W /\ IL st.hp h2.length (nD rp cs pk m).2 /\ RL st.hp (h2.length + 2) (h2.length + 1) (nD rp cs pk m).1 /\ h2.length + 2 <= w /\ h <+: st.hp /\ h2.length + 2 <= st.hp.length /\
 st.env.lookup "waiting" = some (.ref w) /\ st.env.lookup "log" = some (.ref h2.length) /\ st.env.lookup "turns" = some (.ref (h2.length + 1)) /\ st.env.lookup "sorter" = some (.ref s) /\ st.env.lookup "pick" = some (.int pk) /\ st.env.lookup "ringed" = some (.bool rg)
theorem SD {h : AH} {R C lo : Nat} {rp : RP} {cs : List Int} {pk : Int} {K : AV -> AH -> Prop} (iR : RL h lo R (rp.map (·.2))) (iC : IL h C cs) (hC : sF cs) (hV : ∀ x ∈ rp, jP cs x.1 x.2) (hl : rp.length <= 6) (hp : pk = 0 \/ pk = -1)
  (k : ∀ h' t l n b, h <+: h' -> At rp cs pk n -> av rp cs (nD rp cs pk n).2 = [] -> J_ h' t (nD rp cs pk n).1 -> IL h' l (nD rp cs pk n).2 -> (b = true ↔ ∃ x ∈ r4, ((nD rp cs pk n).2.count x : Int) < cn cs x) -> K (.tup [.bool b, .ref t, .ref l]) h') : iF (WD [.ref R, .ref C, .int pk]) K h := by
 refine gH (bs := [("rows", .ref R), ("counts", .ref C), ("pick", .int pk)]) rfl ?_
 unfold log.prog
 simp! [id_eq]
 refine GS iR iC hC hV hl fun h1 s a D I => ?_
 have hrl : ∀ x ∈ rp, x.2.length <= 4 := fun x hx => (hV x hx).len hC
 have lad : (oZ rp cs).length <= 26 := by
  have l1 := sH hC r4 fun zz h => h
  have l2 := zC hrl
  have l3 : r4.length = 4 := by decide
  unfold oZ
  rw [length_append]; omega
 obtain ⟨l1, l2⟩ := HY (oZ rp cs) (qZ oV yL)
 obtain ⟨dd0, ni, sr, dd, S0, _⟩ := I.so
 have G := G1 hC hV S0.nd
 have p1 := I.pre
 have hown := I.own
 have hown : uB "TopologicalSorter" "prepare" (.ref s) h1 = some () := S0.own (by decide) (by decide) (by decide) (by decide)
 have SG : L0 h1 h.length s a D .none 0 0 (xO (oZ rp cs)) := ⟨dd0, ni, sr, dd, S0⟩
 generalize xT (oZ rp cs) = nd at G
 refine Mine.gen (xO (oZ rp cs)) fun g eg => ?_
 rw [eg] at G SG l1 l2
 clear I S0
 have hcl : ∀ v ∈ g.ks, ∀ w ∈ g.su v, w ∈ g.ks := fun v hv w hw => by
  refine (G.vk w).mpr (Classical.byContradiction fun hn => ?_)
  have h1 := G.vs v w
  rw [G.off w hn] at h1
  have := count_pos_iff.mpr hw
  rw [h1] at this
  exact absurd this (by simp)
 have hkl : g.ks.length <= 52 := by omega
 have hsl : ∀ w, (g.su w).length <= 1000 := fun w => by have := l2 w; omega
 have rest_run : ∀ (h2 : AH) (R : Nat) (ni sr : Int -> Nat) (dd : Int -> Nat) (e2 : List (String × AV)) (rg : Bool), (rg = true -> NX g.ks g.su) -> (rg = false -> qJ g.ks g.su) -> sC h2 h.length s a D R g.ks ni sr dd g.np g.su (pL g.ks g.np) -> h <+: h2 -> h.length <= R ->
   e2.lookup "sorter" = some (.ref s) -> e2.lookup "pick" = some (.int pk) -> e2.lookup "ringed" = some (.bool rg) ->
   cB (bU (dZ "log" (gD (pure [])))
    (bU (dZ "turns" (gD (pure [])))
     (bU
      (dZ "waiting"
       (dF hY
        (aO (gR "TopologicalSorter" "get_ready" kO (aG "sorter") (pure [])) (pure []))))
      (bU
       (kY (fI kB.ne (aG "waiting") (gD (pure [])))
        (bU
         (dZ "hands"
          (dF lM
           (aO
            (fF [] (iJ (aG "waiting")) (fun v => cD "deed" v) (pure true)
             (fH (gT iZ.mod (aG "deed") (pure (AV.int 4)))))
            (pure []))))
         (bU (fP (eY "list" cW (aG "turns") (aO (aG "hands") (pure []))))
          (bU
           (fP (eY "list" cW (aG "log") (aO (iA (aG "hands") (aG "pick")) (pure []))))
           (bU
            (dZ "deed"
             (iA
              (fF ["hands", "pick"] (iJ (aG "waiting")) (fun v => cD "one" v)
               (fI kB.eq (gT iZ.mod (aG "one") (pure (AV.int 4)))
                (iA (aG "hands") (aG "pick")))
               (fH (aG "one")))
              (pure (AV.int 0))))
            (bU
             (fP
              (gR "TopologicalSorter" "done" HR (aG "sorter") (aO (aG "deed") (pure []))))
             (dZ "waiting"
              (gT iZ.add
               (dF qX
                (aO (aG "waiting") (aO (gD (aO (aG "deed") (pure []))) (pure []))))
               (dF hY
                (aO (gR "TopologicalSorter" "get_ready" kO (aG "sorter") (pure []))
                 (pure []))))))))))
        (pure aN.next))
       (lT (sJ (aO (aG "ringed") (aO (aG "turns") (aO (aG "log") (pure [])))))))))) (zB K) ⟨e2, h2⟩ := by
  intro h2 R ni sr dd e2 rg hrg1 hrg0 S2 p2 lR c1 c2 c3
  have hrl : (pL g.ks g.np).length <= 52 := Nat.le_trans (length_filter_le _ _) hkl
  have pp := aZ h2 [(aI.list [], 0), (aI.list [], 0)]
  have own2 := (S2.grow pp).own (n := "get_ready") (by decide) (by decide) (by decide) (by decide)
  have lR2 := S2.r.lt
  have srlt : ∀ v ∈ g.ks, sr v < h2.length := fun v hv => by
   obtain ⟨pa, fi, C⟩ := S2.c
   exact (C.suc v hv).lt
  simp! [c1, own2]
  refine qS (S2.grow pp) (p2.trans pp) (Nat.le_refl _) (by omega) ?_
  intro h3 S3 kl3 p3
  simp! [tV (show ((pL g.ks g.np).map AV.int).length <= 1000000 by rw [length_map]; omega)]
  refine Mine.gen (pL g.ks g.np) fun rdy erdy => ?_
  have LS0 := LS.init G hV
  rw [erdy] at LS0 hrl S3
  rw [erdy]
  have N0 : R < h2.length := lR2
  have lh3 := kl3.2
  simp only [length_append, length_cons, length_nil] at lh3
  have q3 := aZ h3 [(aI.list (rdy.map AV.int), 0)]
  have iG0 : IL h3 h2.length [] := IL.keep kl3 ⟨0, bW _ _⟩ (by omega)
  have iT0 : RL h3 (h2.length + 2) (h2.length + 1) [] := RL.keep kl3 ⟨[], 0, eJ _ _ 1, ⟨not_mem_nil, fun zz h => absurd h not_mem_nil⟩, .nil⟩ (by omega) (by omega)
  refine lX (B9 h h2 rp cs pk g nd ni sr dd s a D R rg) ?_ 9 _ ?_
  rotate_left
  ·refine ⟨0, rdy, _, h3.length, rfl, .zero, LS0, S3.grow q3, ⟨0, bW _ _⟩, iG0.mono q3, iT0.mono q3, by omega, p3.trans q3, ?_, ?_⟩
   ·show h2.length + 2 <= (h3 ++ _).length
    rw [length_append]; omega
   ·simp! [c1, c2, c3]
  clear LS0 iG0 iT0 S3 p3 kl3 q3 lh3
  rintro n ⟨e5, h5⟩ zI2
  obtain ⟨m, W, np', w, hn, A, S, S5, iW, iG, iT, lw, p5, l25, d1, d2, d3, d4, d5, d6⟩ := zI2
  simp only at S5 iW iG iT p5 l25 d1 d2 d3 d4 d5 d6
  have m8 := A.le hC
  have cl := uP (rp := rp) (cs := cs) (pk := pk) m
  have gl := A.lg
  generalize eL : (nD rp cs pk m).2 = L at iG cl S gl
  generalize eT : (nD rp cs pk m).1 = T at iT cl
  have hH := S.hands hC.len gl G hV
  have hWl : W.length <= 4 := by
   have h1 := (kU (W.map (· % 4))).length_eq
   rw [hH, length_map] at h1
   have := BF (rp := rp) (cs := cs) L; omega
  simp! [d1, OP h5 _ iW]
  refine Mine.gen (h5 ++ [(aI.list [], 0)]) fun H5 eH5 => ?_
  have q5 : h5 <+: H5 := eH5 ▸ aZ _ _
  rw [eH5]
  by_cases hw : W = []
  ·simp! [hw, decide_true, Bool.not_true, d2, d3, d6]
   have ha : av rp cs L = [] := by rw [<- hH, hw]; rfl
   refine k H5 _ _ m rg (p5.trans q5) A (by rw [eL]; exact ha) ?_ ?_ ?_
   ·rw [eT]; exact (iT.mono q5).nls
   ·rw [eL]; exact iG.mono q5
   ·rw [eL]
    cases rg with
    | true => exact ⟨fun zz => KB hC.len gl G hV (hrg1 rfl), fun zz => rfl⟩
    | false => exact ⟨fun h => (by cases h), fun ⟨x, hx, h1⟩ => by have := GK hC.len gl G hV (hrg0 rfl) ha x hx; omega⟩
  ·have ha : av rp cs L ≠ [] := fun e => hw (by
    rw [e] at hH
    have h1 := (kU (W.map (· % 4))).length_eq
    rw [hH, length_map] at h1
    exact length_eq_zero_iff.mp h1.symm)
   obtain ⟨⟨j, ej, wj⟩, km⟩ := zR hp ha (BF _)
   generalize ekk : TN pk (av rp cs L) = kk at wj km
   obtain ⟨hdW, r, hdr⟩ := S.deed hC.len gl G hV km
   obtain ⟨ok, zl, S'⟩ := S.step hC.len gl G hV km
   generalize kk + 4 * (L.count kk : Int) = d at hdW hdr ok zl S'
   obtain ⟨kW, gW⟩ := iW
   have gW5 := aS q5 gW
   simp! [hw, decide_false, Bool.not_false, d1, fA, gW5]
   refine c_ (β := Int) (inj := .int) (p := fun zz => true) (out := fun x => .int (x % 4)) (xs := W) (hg := fun x hx => (by rw [mem_singleton.mp hx]; exact gW5)) (hl := by omega) ?_ ?_
   ·intro x hx e' h' he' p'
    simp! [lY (show (4 : Int) ≠ 0 by decide), L7]
    exact ⟨rfl, he'.put (by decide), p'⟩
   intro h6 p6
   rw [iK]
   have em : W.map (fun x => AV.int (x % 4)) = (W.map (· % 4)).map .int := by rw [map_map]; rfl
   rw [em]
   have h64 : W.length < 64 := by omega
   simp! [lM, iE, h64, hH]
   have q7 : h5 <+: h6 ++ [(aI.list ((W.map (· % 4)).map AV.int), 0), (aI.list ((av rp cs L).map AV.int), 0)] := (q5.trans p6).trans (aZ _ _)
   have ih7 : IL (h6 ++ [(aI.list ((W.map (· % 4)).map AV.int), 0), (aI.list ((av rp cs L).map AV.int), 0)]) (h6.length + 1) (av rp cs L) := ⟨0, eJ _ _ 1⟩
   have l6 : h5.length <= h6.length := Nat.le_trans q5.length_le p6.length_le
   refine Mine.gen (h6 ++ [(aI.list ((W.map (· % 4)).map AV.int), 0), (aI.list ((av rp cs L).map AV.int), 0)]) fun H7 eH7 => ?_
   rw [eH7] at q7 ih7 |-
   have S7 := S5.grow q7
   have l7 := q7.length_le
   have iW7 : IL H7 w W := IL.mono ⟨kW, gW⟩ q7
   have iG7 := iG.mono q7
   have iT7 := iT.mono q7
   have ty7 : lW (.ref (h2.length + 1)) H7 = some "list" := by obtain ⟨_, _, e, _⟩ := iT7; exact jL e
   obtain ⟨H8, e8, iT8, same8, l8, o8, k8, g8, eH8⟩ := iT7.snoc ih7 (by omega) (by omega) (by omega)
   have S8 : sC H8 h.length s a D R g.ks ni sr dd np' g.su [] := by
    rw [eH8]
    exact S7.other g8 (fun v hv => by have := srlt v hv; omega) (by omega)
   have iW8 : IL H8 w W := iW7.same (same8 _ (by omega))
   have ih8 : IL H8 (h6.length + 1) (av rp cs L) := ih7.same (same8 _ (by omega))
   have iG8 : IL H8 h2.length L := iG7.same (same8 _ (by omega))
   have p8 : h <+: H8 := fU (p5.trans q7) fun i hi => same8 i (by have := p2.length_le; omega)
   clear eH8 same8 g8
   have x8 := jJ ih8 ej wj
   obtain ⟨H9, e9, iG9, o9, eH9⟩ := uK (y := kk) iG8 (by omega)
   obtain ⟨kG, eG8⟩ := id iG8
   have S9 : sC H9 h.length s a D R g.ks ni sr dd np' g.su [] := by
    rw [eH9]
    exact S8.other eG8 (fun v hv => by have := srlt v hv; omega) (by omega)
   have iW9 : IL H9 w W := by rw [eH9]; exact iW8.set (by omega)
   have ih9 : IL H9 (h6.length + 1) (av rp cs L) := by rw [eH9]; exact ih8.set (by omega)
   have iT9 : RL H9 (h2.length + 2) (h2.length + 1) (T ++ [av rp cs L]) := by rw [eH9]; exact iT8.set (by omega) (by omega)
   have p9 : h <+: H9 := by rw [eH9]; exact f_ p8 p2.length_le
   have l9 : H9.length = H8.length := by rw [eH9]; exact length_set
   clear eH9 eG8
   obtain ⟨kW9, gW9⟩ := iW9
   simp! [d1, d2, d3, d4, d5, ty7, e8, iG8.ty, x8, e9, fA, gW9]
   refine c_ (β := Int) (inj := .int) (p := fun x => decide (x % 4 = kk)) (out := .int) (xs := W) (hg := fun x hx => (by rw [mem_singleton.mp hx]; exact gW9)) (hl := by omega) ?_ ?_
   ·intro x hx e' h' he' p'
    have g1 := he' "hands" (by simp)
    have g2 := he' "pick" (by simp)
    simp! [d5] at g1 g2
    have xk := jJ (ih9.mono p') ej wj
    simp! [lY (show (4 : Int) ≠ 0 by decide), L7, g1, g2, xk, mP]
    cases hc : decide (x % 4 = kk) <;> simp! [id_eq] <;> exact ⟨rfl, he'.put (by decide), p'⟩
   intro h10 p10
   rw [hdr]
   have i10 : IL (h10 ++ [(aI.list ((d :: r).map AV.int), 0)]) h10.length (d :: r) := ⟨0, bW _ _⟩
   have lr : (d :: r).length <= 4 := by rw [<- hdr]; exact Nat.le_trans (length_filter_le _ _) hWl
   have x10 := jJ (i := 0) (j := 0) (y := d) i10 (nV (Int.le_refl _) (by rw [length_cons]; omega) (by omega)) rfl
   have q10 : H9 <+: h10 ++ [(aI.list ((d :: r).map AV.int), 0)] := p10.trans (aZ _ _)
   refine Mine.gen (h10 ++ [(aI.list ((d :: r).map AV.int), 0)]) fun H10 eH10 => ?_
   rw [eH10] at q10 i10 x10 |-
   clear i10
   have S10 := S9.grow q10
   have own10 := S10.own (n := "done") (by decide) (by decide) (by decide) (by decide)
   simp! [x10, d4, own10]
   have lq10 := q10.length_le
   have dk : d ∈ g.ks := (G.vk d).mpr ((S.mem d).mp hdW).1
   refine MT (nodes := [d]) S10 (p9.trans q10) (Nat.le_refl _) (fun v hv => by rw [mem_singleton.mp hv]; exact dk) hcl ok hsl (by simp) (by simp) ?_
   intro h11 S11 kl11 p11
   refine Mine.gen (([d].foldl (lA g.su) (np', [])).2) fun zs ezs => ?_
   rw [ezs] at S11 zl S'
   have l11 := kl11.2
   have iW11 : IL h11 w W := IL.keep kl11 (IL.mono ⟨kW9, gW9⟩ q10) (by omega)
   have iG11 := IL.keep kl11 (iG9.mono q10) (by omega)
   have iT11 := RL.keep kl11 (iT9.mono q10) (by omega) (by omega)
   have qA := aZ h11 [(aI.list [AV.int d], 0)]
   simp! [d1, d4]
   refine vE (xs := W) (ys := [d]) (.inr ⟨_, rfl, iW11.mono qA⟩) ⟨0, bW _ _⟩ (by omega) ?_
   intro w1 h12 p12 lw12 iw12
   have q12 : h11 <+: h12 := qA.trans p12
   have S12 := S11.grow q12
   have own12 := S12.own (n := "get_ready") (by decide) (by decide) (by decide) (by decide)
   rw [length_append, length_singleton] at lw12
   simp! [d4, own12]
   refine qS S12 (p11.trans q12) (Nat.le_refl _) (by omega) ?_
   intro h13 S13 kl13 p13
   have l13 := kl13.2
   have l12 := q12.length_le
   have iw13 := IL.keep kl13 iw12 (by omega)
   have iG13 := IL.keep kl13 (iG11.mono q12) (by omega)
   have iT13 := RL.keep kl13 (iT11.mono q12) (by omega) (by omega)
   have lzs : (zs.map AV.int).length <= 1000000 := by rw [length_map]; omega
   have lf := length_filter_le (fun z => !([d] : List Int).contains z) W
   obtain ⟨k13, e13⟩ := iw13.mono (aZ h13 [(aI.list (zs.map AV.int), 0)])
   have eb := pY e13 (bW h13 [(aI.list (zs.map AV.int), 0)]) (by rw [length_map, length_map]; omega)
   simp! [tV lzs, eb]
   have ec : nD rp cs pk (m + 1) = (T ++ [av rp cs L], L ++ [kk]) := by rw [vU, eL, eT, ekk]
   have qE := aZ h13 [(aI.list (zs.map AV.int), 0), (aI.list ((W.filter fun z => !([d] : List Int).contains z).map AV.int ++ zs.map AV.int), 0)]
   refine ⟨n - 1, by omega, m + 1, (W.filter fun z => !([d] : List Int).contains z) ++ zs, _, h13.length + 1, by omega, A.step hp (by rw [eL]; exact ha), ?_, S13.grow qE, ?_, ?_, ?_, by omega, p13.trans qE, ?_, ?_⟩
   ·rw [ec]; exact S'
   ·refine ⟨0, (eJ _ _ 1).trans ?_⟩
    rw [map_append]; rfl
   ·rw [ec]; exact iG13.mono qE
   ·rw [ec]; exact iT13.mono qE
   ·show h2.length + 2 <= (h13 ++ _).length
    rw [length_append]; omega
   ·simp! [d2, d3, d4, d5, d6]
 simp! [hown]
 refine CA SG p1 (Nat.le_refl _) p1.length_le hcl (by omega) ?_
 intro h2 R' ni' sr' dd' r S2 p2 lR hr
 rcases hr with ⟨rfl, rk⟩ | ⟨rfl, rk⟩
 ·simp only [CJ, JN, JI, yF]
  refine rest_run h2 R' ni' sr' dd' _ false (fun h => (by cases h)) (fun zz => rk) S2 p2 lR ?_ ?_ ?_ <;> simp! [id_eq]
 ·simp only [CJ, LD, L_, MD, UV, DZ, QZ, CG, yF]
  refine rest_run h2 R' ni' sr' dd' _ true (fun zz => rk) (fun h => (by cases h)) S2 p2 lR ?_ ?_ ?_ <;> simp! [id_eq]
theorem E2 {a b c : Nat} (h : 0 < b) : c + (a - (b - 1)) = c + (a + 1 - b) /\ b - 1 - a = b - (a + 1) := by
 cases b with
 | zero => cases h
 | succ b => exact ⟨congrArg (c + ·) (Nat.add_sub_add_right a 1 b).symm, (Nat.add_sub_add_right b 1 a).symm⟩
theorem D8 {a b c : Nat} (h : b = 0) : c + 1 + (a - b) = c + (a + 1 - b) /\ b - a = b - (a + 1) := by
 subst h
 exact ⟨Nat.add_right_comm c 1 a, (Nat.zero_sub a).trans (Nat.zero_sub _).symm⟩
theorem FH (xs : List Int) : ∀ (act miss : List Int) (x : Int), (pE xs act miss).1.count x = miss.count x + (xs.count x - act.count x) /\ (pE xs act miss).2.count x = act.count x - xs.count x := by
 induction xs with
 | nil => exact fun act miss x => ⟨(Nat.add_zero _).symm.trans (by rw [List.count_nil, Nat.zero_sub]; rfl), rfl⟩
 | cons y xs ih =>
  intro act miss x
  rw [tC]
  by_cases hc : act.contains y = true
  ·rw [if_pos hc, (ih (act.erase y) miss x).1, (ih (act.erase y) miss x).2]
   by_cases e : x = y
   ·subst e
    rw [List.count_erase_self, count_cons_self]
    exact E2 (count_pos_iff.mpr (by simpa using hc))
   ·rw [List.count_erase_of_ne e, List.count_cons_of_ne (Ne.symm e)]
    exact ⟨rfl, rfl⟩
  ·rw [if_neg hc, (ih act (miss ++ [y]) x).1, (ih act (miss ++ [y]) x).2, count_append]
   by_cases e : x = y
   ·subst e
    rw [count_cons_self, count_cons_self]
    exact D8 (count_eq_zero.mpr (by simpa using hc))
   ·rw [List.count_cons_of_ne (Ne.symm e), List.count_cons_of_ne (Ne.symm e)]
    exact ⟨rfl, rfl⟩
noncomputable def tX (l : List Int) : List Int := r4.flatMap fun x => List.replicate (cn l x).toNat x
theorem MX (l : List Int) : tX l = List.replicate (cn l 0).toNat 0 ++ (List.replicate (cn l 1).toNat 1 ++ (List.replicate (cn l 2).toNat 2 ++ (List.replicate (cn l 3).toNat 3 ++ []))) := rfl
theorem r_ (l : List Int) (x : Int) : (tX l).count x = if x ∈ r4 then (cn l x).toNat else 0 := by
 rw [MX]
 simp only [count_append, List.count_replicate, List.count_nil, beq_iff_eq]
 by_cases h : x ∈ r4
 ·rw [if_pos h]
  have := gQ.mp h
  have : x = 0 \/ x = 1 \/ x = 2 \/ x = 3 := by omega
  rcases this with rfl | rfl | rfl | rfl <;> simp
 ·rw [if_neg h]
  have : x ≠ 0 /\ x ≠ 1 /\ x ≠ 2 /\ x ≠ 3 := by
   refine ⟨?_, ?_, ?_, ?_⟩ <;> (rintro rfl; exact h (by decide))
  simp [this.1.symm, this.2.1.symm, this.2.2.1.symm, this.2.2.2.symm]
theorem vF {g : Int -> List Int} (hg : ∀ x, ∀ y ∈ g x, y = x) (row : List Int) : row.Pairwise (· < ·) -> (row.flatMap g).Pairwise (· <= ·) := by
 induction row with
 | nil => exact fun zz => List.Pairwise.nil
 | cons y row ih =>
  intro h
  obtain ⟨h1, h2⟩ := pairwise_cons.mp h
  rw [List.flatMap_cons, List.pairwise_append]
  refine ⟨?_, ih h2, fun a ha b hb => ?_⟩
  ·have : ∀ l : List Int, (∀ z ∈ l, z = y) -> l.Pairwise (· <= ·) := by
    intro l
    induction l with
    | nil => intro _; exact List.Pairwise.nil
    | cons a l ih =>
     intro hl
     refine pairwise_cons.mpr ⟨fun z hz => ?_, ih fun z hz => hl z (mem_cons_of_mem _ hz)⟩
     rw [hl a mem_cons_self, hl z (mem_cons_of_mem _ hz)]; exact Int.le_refl _
   exact this _ (hg y)
  ·obtain ⟨x, hx, hb⟩ := mem_flatMap.mp hb
   rw [hg y a ha, hg x b hb]
   exact Int.le_of_lt (h1 x hx)
theorem EP (l : List Int) : (tX l).Pairwise (· <= ·) := vF (fun x y hy => List.eq_of_mem_replicate hy) r4 yP
theorem AZ {l : List Int} (h : ∀ x ∈ r4, cn l x <= 2) : (tX l).length <= 8 := by
 have t : ∀ x ∈ r4, (cn l x).toNat <= 2 := fun x hx => Int.toNat_le.mpr (h x hx)
 rw [MX]
 simp only [length_append, List.length_replicate, length_nil]
 exact Nat.add_le_add (t 0 (by decide)) (Nat.add_le_add (t 1 (by decide)) (Nat.add_le_add (t 2 (by decide)) (Nat.add_le_add (t 3 (by decide)) (Nat.le_refl 0))))
theorem D3 {l : List Int} (hl : l.length = 4) : l.sum = cn l 0 + cn l 1 + cn l 2 + cn l 3 := by
 have h4 : l.length <= 4 := Nat.le_of_eq hl
 revert hl
 refine EA (P := fun l => l.length = 4 -> l.sum = cn l 0 + cn l 1 + cn l 2 + cn l 3) (fun h => (by cases h)) (fun a h => (by cases h)) (fun a b h => (by cases h)) (fun a b c h => (by cases h)) (fun a b c d zz => ?_) h4
 show a + (b + (c + (d + 0))) = a + b + c + d
 omega
section
variable {rp : RP} {cs L : List Int}
theorem AN {x y : Int} (hx : 0 <= x) (hy : 0 <= y) : 0 < x + y ↔ 0 < x \/ 0 < y := by omega
theorem ZO {a b c d a' b' c' d' : Int} (h0 : a' <= a) (h1 : b' <= b) (h2 : c' <= c) (h3 : d' <= d) : 0 < a - a' + (b - b') + (c - c') + (d - d') ↔ a' < a \/ b' < b \/ c' < c \/ d' < d := by
 have k0 := Int.sub_nonneg.mpr h0
 have k1 := Int.sub_nonneg.mpr h1
 have k2 := Int.sub_nonneg.mpr h2
 rw [AN (Int.add_nonneg (Int.add_nonneg k0 k1) k2) (Int.sub_nonneg.mpr h3), AN (Int.add_nonneg k0 k1) k2, AN k0 k1, Int.sub_pos, Int.sub_pos, Int.sub_pos, Int.sub_pos, or_assoc, or_assoc]
theorem OH (hC : sF cs) (g : Lg rp cs L) : (0 < (lf cs L).sum) ↔ ∃ x ∈ r4, (L.count x : Int) < cn cs x := by
 rw [D3 (by rw [FN]; exact hC.len)]
 have e := fun x (hx : x ∈ r4) => wH hC.len g.sub hx
 have n := g.le hC.len fun h hh => Int.le_trans (show (0 : Int) <= 1 by decide) (hC.one h hh).1
 rw [e 0 (by decide), e 1 (by decide), e 2 (by decide), e 3 (by decide), ZO (n 0 (by decide)) (n 1 (by decide)) (n 2 (by decide)) (n 3 (by decide))]
 constructor
 ·rintro (h | h | h | h)
  ·exact ⟨0, by decide, h⟩
  ·exact ⟨1, by decide, h⟩
  ·exact ⟨2, by decide, h⟩
  ·exact ⟨3, by decide, h⟩
 ·rintro ⟨x, hx, h⟩
  have := gQ.mp hx
  have : x = 0 \/ x = 1 \/ x = 2 \/ x = 3 := by clear n e h; omega
  rcases this with rfl | rfl | rfl | rfl
  ·exact .inl h
  ·exact .inr (.inl h)
  ·exact .inr (.inr (.inl h))
  ·exact .inr (.inr (.inr h))
theorem TU {c : Int} {n : Nat} (h : (n : Int) <= c) : 0 + (c.toNat - n) = (c - n).toNat /\ ¬ 0 < n - c.toNat := by
 obtain ⟨m, rfl⟩ := Int.le.dest h
 have e : ((n : Int) + m).toNat = n + m := rfl
 rw [e, Nat.add_sub_cancel_left, Nat.zero_add, Int.add_comm, Int.add_sub_cancel, Nat.sub_eq_zero_of_le (Nat.le_add_right n m)]
 exact ⟨rfl, Nat.lt_irrefl 0⟩
theorem UZ (hC : sF cs) (g : Lg rp cs L) : (pE (tX cs).reverse L []).2 = [] /\ pK (pE (tX cs).reverse L []).1 = tX (lf cs L) /\ (pE (tX cs).reverse L []).1.length <= 8 := by
 have n := g.le hC.len fun h hh => Int.le_trans (show (0 : Int) <= 1 by decide) (hC.one h hh).1
 have c := FH (tX cs).reverse L []
 have z : ∀ x, x ∉ r4 -> L.count x = 0 := fun x h => count_eq_zero.mpr fun hm => h (g.sub x hm)
 have key : ∀ x, (pE (tX cs).reverse L []).1.count x = (tX (lf cs L)).count x := fun x => by
  rw [(c x).1, List.count_reverse, r_, r_, List.count_nil]
  by_cases h : x ∈ r4
  ·rw [if_pos h, if_pos h, wH hC.len g.sub h]
   exact (TU (n x h)).1
  ·rw [if_neg h, if_neg h, Nat.zero_sub]
 have hs : pK (pE (tX cs).reverse L []).1 = tX (lf cs L) := tA (mQ _) (EP _) fun x => by rw [tF, key]
 refine ⟨List.eq_nil_iff_forall_not_mem.mpr fun x hx => ?_, hs, ?_⟩
 ·have h1 := count_pos_iff.mpr hx
  rw [(c x).2, List.count_reverse, r_] at h1
  by_cases h : x ∈ r4
  ·rw [if_pos h] at h1
   exact (TU (n x h)).2 h1
  ·rw [if_neg h, z x h] at h1
   exact Nat.lt_irrefl 0 h1
 ·have h1 := (kU (pE (tX cs).reverse L []).1).length_eq
  rw [hs] at h1
  rw [<- h1]
  refine AZ fun x hx => ?_
  rw [wH hC.len g.sub hx]
  exact Int.le_trans (Int.sub_le_self _ (Int.natCast_nonneg _)) (hC.one x hx).2
theorem VU {p : Int × Int} (h : ∀ x ∈ L, x ∈ r4) : (L.filter fun z => !(r4.filter fun x => !t_ p x).contains z) = L.filter (t_ p) := by
 refine List.filter_congr fun x hx => ?_
 have h4 := h x hx
 cases hb : t_ p x with
 | true =>
  have : x ∉ r4.filter fun x => !t_ p x := fun q => by have := (mem_filter.mp q).2; rw [hb] at this; cases this
  rw [Bool.not_eq_true', Bool.eq_false_iff]
  exact fun q => this (List.contains_iff_mem.mp q)
 | false =>
  have : x ∈ r4.filter fun x => !t_ p x := mem_filter.mpr ⟨h4, by rw [hb]; rfl⟩
  rw [List.contains_iff_mem.mpr this]; rfl
end
theorem MG (a b : Bool) (h : AH) : EL (.bool a) (.bool b) h = some (a == b) := rfl
theorem OZ (x a b : Int) (h : AH) : sB (.int x) (.tup [.int a, .int b]) h = some (t_ (a, b) x) := by
 have : sB (.int x) (.tup [.int a, .int b]) h = mZ (.int x) ([a, b].map .int) h := rfl
 rw [this]
 unfold mZ
 rw [sV h 7, wP h 7]
 show some (([a, b].map PyData.int).any fun y => PyData.eqv y (.int x)) = _
 rw [HV]
 congr 1
 unfold t_
 rw [Bool.eq_iff_iff, List.contains_iff_mem, decide_eq_true_eq]
 simp
theorem DO {nm : String} {l : List Int} {A : Nat} {e : List (String × AV)} {h : AH} {Q : AV -> AS -> Prop} (hA : IL h A l) (hl : l.length = 4) (hb : ∀ x ∈ r4, 0 <= cn l x /\ cn l x <= 2) (h1 : (nm == "hand") = false) (h2 : (nm == "turn") = false) (he : e.lookup nm = some (.ref A))
  (k : Q (.ref h.length) ⟨e, h ++ [(.list ((tX l).map .int), 0)]⟩) :
  cB (compLoop [] (fun v => cD "hand" v) (pure true) (pZ (iV (aO (iA (aG nm) (aG "hand")) (pure []))) (fun v => cD "turn" v) (pure true) (fH (aG "hand"))) (r4.map .int)) (q_ e Q) ⟨fT [nm] e, h⟩ := by
 refine gP (inj := AV.int) (fun dn acc st => acc = (dn.flatMap fun x => List.replicate (cn l x).toNat x).map .int /\ st.hp = h /\ st.env.lookup nm = some (.ref A)) (fun zz zz zz zz x hx => (by cases hx)) r4 [] [] _ _ ?_ ?_ ?_
 ·rintro x hx dn acc ⟨e', h'⟩ zI
  obtain ⟨rfl, rfl, f1⟩ := zI
  simp only at f1
  have hr : (cn l x).natAbs < 4611686018427387904 := by have := hb x hx; omega
  simp! [f1, h1, kJ hA hl hx, hX, hr]
  refine gP (inj := fun i : Nat => AV.int (i : Int)) (fun d2 acc st => acc = List.replicate d2.length (.int x) /\ st.hp = h' /\ st.env.lookup nm = some (.ref A) /\ st.env.lookup "hand" = some (.int x)) (fun zz zz zz zz x hx => (by cases hx)) (List.range (cn l x).toNat) [] [] _ _ ?_ ?_ ?_
  ·rintro i hi d2 acc ⟨e2, h2'⟩ zI
   obtain ⟨rfl, rfl, g1, g2⟩ := zI
   simp only at g1 g2
   simp! [g2]
   refine ⟨?_, ?_⟩
   ·rw [List.replicate_succ']
   ·simp! [g1, h2, g2]
  ·refine ⟨rfl, rfl, ?_⟩
   simp! [f1, h1]
  ·rintro ys ⟨e2, h2'⟩ zI
   obtain ⟨hy, rfl, g1, _⟩ := zI
   rw [nil_append, nil_append, List.length_range] at hy
   rw [hy]
   refine ⟨?_, rfl, g1⟩
   rw [List.flatMap_append, List.flatMap_singleton, map_append, List.map_replicate]
 ·exact ⟨rfl, rfl, by rw [fC _ _ (by simp)]; exact he⟩
 ·rintro ys ⟨e', h'⟩ ⟨hy, rfl, _⟩
  rw [nil_append, nil_append] at hy
  rw [hy]
  refine ⟨?_, k⟩
  have := AZ fun x hx => (hb x hx).2
  rw [length_map]
  exact Nat.le_trans this (by decide)
noncomputable def pT (x : (Int × Int) × List Int) : AV := .tup [.int x.1.1, .int x.1.2]
theorem RM (x : Int) (y : (Int × Int) × List Int) (h : AH) : sB (.int x) (pT y) h = some (t_ y.1 x) := OZ x y.1.1 y.1.2 h
theorem OC {h : AH} {r q t k1 k2 k3 : Nat} {xs ys us : List AV} (e1 : h[r]? = some (.list xs, k1)) (e2 : h[q]? = some (.list ys, k2)) (e3 : h[t]? = some (.list us, k3)) (hl : xs.length = ys.length /\ xs.length = us.length) :
  DD [.ref r, .ref q, .ref t] h = some (⟨[(r, (.list xs, k1)), (q, (.list ys, k2)), (t, (.list us, k3)), (h.length, (.junk, 0))], (xs.zip (ys.zip us)).map fun p => .tup [p.1, p.2.1, p.2.2]⟩, h ++ [(.junk, 0)]) := (eS e1).trans ((eS e2).trans ((eS e3).trans (lG hl _)))
noncomputable def E6 (rp : RP) (h2 : AH) (L : List Int) (l1 C f : Nat) (items : List AV) (st : AS) : Prop := ∃ (psR : NL) (rr : RP) (psQ : NL), items = ((psR.map fun p => AV.ref p.1).zip ((rr.map pT).zip (psQ.map fun p => AV.ref p.1))).map (fun p => AV.tup [p.1, p.2.1, p.2.2]) /\ psR.map (·.2) = rr.map (·.2) /\ psQ.map (·.2) = rr.map (fun x => qr x.2 L) /\ PL h2 psR /\ PL h2 psQ /\ (∀ x ∈ rr, x ∈ rp) /\ h2 ++ [(.junk, 0)] <+: st.hp /\
 st.env.lookup "log" = some (.ref l1) /\ st.env.lookup "counts" = some (.ref C) /\ st.env.lookup "left" = some (.ref f)
theorem yU {h : AH} {R C P lo kP : Nat} {rp : RP} {cs : List Int} {pk : Int} {K : AV -> AH -> Prop} (iR : RL h lo R (rp.map (·.2))) (iP : h[P]? = some (.list (rp.map pT), kP)) (iC : IL h C cs) (hC : sF cs) (hV : ∀ x ∈ rp, jP cs x.1 x.2) (hl : rp.length <= 6) (hp : pk = 0 \/ pk = -1)
  (k : ∀ h', h <+: h' -> K (.bool true) h') : iF (AF [.ref R, .ref P, .ref C, .int pk]) K h := by
 refine gH (bs := [("rows", .ref R), ("pairs", .ref P), ("counts", .ref C), ("pick", .int pk)]) rfl ?_
 unfold holds.prog
 have hrl : ∀ x ∈ rp, x.2.length <= 4 := fun x hx => (hV x hx).len hC
 simp! [id_eq]
 refine SD iR iC hC hV hl hp fun h1 t1 l1 n b p1 A1 a1 iT1 iG1 hb => ?_
 simp! [id_eq]
 refine FF (iR.mono p1) (iC.mono p1) hC hrl hl hp fun h2 t2 l2 q f n2 p2 A2 a2 iT2 iG2 iQ2 iF2 => ?_
 have en := A1.one A2 a1 a2
 subst en
 have gl := A1.lg
 have n8 := A1.le hC
 have cl := (uP (rp := rp) (cs := cs) (pk := pk) n).1
 generalize (nD rp cs pk n).2 = L at *
 generalize (nD rp cs pk n).1 = T at *
 have ls := OH hC gl
 have eb : b = decide ((lf cs L).sum > 0) := by
  cases b with
  | true => exact (decide_eq_true (ls.mpr (hb.mp rfl))).symm
  | false => exact (decide_eq_false fun h => by have := hb.mpr (ls.mp h); cases this).symm
 obtain ⟨kF, eF⟩ := id iF2
 have eT := (iT1.mono p2).eqv iT2
 have eG := lC (iG1.mono p2) iG2
 simp! [BB, eF, iE, MG, eb, beq_self_eq_true, Bool.not_true, eT, eG, decide_true]
 have iR2 := (iR.nls.mono p1).mono p2
 have iP2 := aS p2 (aS p1 iP)
 have iC2 := (iC.mono p1).mono p2
 obtain ⟨psR, kR, eR, epR, plR⟩ := iR2
 obtain ⟨psQ, kQ, eQ, epQ, plQ⟩ := iQ2
 have lR := congrArg List.length epR
 have lQ := congrArg List.length epQ
 rw [length_map, length_map] at lR lQ
 simp! [OC eR iP2 eQ (by rw [length_map, length_map, length_map]; omega)]
 have iG := iG1.mono p2
 have p02 := p1.trans p2
 refine eZ (E6 rp h2 L l1 C f) ?_ ?_ ?_ _ _ ?_
 rotate_right
 ·refine ⟨psR, rp, psQ, rfl, epR, epQ, plR, plQ, fun zz h => h, prefix_refl _, ?_⟩
  simp! [id_eq]
 ·rintro items ⟨e, h'⟩ zI g hg
  obtain ⟨_, _, _, _, _, _, _, _, _, p, _⟩ := zI
  refine aS p ?_
  simp only [mem_cons, not_mem_nil, or_false] at hg
  rcases hg with rfl | rfl | rfl | rfl
  ·exact aS (aZ _ _) eR
  ·exact aS (aZ _ _) iP2
  ·exact aS (aZ _ _) eQ
  ·exact bW _ _
 ·rintro x items ⟨e, h3⟩ zI
  obtain ⟨psR, rr, psQ, hi, e1, e2, plR, plQ, sub, p3, f1, f2, f3⟩ := zI
  simp only at p3 f1 f2 f3
  cases rr with
  | nil =>
   have : psR = [] := List.map_eq_nil_iff.mp e1
   subst this
   cases hi
  | cons y rr =>
  cases psR with
  | nil => cases e1
  | cons a psR =>
  cases psQ with
  | nil => cases e2
  | cons c psQ =>
  simp only [map_cons, List.zip_cons_cons] at hi e1 e2
  obtain ⟨rfl, rfl⟩ := List.cons.inj hi
  obtain ⟨ea, e1⟩ := List.cons.inj e1
  obtain ⟨ec, e2⟩ := List.cons.inj e2
  have ia : IL h2 a.1 y.2 := ea ▸ plR a mem_cons_self
  have ic : IL h2 c.1 (qr y.2 L) := ec ▸ plQ c mem_cons_self
  have hy := sub y mem_cons_self
  have q23 : h2 <+: h3 := (aZ _ _).trans p3
  have e4 : (4 : Int).natAbs < 4611686018427387904 := by decide
  simp! [f1, hX, e4, oR]
  refine c_ (β := Int) (inj := .int) (p := fun z => !t_ y.1 z) (out := .int) (xs := r4) (hg := fun x hx => (by cases hx)) (hl := by decide) ?_ ?_
  ·intro x hx e' h' he' p'
   have g1 := he' "pair" (by simp)
   simp! [id_eq] at g1
   simp! [g1, RM]
   cases hc : t_ y.1 x <;> simp! [Bool.not_true, Bool.not_false] <;> exact ⟨rfl, he'.put (by decide), p'⟩
  intro h4 p4
  have pA := aZ h4 [(aI.list ((r4.filter fun z => !t_ y.1 z).map AV.int), 0)]
  simp! [id_eq]
  refine vE (xs := L) (ys := r4.filter fun z => !t_ y.1 z) (.inr ⟨_, rfl, iG.mono ((q23.trans p4).trans pA)⟩) ⟨0, bW _ _⟩ (by omega) ?_
  intro w h5 p5 lw iw
  rw [VU gl.sub] at iw
  have q5 : h3 <+: h5 := (p4.trans pA).trans p5
  obtain ⟨kw, ew⟩ := iw
  obtain ⟨kc, ec'⟩ := ic.mono (q23.trans q5)
  have ly : y.2.length <= 4 := hrl y hy
  have lq := G_ (L := L) y.2
  have lfl := length_filter_le (t_ y.1) L
  have eb := pY ew ec' (by rw [length_map, length_map]; omega)
  have pB := aZ h5 [(aI.list (y.2.map AV.int), 0)]
  have iy : IL (h5 ++ [(aI.list (y.2.map AV.int), 0)]) a.1 y.2 := ia.mono ((q23.trans q5).trans pB)
  have en : (L.filter (t_ y.1)).map AV.int ++ (qr y.2 L).map AV.int = y.2.map AV.int := by rw [<- map_append, <- gl.row hC.len hy (hV y hy)]
  rw [en] at eb
  have eq' : EL (.ref h5.length) (.ref a.1) (h5 ++ [(aI.list (y.2.map AV.int), 0)]) = some (decide (y.2 = y.2)) := lC ⟨0, bW _ _⟩ iy
  simp! [eb, eq', decide_true, Bool.not_true]
  refine ⟨psR, rr, psQ, rfl, e1, e2, fun p hp => plR p (mem_cons_of_mem _ hp), fun p hp => plQ p (mem_cons_of_mem _ hp), fun x hx => sub x (mem_cons_of_mem _ hx), (p3.trans q5).trans pB, ?_⟩
  simp! [f1, f2, f3]
 ·rintro ⟨e, h3⟩ zI
  obtain ⟨_, _, _, _, _, _, _, _, _, p3, f1, f2, f3⟩ := zI
  simp only at p3 f1 f2 f3
  have e4 : (4 : Int).natAbs < 4611686018427387904 := by decide
  have q3 := (aZ h2 [(aI.junk, 0)]).trans p3
  simp! [hX, e4, oR]
  have c2 : ∀ x ∈ r4, 0 <= cn cs x /\ cn cs x <= 2 := fun x hx => by have := hC.one x hx; omega
  have nn := gl.le hC.len fun h hh => (c2 h hh).1
  have c3 : ∀ x ∈ r4, 0 <= cn (lf cs L) x /\ cn (lf cs L) x <= 2 := fun x hx => by
   have := nn x hx
   have := c2 x hx
   rw [wH hC.len gl.sub hx]; omega
  refine DO (nm := "counts") (iC2.mono q3) hC.len c2 (by decide) (by decide) f2 ?_
  have pA := aZ h3 [(aI.list ((tX cs).map AV.int), 0)]
  obtain ⟨kG, eG'⟩ := iG.mono (q3.trans pA)
  have l8 : (tX cs).length <= 8 := AZ fun x hx => (c2 x hx).2
  simp! [f1, qI eG' (by rw [length_map]; omega)]
  refine RU (xs := tX cs) (ys := L) ⟨0, bW _ _⟩ ⟨0, eJ _ _ 1⟩ (by omega) (by omega) (by omega) ?_
  intro h6 m lm l6 same im iq
  obtain ⟨b1, b2, b3⟩ := UZ hC gl
  rw [b1] at iq
  obtain ⟨km, em⟩ := im
  simp only [length_append, length_cons, length_nil] at lm l6 same
  have q6 : h3 <+: h6 := fU (aZ h3 [(aI.list ((tX cs).map AV.int), 0), (aI.list (L.map AV.int), 0)]) fun i hi => same i (by omega) (by omega) (by omega)
  have pB := aZ h6 [(aI.list [], 0)]
  have em' := aS pB em
  have x1 : EL (.ref (h3.length + 1)) (.ref h6.length) (h6 ++ [(aI.list [], 0)]) = some (decide (([] : List Int) = [])) := lC (iq.mono pB) ⟨0, bW _ _⟩
  have b64 : (pE (tX cs).reverse L []).1.length < 64 := by omega
  simp! [x1, decide_true, dJ, lM, em', iE, b64, b2, hX, e4, oR]
  have pC := aZ h6 [(aI.list [], 0), (aI.list ((tX (lf cs L)).map AV.int), 0)]
  have iF6 := ((iF2.mono q3).mono q6).mono pC
  refine DO (nm := "left") iF6 (by rw [FN]; exact hC.len) c3 (by decide) (by decide) ?_ ?_
  ·simp! [f3]
  have x2 : EL (.ref (h6.length + 1)) (.ref (h6.length + 2)) (h6 ++ [(aI.list [], 0), (aI.list ((tX (lf cs L)).map AV.int), 0), (aI.list ((tX (lf cs L)).map AV.int), 0)]) = some (decide (tX (lf cs L) = tX (lf cs L))) := lC ⟨0, eJ _ _ 1⟩ ⟨0, eJ _ _ 2⟩
  simp! [x2, decide_true]
  exact k _ ((((p02.trans q3).trans q6)).trans (aZ _ _))
theorem xY {α β : Type} (f : α -> β) (xs : List α) (lo hi st : Option Int) : pickL (xs.map f) lo hi st = (pickL xs lo hi st).map f := by
 unfold pickL
 rw [length_map]
 generalize sliceRange (sliceBounds lo hi st xs.length).1 (sliceBounds lo hi st xs.length).2.1 (sliceBounds lo hi st xs.length).2.2 = l
 induction l with
 | nil => rfl
 | cons a l ih =>
  rw [List.filterMap_cons, List.filterMap_cons, getElem?_map]
  cases xs[a]? with
  | none => exact ih
  | some x => simp only [Option.map_some, map_cons, ih]
theorem FR {α : Type} (xs : List α) (lo hi st : Option Int) (n : Nat) (h : xs.length <= n) : (pickL xs lo hi st).length <= n := Nat.le_trans (yQ _ _ _ _) h
noncomputable def WL : List Int := [21, 5, 6, 8, 4, 3]
noncomputable def LJ : List (Int × Int) := [(0, 1), (0, 2), (1, 2), (0, 3), (1, 3), (2, 3)]
noncomputable def pU (x : Int × Int) : AV := .tup [.int x.1, .int x.2]
theorem VT : ∀ x ∈ LJ, x.1 ∈ r4 /\ x.2 ∈ r4 /\ x.1 ≠ x.2 := by decide
theorem F3 (x : Int × Int) (h : AH) : oX (pU x) (.int 0) h = some (.int x.1) := rfl
theorem C0 (x : Int × Int) (h : AH) : oX (pU x) (.int 1) h = some (.int x.2) := rfl
theorem ME {h : AH} {r q k1 k2 : Nat} {xs ys : List AV} (e1 : h[r]? = some (.list xs, k1)) (e2 : h[q]? = some (.list ys, k2)) (hl : xs.length = ys.length) :
  DX [.ref r, .ref q] h = some (⟨[(r, (.list xs, k1)), (q, (.list ys, k2)), (h.length, (.junk, 0))], (xs.zip ys).map fun p => .tup [p.1, p.2]⟩, h ++ [(.junk, 0)]) := (eS e1).trans ((eS e2).trans (lG hl _))
theorem N8 (x : Int) : 1 <= 1 + x.fmod 2 /\ 1 + x.fmod 2 <= 2 := by
 rw [Int.fmod_eq_emod_of_nonneg x (by decide)]; omega
theorem ZK (t : Int) : sF (r4.map fun x => 1 + (t.fdiv (2 ^ x.toNat)).fmod 2) := by
 refine ⟨rfl, fun h hh => ?_⟩
 have e : cn (r4.map fun x => 1 + (t.fdiv (2 ^ x.toNat)).fmod 2) h = 1 + (t.fdiv (2 ^ h.toNat)).fmod 2 := by
  unfold cn r4
  rw [map_map, getElem?_map, List.getElem?_range (ZN hh)]; rfl
 rw [e]
 exact N8 _
theorem jP.rev {cs : List Int} {p : Int × Int} {row : List Int} (V : jP cs p row) : jP cs p row.reverse :=
 ⟨V.a4, V.b4, V.ne, fun x hx => by rw [List.count_reverse]; exact V.cnt x hx, fun x hx => V.sub x (List.mem_reverse.mp hx)⟩
theorem MV {h0 : AH} {xs : List Int} {K : AV -> AH -> Prop} (hx : xs.length <= 63) (k : ∀ h', K (.bool true) h') : cB law2.prog (zB K) ⟨[("script", .script xs)], h0⟩ := by
 unfold law2.prog
 have hxl : xs.length <= 1000000 := by omega
 refine Mine.gen (pickL xs none (some 12) none) fun pk epk => ?_
 have lpk : pk.length <= 63 := epk ▸ FR xs _ _ _ 63 hx
 simp! [gJ, ne_eq, not_false_eq_true, fO, gG, jE, hxl, reduceCtorEq, xY, epk, fA]
 refine c_ (β := Int) (inj := .int) (p := fun zz => true) (out := fun c => .int (c.fmod 1000000)) (xs := pk) (hg := fun x hx => (by rw [mem_singleton.mp hx]; exact bW _ _)) (hl := by omega) ?_ ?_
 ·intro c hc e' h' he' p'
  have hb : oB .pow (.int 10) (.int 6) h' = some (.int 1000000, h') := wW (by decide) h'
  simp! [OO, hb, lY (show (1000000 : Int) ≠ 0 by decide)]
  exact ⟨rfl, he'.put (by decide), p'⟩
 intro h1 p1
 rw [iK]
 refine Mine.gen (pk.map (fun c => c.fmod 1000000)) fun cl ecl => ?_
 have ecl' : pk.map (fun c => AV.int (c.fmod 1000000)) = cl.map .int := by rw [<- ecl, map_map]; rfl
 have lcl : cl.length <= 63 := by rw [<- ecl, length_map]; exact lpk
 rw [ecl']
 refine Mine.gen (h1 ++ [(aI.list (cl.map AV.int), 0)]) fun H1 eH1 => ?_
 have eC1 : H1[h1.length]? = some (aI.list (cl.map AV.int), 0) := eH1 ▸ bW _ _
 rw [eH1]
 have e4 : (4 : Int).natAbs < 4611686018427387904 := by decide
 have b2 : ∀ x : Int, x ∈ r4 -> (0 <= x /\ x <= 1000000 /\ (2 : Int).natAbs < 2 ^ 62) /\ ((2 : Int) ^ x.toNat ≠ 0 /\ ((2 : Int) ^ x.toNat).natAbs < 1073741824) := by decide
 simp! [BB, eC1, iE, iM, hX, e4, oR]
 refine Mine.gen (11 + cl.sum) fun tot etot => ?_
 rw [etot]
 refine c_ (β := Int) (inj := .int) (p := fun zz => true) (out := fun x => .int (1 + (tot.fdiv (2 ^ x.toNat)).fmod 2)) (xs := r4) (hg := fun x hx => (by cases hx)) (hl := by decide) ?_ ?_
 ·intro x hx e' h' he' p'
  have f1 := he' "total" (by simp)
  simp! [id_eq] at f1
  obtain ⟨c1, c2⟩ := b2 x hx
  simp! [f1, wW c1, sZ c2, lY (show (2 : Int) ≠ 0 by decide), iM]
  exact ⟨rfl, he'.put (by decide), p'⟩
 intro h2 p2
 rw [iK]
 have hC := ZK tot
 have ecc : r4.map (fun x => AV.int (1 + (tot.fdiv (2 ^ x.toNat)).fmod 2)) = (r4.map fun x => 1 + (tot.fdiv (2 ^ x.toNat)).fmod 2).map .int := by rw [map_map]; rfl
 rw [ecc]
 generalize (r4.map fun x => 1 + (tot.fdiv (2 ^ x.toNat)).fmod 2) = cs at hC
 refine Mine.gen (h2 ++ [(aI.list (cs.map AV.int), 0)]) fun H2 eH2 => ?_
 have q2 : H1 <+: H2 := eH2 ▸ jU p2 _
 have iC : IL H2 h2.length cs := ⟨0, eH2 ▸ bW _ _⟩
 rw [eH2]
 simp! [hO, fN, AB]
 have est : (aI.list [AV.int 21, AV.int 5, AV.int 6, AV.int 8, AV.int 4, AV.int 3]) = .list (WL.map .int) := rfl
 have ezp : ([AV.int 21, AV.int 5, AV.int 6, AV.int 8, AV.int 4, AV.int 3].zipIdx.map fun x => AV.tup [.int x.2, x.1]) = WL.zipIdx.map fun x => AV.tup [.int x.2, .int x.1] := rfl
 refine Mine.gen (WL.zipIdx.map (fun x => x.1 + (pickL cl (some (x.2 : Int)) none (some 6)).sum)) fun dr edr => ?_
 have ldr : dr.length = 6 := by rw [<- edr, length_map]; rfl
 rw [ezp, est]
 refine Mine.gen (H2 ++ [(aI.list (WL.map AV.int), 0)]) fun H3 eH3 => ?_
 have q3 : H2 <+: H3 := eH3 ▸ aZ _ _
 have iS : H3[H2.length]? = some (aI.list (WL.map AV.int), 0) := eH3 ▸ bW _ _
 rw [eH3]
 have eC3 := aS (q2.trans q3) eC1
 refine c_ (β := Int × Nat) (inj := fun x => .tup [.int x.2, .int x.1]) (p := fun zz => true) (out := fun x => .int (x.1 + (pickL cl (some (x.2 : Int)) none (some 6)).sum)) (xs := WL.zipIdx) (hg := fun x hx => (by rw [mem_singleton.mp hx]; exact iS)) (hl := by decide) ?_ ?_
 ·intro x hx e' h' he' p'
  have f1 := he' "cells" (by simp)
  simp! [id_eq] at f1
  have ec := aS p' eC3
  have hcl' : cl.length <= 1000000 := by omega
  simp! [gJ, ne_eq, not_false_eq_true, f1, fO, gG, jE, ec, hcl', xY, Int.reduceEq, BB, iE, iM]
  exact ⟨rfl, (he'.put (by decide)).put (by decide), p'.trans (aZ _ _)⟩
 intro h3 p3
 rw [iK]
 have edr' : WL.zipIdx.map (fun x => AV.int (x.1 + (pickL cl (some (x.2 : Int)) none (some 6)).sum)) = dr.map .int := by rw [<- edr, map_map]; rfl
 rw [edr']
 refine Mine.gen (h3 ++ [(aI.list (dr.map AV.int), 0)]) fun H4 eH4 => ?_
 have q4 : H3 <+: H4 := eH4 ▸ jU p3 _
 have iD : H4[h3.length]? = some (aI.list (dr.map AV.int), 0) := eH4 ▸ bW _ _
 rw [eH4]
 have ebo : (aI.list [AV.tup [AV.int 0, AV.int 1], AV.tup [AV.int 0, AV.int 2], AV.tup [AV.int 1, AV.int 2], AV.tup [AV.int 0, AV.int 3], AV.tup [AV.int 1, AV.int 3], AV.tup [AV.int 2, AV.int 3]]) = .list (LJ.map pU) := rfl
 have iB : (H4 ++ [(aI.list (LJ.map pU), 0)])[H4.length]? = some (aI.list (LJ.map pU), 0) := bW _ _
 have iD' := aS (aZ H4 [(aI.list (LJ.map pU), 0)]) iD
 have ez := ME iD' iB (by rw [length_map, ldr]; rfl)
 have ezz : ((dr.map AV.int).zip (LJ.map pU)).map (fun p => AV.tup [p.1, p.2]) = (dr.zip LJ).map fun x => AV.tup [.int x.1, pU x.2] := by
  rw [List.zip_map, map_map]; rfl
 rw [ezz] at ez
 simp! [ebo, ez]
 have lz : (dr.zip LJ).length <= 6 := by rw [List.length_zip, ldr]; exact Nat.min_le_left _ _
 refine c_ (β := Int × (Int × Int)) (inj := fun x => .tup [.int x.1, pU x.2]) (p := fun x => decide (x.1.fmod 4 > 0)) (out := fun x => .tup [.int (x.1.fdiv 4), pU x.2]) (xs := dr.zip LJ) (hg := ?_) (hl := by omega) ?_ ?_
 ·intro g hg
  have pA := aZ (H4 ++ [(aI.list (LJ.map pU), 0)]) [(aI.junk, 0)]
  rw [append_assoc] at pA
  simp only [mem_cons, not_mem_nil, or_false] at hg
  rcases hg with rfl | rfl | rfl
  ·exact aS pA iD'
  ·exact aS pA iB
  ·exact eJ H4 _ 1
 ·intro x hx e' h' he' p'
  simp! [lY (show (4 : Int) ≠ 0 by decide)]
  cases hc : decide (x.1.fmod 4 > 0) with
  | true =>
   simp! [sZ (show (4 : Int) ≠ 0 /\ (4 : Int).natAbs < 1073741824 by decide)]
   exact ⟨rfl, (he'.put (by decide)).put (by decide), p'⟩
  | false =>
   simp! [id_eq]
   exact ⟨rfl, (he'.put (by decide)).put (by decide), p'⟩
 intro h4 p4
 refine Mine.gen (((dr.zip LJ).filter fun x => decide (x.1.fmod 4 > 0)).map fun x => (x.1.fdiv 4, x.2)) fun sn esn => ?_
 have esn' : ((dr.zip LJ).filter fun x => decide (x.1.fmod 4 > 0)).map (fun x => AV.tup [.int (x.1.fdiv 4), pU x.2]) = sn.map fun x => .tup [.int x.1, pU x.2] := by rw [<- esn, map_map]; rfl
 have lsn : sn.length <= 6 := by
  rw [<- esn, length_map]
  exact Nat.le_trans (length_filter_le _ _) lz
 have hsn : ∀ x ∈ sn, x.2.1 ∈ r4 /\ x.2.2 ∈ r4 /\ x.2.1 ≠ x.2.2 := fun x hx => by
  rw [<- esn] at hx
  obtain ⟨y, hy, rfl⟩ := mem_map.mp hx
  exact VT _ (List.of_mem_zip (mem_filter.mp hy).1).2
 rw [esn']
 have p4' : H4 <+: h4 := (aZ _ _).trans p4
 refine Mine.gen (h4 ++ [(aI.list (sn.map fun x => AV.tup [.int x.1, pU x.2]), 0)]) fun H5 eH5 => ?_
 have q5 : H2 <+: H5 := eH5 ▸ ((q3.trans q4).trans p4').trans (aZ _ _)
 have iS5 : H5[h4.length]? = some (aI.list (sn.map fun x => AV.tup [.int x.1, pU x.2]), 0) := eH5 ▸ bW _ _
 rw [eH5]
 simp! [fA, iS5]
 refine c_ (β := Int × (Int × Int)) (inj := fun x => .tup [.int x.1, pU x.2]) (p := fun zz => true) (out := fun x => pU x.2) (xs := sn) (hg := fun x hx => (by rw [mem_singleton.mp hx]; exact iS5)) (hl := by omega) ?_ ?_
 ·intro x hx e' h' he' p'
  simp! [id_eq]
  exact ⟨rfl, (he'.put (by decide)).put (by decide), p'⟩
 intro h5 p5
 rw [iK]
 refine Mine.gen (h5 ++ [(aI.list (sn.map fun x => pU x.2), 0)]) fun H6 eH6 => ?_
 have q6 : H5 <+: H6 := eH6 ▸ jU p5 _
 have iP6 : H6[h5.length]? = some (aI.list (sn.map fun x => pU x.2), 0) := eH6 ▸ bW _ _
 have iS6 := aS q6 iS5
 have iC6 := iC.mono (q5.trans q6)
 rw [eH6]
 simp! [fA, iS6]
 refine gP (inj := fun x : Int × (Int × Int) => AV.tup [.int x.1, pU x.2]) (fun dn acc st => ∃ (ps : NL) (rp : RP), acc = ps.map (fun p => AV.ref p.1) /\ ps.map (·.2) = rp.map (·.2) /\ rp.map (·.1) = dn.map (·.2) /\ (∀ x ∈ rp, jP cs x.1 x.2) /\ PL st.hp ps /\ (∀ p ∈ ps, p.1 < st.hp.length) /\ H6 <+: st.hp /\ st.env.lookup "counts" = some (.ref h2.length)) (fun dn acc st zI x hx => ?_) sn [] [] _ _ ?_ ?_ ?_
 ·obtain ⟨_, _, _, _, _, _, _, _, p, _⟩ := zI
  rw [mem_singleton.mp hx]; exact aS p iS6
 ·rintro x hx dn acc ⟨e', h'⟩ zI
  obtain ⟨ps, rp, rfl, e1, e2, V, pl, lt, p', f1⟩ := zI
  simp only at pl lt p' f1
  obtain ⟨xa, xb, xn⟩ := hsn x hx
  simp! [f1, F3, C0]
  refine P_ (iC6.mono p') hC xa xb xn fun h7 r row p7 lr ir Vr => ?_
  simp! [id_eq]
  refine ⟨ps ++ [(r, row)], rp ++ [(x.2, row)], by simp, by simp [e1], by simp [e2], fun y hy => ?_, fun p hp => ?_, fun p hp => ?_, p'.trans p7, ?_⟩
  ·rcases mem_append.mp hy with hy | hy
   ·exact V y hy
   ·rw [mem_singleton.mp hy]; exact Vr
  ·rcases mem_append.mp hp with hp | hp
   ·exact (pl p hp).mono p7
   ·rw [mem_singleton.mp hp]; exact ir
  ·rcases mem_append.mp hp with hp | hp
   ·exact Nat.lt_of_lt_of_le (lt p hp) p7.length_le
   ·rw [mem_singleton.mp hp]; exact ir.lt
  ·simp! [f1]
 ·refine ⟨[], [], rfl, rfl, rfl, fun x hx => absurd hx not_mem_nil, fun x hx => absurd hx not_mem_nil, fun x hx => absurd hx not_mem_nil, prefix_refl _, ?_⟩
  rw [fC _ _ (by simp)]; simp! [id_eq]
 rintro ys ⟨e7, h7⟩ zI
 obtain ⟨ps, rp, hy, e1, e2, V, pl, lt, p7, _⟩ := zI
 rw [nil_append] at hy e2
 subst hy
 simp only at pl lt p7
 have lrp : rp.length <= 6 := by
  have := congrArg List.length e2
  rw [length_map, length_map] at this; omega
 have lps : ps.length <= 6 := by
  have := congrArg List.length e1
  rw [length_map, length_map] at this; omega
 refine ⟨by rw [length_map]; omega, ?_⟩
 refine Mine.gen (h7 ++ [(aI.list (ps.map fun p => AV.ref p.1), 0)]) fun H7 eH7 => ?_
 have q7 : H6 <+: H7 := eH7 ▸ jU p7 _
 have iR : RL H7 0 h7.length (rp.map (·.2)) := by
  refine ⟨ps.map (·.1), 0, ?_, ⟨fun hm => ?_, fun zz zz => Nat.zero_le _⟩, ?_⟩
  ·rw [<- eH7, map_map]; exact bW _ _
  ·obtain ⟨p, hp, e⟩ := mem_map.mp hm
   have := lt p hp
   rw [e] at this
   exact Nat.lt_irrefl _ this
  ·rw [<- e1, <- eH7]; exact (pl.mono (aZ _ _)).ils
 have ePr : (sn.map fun x => pU x.2) = rp.map pT := by
  have : (rp.map (·.1)).map pU = (sn.map (·.2)).map pU := by rw [e2]
  rw [map_map, map_map] at this
  exact this.symm
 rw [ePr] at iP6
 have iP7 := aS q7 iP6
 have iC7 := iC6.mono q7
 rw [eH7]
 simp! [id_eq]
 refine yU (pk := 0) iR iP7 iC7 hC V lrp (.inl rfl) fun h8 p8 => ?_
 obtain ⟨ps0, kR, eR, e0, pl0⟩ := (iR.nls).mono p8
 have l0 : ps0.length <= 6 := by
  have := congrArg List.length e0
  rw [length_map, length_map] at this; omega
 have le0 : ∀ p ∈ ps0, p.2.length <= 4 := fun p hp => by
  have : p.2 ∈ rp.map (·.2) := e0 ▸ mem_map.mpr ⟨p, hp, rfl⟩
  obtain ⟨x, hx, e⟩ := mem_map.mp this
  rw [<- e]; exact (V x hx).len hC
 simp! [dJ, Bool.not_true, fA, eR]
 refine gP (inj := fun p : Nat × List Int => AV.ref p.1) (fun dn acc st => ∃ ps : NL, acc = ps.map (fun p => AV.ref p.1) /\ ps.map (·.2) = dn.map (fun p => p.2.reverse) /\ PL st.hp ps /\ (∀ p ∈ ps, p.1 < st.hp.length) /\ h8 <+: st.hp) (fun dn acc st zI x hx => ?_) ps0 [] [] _ _ ?_ ?_ ?_
 ·obtain ⟨_, _, _, _, _, p⟩ := zI
  rw [mem_singleton.mp hx]; exact aS p eR
 ·rintro p hp dn acc ⟨e', h'⟩ zI
  obtain ⟨ps, rfl, e2, pl, lt, p'⟩ := zI
  simp only at pl lt p'
  obtain ⟨kp, ep⟩ := (pl0 p hp).mono p'
  have lp := le0 p hp
  have lp' : p.2.length <= 1000000 := by omega
  simp! [gJ, ne_eq, not_false_eq_true, fO, gG, jE, ep, lp', Int.reduceNeg, Int.reduceEq, JW lp]
  refine ⟨ps ++ [(h'.length, p.2.reverse)], by simp, by simp [e2], fun x hx => ?_, fun x hx => ?_, p'.trans (aZ _ _)⟩
  ·rcases mem_append.mp hx with hx | hx
   ·exact (pl x hx).mono (aZ _ _)
   ·rw [mem_singleton.mp hx]; exact ⟨0, bW _ _⟩
  ·rcases mem_append.mp hx with hx | hx
   ·have := lt x hx; omega
   ·rw [mem_singleton.mp hx]; omega
 ·exact ⟨[], rfl, rfl, fun x hx => absurd hx not_mem_nil, fun x hx => absurd hx not_mem_nil, prefix_refl _⟩
 rintro ys ⟨e9, h9⟩ zI
 obtain ⟨ps9, hy, e9', pl9, lt9, p9⟩ := zI
 rw [nil_append] at hy e9'
 subst hy
 simp only at pl9 lt9 p9
 have l9 : ps9.length <= 6 := by
  have := congrArg List.length e9'
  rw [length_map, length_map] at this; omega
 refine ⟨by rw [length_map]; omega, ?_⟩
 have q9 : H7 <+: h9 ++ [(aI.list (ps9.map fun p => AV.ref p.1), 0)] := (p8.trans p9).trans (aZ _ _)
 have iR9 : RL (h9 ++ [(aI.list (ps9.map fun p => AV.ref p.1), 0)]) 0 h9.length ((rp.map fun x => (x.1, x.2.reverse)).map (·.2)) := by
  refine ⟨ps9.map (·.1), 0, ?_, ⟨fun hm => ?_, fun zz zz => Nat.zero_le _⟩, ?_⟩
  ·rw [map_map]; exact bW _ _
  ·obtain ⟨p, hp, e⟩ := mem_map.mp hm
   have := lt9 p hp
   rw [e] at this
   exact Nat.lt_irrefl _ this
  ·have : (rp.map fun x => (x.1, x.2.reverse)).map (·.2) = ps9.map (·.2) := by
    have h1 : (ps0.map (·.2)).map List.reverse = (rp.map (·.2)).map List.reverse := by rw [e0]
    rw [map_map, map_map] at h1
    rw [map_map]
    exact (e9'.trans h1).symm
   rw [this]; exact (pl9.mono (aZ _ _)).ils
 have ePr9 : rp.map pT = (rp.map fun x => (x.1, x.2.reverse)).map pT := by rw [map_map]; rfl
 rw [ePr9] at iP7
 simp! [Int.reduceNeg]
 refine yU (pk := -1) iR9 (aS q9 iP7) (iC7.mono q9) hC (fun x hx => ?_) (by rw [length_map]; exact lrp) (.inr rfl) fun h10 p10 => ?_
 ·obtain ⟨y, hy, rfl⟩ := mem_map.mp hx
  exact (V y hy).rev
 ·simp! [id_eq]
  exact k _
end Mine
open PySem PySem.W PyProof.Rows
namespace Mine
noncomputable def modHook (K : Params -> Frag) (as : List Addr) (e : ∀ P, as = (K P).map (·.1)) : Hook :=
 ⟨(kHook K as e).α × Bool, fun s => ((kHook K as e).obs s, (s.heap.get? sysModules).isSome), fun w => ((kHook K as e).val w, true), fun w h => (kHook K as e).says w h /\ (h.get? sysModules).isSome = true,
  fun w s q => ⟨(kHook K as e).of w s (congrArg Prod.fst q), congrArg Prod.snd q⟩, fun w h h' q hk => ⟨(kHook K as e).keeps w h h' q.1 hk, by
   obtain ⟨o, ho⟩ := Option.isSome_iff_exists.mp q.2
   rw [hk _ _ ho]; rfl⟩⟩
end Mine
theorem Mine.h0.tw10041430953259511950 : True := ⟨⟩
theorem Mine.h0.tw3173669058703137992 : True := ⟨⟩
section
local macro_rules
 | `(tactic| o_head $_) => pure (Mine.d "'exact absurd h id /2null /2Lean.Parser.Term.app /2Lean.Parser.Tactic.exact" [])
set_option Elab.async true
set_option maxHeartbeats 8000000 in
theorem Mine.h0 (h : False) : PySem.Challenge.rw_ik0180_02.Holds := by
 w_on; o_law; k_head
end
namespace Mine
noncomputable abbrev KK (P : Params) : Frag := h0.heap_1_39 P
noncomputable def fFilter.got (P : Params) : {fd : FuncData // (KK P).lookup 65 = some ⟨.type "function", none, .func fd, #[]⟩} := ⟨_, rfl⟩
noncomputable abbrev fFilter.fd (P : Params) : FuncData := (fFilter.got P).1
noncomputable def fFilter.took : {b : List Stmt // ∀ P : Params, (fFilter.fd P).body = .stmts b} := ⟨_, fun zz => rfl⟩
noncomputable abbrev fFilter.body : List Stmt := fFilter.took.1
noncomputable def fNiInit.got (P : Params) : {fd : FuncData // (KK P).lookup 80 = some ⟨.type "function", none, .func fd, #[]⟩} := ⟨_, rfl⟩
noncomputable abbrev fNiInit.fd (P : Params) : FuncData := (fNiInit.got P).1
noncomputable def fNiInit.took : {b : List Stmt // ∀ P : Params, (fNiInit.fd P).body = .stmts b} := ⟨_, fun zz => rfl⟩
noncomputable abbrev fNiInit.body : List Stmt := fNiInit.took.1
noncomputable def fFfInit.got (P : Params) : {fd : FuncData // (KK P).lookup 36 = some ⟨.type "function", none, .func fd, #[]⟩} := ⟨_, rfl⟩
noncomputable abbrev fFfInit.fd (P : Params) : FuncData := (fFfInit.got P).1
noncomputable def fFfInit.took : {b : List Stmt // ∀ P : Params, (fFfInit.fd P).body = .stmts b} := ⟨_, fun zz => rfl⟩
noncomputable abbrev fFfInit.body : List Stmt := fFfInit.took.1
noncomputable def fFfIter.got (P : Params) : {fd : FuncData // (KK P).lookup 43 = some ⟨.type "function", none, .func fd, #[]⟩} := ⟨_, rfl⟩
noncomputable abbrev fFfIter.fd (P : Params) : FuncData := (fFfIter.got P).1
noncomputable def fFfIter.took : {b : List Stmt // ∀ P : Params, (fFfIter.fd P).body = .stmts b} := ⟨_, fun zz => rfl⟩
noncomputable abbrev fFfIter.body : List Stmt := fFfIter.took.1
noncomputable def fFfNext.got (P : Params) : {fd : FuncData // (KK P).lookup 50 = some ⟨.type "function", none, .func fd, #[]⟩} := ⟨_, rfl⟩
noncomputable abbrev fFfNext.fd (P : Params) : FuncData := (fFfNext.got P).1
noncomputable def fFfNext.took : {b : List Stmt // ∀ P : Params, (fFfNext.fd P).body = .stmts b} := ⟨_, fun zz => rfl⟩
noncomputable abbrev fFfNext.body : List Stmt := fFfNext.took.1
noncomputable def fUld.got (P : Params) : {fd : FuncData // (KK P).lookup 192 = some ⟨.type "function", none, .func fd, #[]⟩} := ⟨_, rfl⟩
noncomputable abbrev fUld.fd (P : Params) : FuncData := (fUld.got P).1
noncomputable def fUld.took : {b : List Stmt // ∀ P : Params, (fUld.fd P).body = .stmts b} := ⟨_, fun zz => rfl⟩
noncomputable abbrev fUld.body : List Stmt := fUld.took.1
noncomputable def fLaw.got (P : Params) : {fd : FuncData // (KK P).lookup 224 = some ⟨.type "function", none, .func fd, #[]⟩} := ⟨_, rfl⟩
noncomputable abbrev fLaw.fd (P : Params) : FuncData := (fLaw.got P).1
noncomputable def fLaw.took : {b : List Stmt // ∀ P : Params, (fLaw.fd P).body = .stmts b} := ⟨_, fun zz => rfl⟩
noncomputable abbrev fLaw.body : List Stmt := fLaw.took.1
noncomputable def fTsInit.got (P : Params) : {fd : FuncData // (KK P).lookup 117 = some ⟨.type "function", none, .func fd, #[]⟩} := ⟨_, rfl⟩
noncomputable abbrev fTsInit.fd (P : Params) : FuncData := (fTsInit.got P).1
noncomputable def fTsInit.took : {b : List Stmt // ∀ P : Params, (fTsInit.fd P).body = .stmts b} := ⟨_, fun zz => rfl⟩
noncomputable abbrev fTsInit.body : List Stmt := fTsInit.took.1
noncomputable def fGni.got (P : Params) : {fd : FuncData // (KK P).lookup 124 = some ⟨.type "function", none, .func fd, #[]⟩} := ⟨_, rfl⟩
noncomputable abbrev fGni.fd (P : Params) : FuncData := (fGni.got P).1
noncomputable def fGni.took : {b : List Stmt // ∀ P : Params, (fGni.fd P).body = .stmts b} := ⟨_, fun zz => rfl⟩
noncomputable abbrev fGni.body : List Stmt := fGni.took.1
noncomputable def fAdd.got (P : Params) : {fd : FuncData // (KK P).lookup 131 = some ⟨.type "function", none, .func fd, #[]⟩} := ⟨_, rfl⟩
noncomputable abbrev fAdd.fd (P : Params) : FuncData := (fAdd.got P).1
noncomputable def fAdd.took : {b : List Stmt // ∀ P : Params, (fAdd.fd P).body = .stmts b} := ⟨_, fun zz => rfl⟩
noncomputable abbrev fAdd.body : List Stmt := fAdd.took.1
noncomputable def fPrepare.got (P : Params) : {fd : FuncData // (KK P).lookup 136 = some ⟨.type "function", none, .func fd, #[]⟩} := ⟨_, rfl⟩
noncomputable abbrev fPrepare.fd (P : Params) : FuncData := (fPrepare.got P).1
noncomputable def fPrepare.took : {b : List Stmt // ∀ P : Params, (fPrepare.fd P).body = .stmts b} := ⟨_, fun zz => rfl⟩
noncomputable abbrev fPrepare.body : List Stmt := fPrepare.took.1
noncomputable def fGetReady.got (P : Params) : {fd : FuncData // (KK P).lookup 143 = some ⟨.type "function", none, .func fd, #[]⟩} := ⟨_, rfl⟩
noncomputable abbrev fGetReady.fd (P : Params) : FuncData := (fGetReady.got P).1
noncomputable def fGetReady.took : {b : List Stmt // ∀ P : Params, (fGetReady.fd P).body = .stmts b} := ⟨_, fun zz => rfl⟩
noncomputable abbrev fGetReady.body : List Stmt := fGetReady.took.1
noncomputable def fDone.got (P : Params) : {fd : FuncData // (KK P).lookup 164 = some ⟨.type "function", none, .func fd, #[]⟩} := ⟨_, rfl⟩
noncomputable abbrev fDone.fd (P : Params) : FuncData := (fDone.got P).1
noncomputable def fDone.took : {b : List Stmt // ∀ P : Params, (fDone.fd P).body = .stmts b} := ⟨_, fun zz => rfl⟩
noncomputable abbrev fDone.body : List Stmt := fDone.took.1
noncomputable def fFindCycle.got (P : Params) : {fd : FuncData // (KK P).lookup 171 = some ⟨.type "function", none, .func fd, #[]⟩} := ⟨_, rfl⟩
noncomputable abbrev fFindCycle.fd (P : Params) : FuncData := (fFindCycle.got P).1
noncomputable def fFindCycle.took : {b : List Stmt // ∀ P : Params, (fFindCycle.fd P).body = .stmts b} := ⟨_, fun zz => rfl⟩
noncomputable abbrev fFindCycle.body : List Stmt := fFindCycle.took.1
noncomputable def fRow.got (P : Params) : {fd : FuncData // (KK P).lookup 199 = some ⟨.type "function", none, .func fd, #[]⟩} := ⟨_, rfl⟩
noncomputable abbrev fRow.fd (P : Params) : FuncData := (fRow.got P).1
noncomputable def fRow.took : {b : List Stmt // ∀ P : Params, (fRow.fd P).body = .stmts b} := ⟨_, fun zz => rfl⟩
noncomputable abbrev fRow.body : List Stmt := fRow.took.1
noncomputable def fSorter.got (P : Params) : {fd : FuncData // (KK P).lookup 204 = some ⟨.type "function", none, .func fd, #[]⟩} := ⟨_, rfl⟩
noncomputable abbrev fSorter.fd (P : Params) : FuncData := (fSorter.got P).1
noncomputable def fSorter.took : {b : List Stmt // ∀ P : Params, (fSorter.fd P).body = .stmts b} := ⟨_, fun zz => rfl⟩
noncomputable abbrev fSorter.body : List Stmt := fSorter.took.1
noncomputable def fLog.got (P : Params) : {fd : FuncData // (KK P).lookup 209 = some ⟨.type "function", none, .func fd, #[]⟩} := ⟨_, rfl⟩
noncomputable abbrev fLog.fd (P : Params) : FuncData := (fLog.got P).1
noncomputable def fLog.took : {b : List Stmt // ∀ P : Params, (fLog.fd P).body = .stmts b} := ⟨_, fun zz => rfl⟩
noncomputable abbrev fLog.body : List Stmt := fLog.took.1
noncomputable def fQueued.got (P : Params) : {fd : FuncData // (KK P).lookup 214 = some ⟨.type "function", none, .func fd, #[]⟩} := ⟨_, rfl⟩
noncomputable abbrev fQueued.fd (P : Params) : FuncData := (fQueued.got P).1
noncomputable def fQueued.took : {b : List Stmt // ∀ P : Params, (fQueued.fd P).body = .stmts b} := ⟨_, fun zz => rfl⟩
noncomputable abbrev fQueued.body : List Stmt := fQueued.took.1
noncomputable def fHolds.got (P : Params) : {fd : FuncData // (KK P).lookup 219 = some ⟨.type "function", none, .func fd, #[]⟩} := ⟨_, rfl⟩
noncomputable abbrev fHolds.fd (P : Params) : FuncData := (fHolds.got P).1
noncomputable def fHolds.took : {b : List Stmt // ∀ P : Params, (fHolds.fd P).body = .stmts b} := ⟨_, fun zz => rfl⟩
noncomputable abbrev fHolds.body : List Stmt := fHolds.took.1
noncomputable def QS : List (String × Addr) := [("_NodeInfo", 84), ("CycleError", 99), ("TopologicalSorter", 181), ("filterfalse", 54)]
noncomputable def AA (x : String) : Option Addr := QS.lookup x
structure Gd (G : a_) : Prop where
 gx : GX G
 k : (KK G.w.params).In G.h₀
 addr : G.addr = AA
 g_list : cZ G "list" (.type "list")
 g_range : cZ G "range" (.type "range")
 g_tuple : cZ G "tuple" (.type "tuple")
 g_set : cZ G "set" (.type "set")
 g_int : cZ G "int" (.type "int")
 g_bool : cZ G "bool" (.type "bool")
 g_enumerate : cZ G "enumerate" (.type "enumerate")
 g_ValueError : cZ G "ValueError" (.type "ValueError")
 g_StopIteration : cZ G "StopIteration" (.type "StopIteration")
 g_len : cZ G "len" (.builtin "len")
 g_sum : cZ G "sum" (.builtin "sum")
 g_sorted : cZ G "sorted" (.builtin "sorted")
 g_iter : cZ G "iter" (.builtin "iter")
 g_next : cZ G "next" (.builtin "next")
 g_NODE_OUT : cZ G "_NODE_OUT" (.int (-1) 259)
 g_NODE_DONE : cZ G "_NODE_DONE" (.int (-2) 262)
 g_NodeInfo : cZ G "_NodeInfo" (.ref 84)
 g_CycleError : cZ G "CycleError" (.ref 99)
 g_TopologicalSorter : cZ G "TopologicalSorter" (.ref 181)
 g_filterfalse : cZ G "filterfalse" (.ref 54)
 g_filter : cZ G "_filter" (.ref 65)
 g_uld : cZ G "unorderable_list_difference" (.ref 192)
 g_zip : cZ G "zip" (.type "zip")
 g_row : cZ G "_law_row" (.ref 199)
 g_sorter : cZ G "_law_sorter" (.ref 204)
 g_log : cZ G "_law_log" (.ref 209)
 g_queued : cZ G "_law_queued" (.ref 214)
 g_holds : cZ G "_law_holds" (.ref 219)
 own : OwnCls (Str.ofString "CycleError") 99 [.type "ValueError", .type "Exception", .type "BaseException", .type "object"] "ValueError.__new__" G.mg G.h₀
section
variable {G : a_}
theorem Gd.gk (gr : Gd G) : GOk G := gr.gx.toGOk
theorem Gd.hse (gr : Gd G) : G.addr "StopIteration" = none := by rw [gr.addr]; decide
theorem Gd.hff (gr : Gd G) : G.addr "filterfalse" = some 54 := by rw [gr.addr]; decide
theorem Gd.hni (gr : Gd G) : G.addr "_NodeInfo" = some 84 := by rw [gr.addr]; decide
theorem Gd.hts (gr : Gd G) : G.addr "TopologicalSorter" = some 181 := by rw [gr.addr]; decide
theorem Gd.hce (gr : Gd G) : G.addr "CycleError" = some 99 := by rw [gr.addr]; decide
theorem Gd.ex_stop (gr : Gd G) : exmOne (KK G.w.params) (eK G "StopIteration") (.type "StopIteration") = some true := by
 unfold eK; rw [gr.hse]; kernel_rfl
theorem Gd.ex_value (gr : Gd G) : exmOne (KK G.w.params) (eK G "ValueError") (.type "ValueError") = some true := by
 have : G.addr "ValueError" = none := by rw [gr.addr]; decide
 unfold eK; rw [this]; kernel_rfl
theorem Gd.ex_cycle (gr : Gd G) : exmOne (KK G.w.params) (eK G "CycleError") (.ref 99) = some true := by
 unfold eK; rw [gr.hce]; kernel_rfl
theorem rO (P : Params) {C p : Addr} {name : String} {i : Nat} (hg : plainGet (KK P) C (Str.ofString name) = true) (hc : isClsIn (KK P) C = true) (hs : findIn (KK P) (.ref C) "__setattr__" = some (some (.builtin "object.__setattr__"))) (hp : plainOver (KK P) C = true) (hz : i < 1000)
  (h1 : findIn (KK P) (.ref C) (Str.ofString name) = some (some (.ref p))) (h2 : specialIn (KK P) (.ref p) "__get__" = some (some (.builtin "member_descriptor.__get__"))) (h3 : takesIn (KK P) (.ref p) = some true) (h4 : slotIn (KK P) p C = some i)
  (h5 : takerIn (KK P) C (Str.ofString name) = some (some (.ref p))) (h6 : typeIn (KK P) (.ref p) = some (.type "member_descriptor")) : CE (KK P) C name i := ⟨hg, hc, hs, hp, hz, p, h1, h2, h3, h4, h5, h6⟩
theorem TC (P : Params) {C : Addr} {name : String} (hg : plainGet (KK P) C (Str.ofString name) = true) (hh : hasDictIn (KK P) C = true) (ha : findIn (KK P) (.ref C) (Str.ofString name) = some none) (hn : noGet (KK P) none = true)
  (hs : findIn (KK P) (.ref C) "__setattr__" = some (some (.builtin "object.__setattr__"))) (hp : plainOver (KK P) C = true) (ht : takerIn (KK P) C (Str.ofString name) = some none) : CL (KK P) C name := ⟨hg, hh, ⟨none, ha, hn⟩, hs, hp, ht⟩
theorem p_ {α β : Type} [BEq α] [LawfulBEq α] {a : α} {b : β} : ∀ {l : List (α × β)}, l.lookup a = some b -> (a, b) ∈ l
 | [], h => by cases h
 | (x, y) :: l, h => by
  rw [lookup_cons] at h
  split at h
  ·rename_i e; cases h; rw [beq_iff_eq.mp e]; exact mem_cons_self
  ·exact mem_cons_of_mem _ (p_ h)
theorem R_ {c n : String} (h : dA c n = some none) : c = "TopologicalSorter" /\ (n = "_node2info" \/ n = "_ready_nodes" \/ n = "_npassedout" \/ n = "_nfinished") := by
 have := p_ h
 simp [ND] at this
 rcases this with ⟨rfl, rfl⟩ | ⟨rfl, rfl⟩ | ⟨rfl, rfl⟩ | ⟨rfl, rfl⟩ <;> simp
theorem TA {c n : String} {i : Nat} (h : dA c n = some (some i)) : (c = "_NodeInfo" /\ ((n = "node" /\ i = 0) \/ (n = "npredecessors" /\ i = 1) \/ (n = "successors" /\ i = 2))) \/ (c = "filterfalse" /\ ((n = "_func" /\ i = 0) \/ (n = "_it" /\ i = 1))) := by
 have := p_ h
 simp [ND] at this
 rcases this with ⟨⟨rfl, rfl⟩, rfl⟩ | ⟨⟨rfl, rfl⟩, rfl⟩ | ⟨⟨rfl, rfl⟩, rfl⟩ | ⟨⟨rfl, rfl⟩, rfl⟩ | ⟨⟨rfl, rfl⟩, rfl⟩ <;> simp
theorem Gd.attrs (gr : Gd G) : zF G (KK G.w.params) dA where
 k := gr.k
 dict := fun c n C hC hi => by
  obtain ⟨rfl, hn⟩ := R_ hi
  rw [gr.hts] at hC; cases hC
  rcases hn with rfl | rfl | rfl | rfl <;> exact TC _ (by ext) (by ext) (by ext) (by ext) (by ext) (by ext) (by ext)
 slot := fun c n C i hC hi => by
  rcases TA hi with ⟨rfl, hn⟩ | ⟨rfl, hn⟩
  ·rw [gr.hni] at hC; cases hC
   rcases hn with ⟨rfl, rfl⟩ | ⟨rfl, rfl⟩ | ⟨rfl, rfl⟩
   ·exact rO _ (p := 85) (by ext) (by ext) (by ext) (by ext) (by decide) (by ext) (by ext) (by ext) (by ext) (by ext) (by ext)
   ·exact rO _ (p := 86) (by ext) (by ext) (by ext) (by ext) (by decide) (by ext) (by ext) (by ext) (by ext) (by ext) (by ext)
   ·exact rO _ (p := 87) (by ext) (by ext) (by ext) (by ext) (by decide) (by ext) (by ext) (by ext) (by ext) (by ext) (by ext)
  ·rw [gr.hff] at hC; cases hC
   rcases hn with ⟨rfl, rfl⟩ | ⟨rfl, rfl⟩
   ·exact rO _ (p := 55) (by ext) (by ext) (by ext) (by ext) (by decide) (by ext) (by ext) (by ext) (by ext) (by ext) (by ext)
   ·exact rO _ (p := 56) (by ext) (by ext) (by ext) (by ext) (by decide) (by ext) (by ext) (by ext) (by ext) (by ext) (by ext)
theorem TB (P : Params) : BK (KK P) 54 36 := ⟨by kernel_rfl, by kernel_rfl, by kernel_rfl⟩
theorem QC (P : Params) : BK (KK P) 84 80 := ⟨by kernel_rfl, by kernel_rfl, by kernel_rfl⟩
theorem SO (P : Params) : BK (KK P) 181 117 := ⟨by kernel_rfl, by kernel_rfl, by kernel_rfl⟩
theorem Gd.own_ff (gr : Gd G) : BL G (KK G.w.params) "filterfalse" 54 50 43 := ⟨gr.hff, gr.k, by kernel_rfl, by kernel_rfl, by kernel_rfl, by kernel_rfl, by kernel_rfl, by kernel_rfl⟩
theorem iX (P : Params) : MethAt (KK P) 181 124 "_get_nodeinfo" /\ MethAt (KK P) 181 131 "add" /\ MethAt (KK P) 181 136 "prepare" /\ MethAt (KK P) 181 143 "get_ready" /\ MethAt (KK P) 181 164 "done" /\ MethAt (KK P) 181 171 "_find_cycle" :=
 ⟨⟨by kernel_rfl, by kernel_rfl, by kernel_rfl, by kernel_rfl⟩, ⟨by kernel_rfl, by kernel_rfl, by kernel_rfl, by kernel_rfl⟩, ⟨by kernel_rfl, by kernel_rfl, by kernel_rfl, by kernel_rfl⟩, ⟨by kernel_rfl, by kernel_rfl, by kernel_rfl, by kernel_rfl⟩, ⟨by kernel_rfl, by kernel_rfl, by kernel_rfl, by kernel_rfl⟩, ⟨by kernel_rfl, by kernel_rfl, by kernel_rfl, by kernel_rfl⟩⟩
end
theorem lI {P : List Value -> Prop} (h : ∀ a, P [a]) (vs : List Value) (e : vs.length = 1) : P vs := by
 obtain ⟨a, rfl⟩ := List.length_eq_one_iff.mp e
 exact h a
theorem mV {P : List Value -> Prop} (h : ∀ a b, P [a, b]) (vs : List Value) (e : vs.length = 2) : P vs := by
 cases vs with
 | nil => cases e
 | cons a vs => exact lI (P := fun l => P (a :: l)) (fun b => h a b) vs (Nat.succ.inj e)
theorem uL {P : List Value -> Prop} (h : ∀ a b c, P [a, b, c]) (vs : List Value) (e : vs.length = 3) : P vs := by
 cases vs with
 | nil => cases e
 | cons a vs => exact mV (P := fun l => P (a :: l)) (fun b c => h a b c) vs (Nat.succ.inj e)
section
variable {G : a_} {hd : Bool} {d : Nat}
theorem h_ (gr : Gd G) {w : Value} (h : keepIn (KK G.w.params) w = true) : oW G.M (fun h => G.h₀.StaysIn h) w := fun h' hs => keeps_K h h' (gr.k.keeps hs)
theorem jN {sc : SC} {b : Stmt} : jY G sc hd d AM.bad b := by
 intro A outer env own μ st s fl st' hA hf I hm; cases hm
theorem aA {sc : SC} {x : String} {pos : Pos} (hl : autoParam (((sc.scope.names.lookup (Str.ofString x)).any fun k => k == .local || k == .cell || k == .free) = true) aK) (hc : autoParam ((Str.ofString x == ("__classdict__" : PySem.Str)) = false) aK) (hdb : autoParam ((Str.ofString x == ("__debug__" : PySem.Str)) = false) aK) : b_ G sc hd d (aG x) (.Name (Str.ofString x) pos) := QM hc hdb
theorem fQ {G : a_} (gr : Gd G) {a : Addr} {o : Obj} {fd : FuncData} {b : List Stmt} (h : (KK G.w.params).lookup a = some o) (hd : o.data = .func fd) (hc : codeIn (KK G.w.params) fd.code fd.qualname = true) (hb : fd.body = .stmts b) (hg : fd.globals = mainGlobals) (hu : fd.builtins = builtinsNs) (hl : fd.closure = []) (hk : NY fd.scope = true) : gI G a fd b where
 obj := ⟨o, gr.k _ _ h, hd⟩
 code := codeRec_of gr.k hc
 body := hb
 glob := hg
 bui := hu
 clo := hl
 ok := QN hk
theorem Gd.hve (gr : Gd G) : G.addr "ValueError" = none := by rw [gr.addr]; decide
theorem rR {x : String} {i : Int} {t : Tok} (h : cZ G x (.int i t)) : FW G x (.int i) := ⟨_, h, fun zz zz => .int _ _⟩
theorem SJ {x n : String} (h : cZ G x (.type n)) : FW G x (.ty n) := ⟨_, h, fun zz zz => .ty _⟩
end
section
variable {G : a_} {sc : SC} {d : Nat}
noncomputable def NN (sc : SC) (x : String) : Bool := sc.scope.names.lookup (Str.ofString x) == some NameKind.local || (sc.scope.names.lookup (Str.ofString x) == some NameKind.cell && sc.wr.any fun y => y == Str.ofString x)
theorem aH {x : String} (h : NN sc x = true) : d_ sc x := by
 unfold NN at h
 rw [Bool.or_eq_true, Bool.and_eq_true] at h
 rcases h with h | ⟨h, h'⟩
 ·exact .inl (beq_iff_eq.mp h)
 ·refine .inr ⟨beq_iff_eq.mp h, ?_⟩
  obtain ⟨y, hy, e⟩ := List.any_eq_true.mp h'
  rw [<- beq_iff_eq.mp e]; exact hy
theorem uI {frees : List String} {cs : Scope} (h : (frees.all fun x => cs.names.any fun y => y.1 == Str.ofString x && y.2 == NameKind.free) = true) : ∀ x ∈ frees, (Str.ofString x, NameKind.free) ∈ cs.names := fun x hx => by
 have h1 := List.all_eq_true.mp h x hx
 obtain ⟨y, hy, e⟩ := List.any_eq_true.mp h1
 simp only [Bool.and_eq_true, beq_iff_eq] at e
 obtain ⟨a, b⟩ := y
 simp only at e
 rw [<- e.1, <- e.2]; exact hy
theorem kT {elt : Expr} {t i : Expr} {ifs : List Expr} {cs : Scope} {pos : Pos} {frees : List String} {it : AM kN} {f : AV -> AM Unit} {tst : AM Bool} {me : AM AV}
  (ck : oQ sc cs = true) (hfr : (frees.all fun x => cs.names.any fun y => y.1 == Str.ofString x && y.2 == NameKind.free) = true) (SI : nB G sc d t it i) (ST : fY G (dK sc cs) d f t) (hT : gA f) (STs : lZ G (dK sc cs) d tst ifs) (SE : b_ G (dK sc cs) true d me elt)
  (hfs : autoParam (∀ (env : Env) (x : Value), foldedSetIterable i env x = pure x) aR) : b_ G sc true d (fF frees it f tst (fH me)) (.ListComp elt [⟨t, i, ifs, 0⟩] cs pos) :=
 vD (oM ck) (uI hfr) SI ST hT STs (BH SE) (fun zz zz zz => BP _ _ _) hfs
theorem KU {elt : Expr} {t i t' i' : Expr} {ifs ifs' : List Expr} {cs : Scope} {pos : Pos} {frees : List String} {it it' : AM kN} {f f' : AV -> AM Unit} {tst tst' : AM Bool} {me : AM AV}
  (ck : oQ sc cs = true) (hfr : (frees.all fun x => cs.names.any fun y => y.1 == Str.ofString x && y.2 == NameKind.free) = true) (SI : nB G sc d t it i) (ST : fY G (dK sc cs) d f t) (hT : gA f) (STs : lZ G (dK sc cs) d tst ifs)
  (SI' : nB G (dK sc cs) d t' it' i') (ST' : fY G (dK sc cs) d f' t') (hT' : gA f') (STs' : lZ G (dK sc cs) d tst' ifs') (SE : b_ G (dK sc cs) true d me elt)
  (hfs : autoParam (∀ (env : Env) (x : Value), foldedSetIterable i env x = pure x) aR) (hfs' : autoParam (∀ (env : Env) (x : Value), foldedSetIterable i' env x = pure x) aR) : b_ G sc true d (fF frees it f tst (pZ it' f' tst' (fH me))) (.ListComp elt [⟨t, i, ifs, 0⟩, ⟨t', i', ifs', 0⟩] cs pos) :=
 vD (oM ck) (uI hfr) SI ST hT STs (IQ SI' ST' hT' STs' (BH SE) hfs') (fun zz zz zz => yX _ _ _) hfs
theorem eW {x : String} {elt : Expr} {t i : Expr} {ifs : List Expr} {cs : Scope} {pos p spos : Pos} {frees : List String} {it : AM kN} {f : AV -> AM Unit} {tst : AM Bool} {me : AM AV} (hx : d_ sc x)
  (ck : oQ sc cs = true) (hfr : (frees.all fun x => cs.names.any fun y => y.1 == Str.ofString x && y.2 == NameKind.free) = true) (SI : nB G sc d t it i) (ST : fY G (dK sc cs) d f t) (hT : gA f) (STs : lZ G (dK sc cs) d tst ifs) (SE : b_ G (dK sc cs) true d me elt)
  (hfs : autoParam (∀ (env : Env) (x : Value), foldedSetIterable i env x = pure x) aR) : jY G sc true d (dZ x (fF frees it f tst (fH me))) (.Assign [.Name (Str.ofString x) p] (.ListComp elt [⟨t, i, ifs, 0⟩] cs pos) spos) :=
 x_ hx (oM ck) (uI hfr) SI ST hT STs (BH SE) (fun zz zz zz => BP _ _ _) hfs
theorem GL {x : String} {elt : Expr} {t i t' i' : Expr} {ifs ifs' : List Expr} {cs : Scope} {pos p spos : Pos} {frees : List String} {it it' : AM kN} {f f' : AV -> AM Unit} {tst tst' : AM Bool} {me : AM AV} (hx : d_ sc x)
  (ck : oQ sc cs = true) (hfr : (frees.all fun x => cs.names.any fun y => y.1 == Str.ofString x && y.2 == NameKind.free) = true) (SI : nB G sc d t it i) (ST : fY G (dK sc cs) d f t) (hT : gA f) (STs : lZ G (dK sc cs) d tst ifs)
  (SI' : nB G (dK sc cs) d t' it' i') (ST' : fY G (dK sc cs) d f' t') (hT' : gA f') (STs' : lZ G (dK sc cs) d tst' ifs') (SE : b_ G (dK sc cs) true d me elt)
  (hfs : autoParam (∀ (env : Env) (x : Value), foldedSetIterable i env x = pure x) aR) (hfs' : autoParam (∀ (env : Env) (x : Value), foldedSetIterable i' env x = pure x) aR) : jY G sc true d (dZ x (fF frees it f tst (pZ it' f' tst' (fH me)))) (.Assign [.Name (Str.ofString x) p] (.ListComp elt [⟨t, i, ifs, 0⟩, ⟨t', i', ifs', 0⟩] cs pos) spos) :=
 x_ hx (oM ck) (uI hfr) SI ST hT STs (IQ SI' ST' hT' STs' (BH SE) hfs') (fun zz zz zz => yX _ _ _) hfs
theorem v_ {a b : String} {xW BN p : Pos} {kk : Nat} (fZ : d_ sc a) (xV : d_ sc b) : fY G sc d (dR [a, b]) (.Tuple [.Name (Str.ofString a) xW, .Name (Str.ofString b) BN] kk p) :=
 sK (ps := [xW, BN]) (fun x hx => by simp at hx; rcases hx with rfl | rfl <;> assumption) rfl rfl
end
theorem NQ {fd : FuncData} {ns : List String} (h1 : ns.Nodup) (h2 : ∀ n ∈ ns, fd.scope.names.lookup (Str.ofString n) = some .local \/ fd.scope.names.lookup (Str.ofString n) = some .cell) :
  ∀ args bs, (if args.length = ns.length then some (ns.zip args) else none) = some bs -> (bs.map (·.1)).Nodup /\ ∀ x ∈ (bs : List (String × AV)), fd.scope.names.lookup (Str.ofString x.1) = some .local \/ fd.scope.names.lookup (Str.ofString x.1) = some .cell := by
 intro args bs h
 split at h
 ·rename_i hl
  cases h
  have e : (ns.zip args).map (·.1) = ns := by rw [List.map_fst_zip]; omega
  refine ⟨by rw [e]; exact h1, fun x hx => h2 _ ?_⟩
  rw [<- e]
  exact List.mem_map_of_mem hx
 ·cases h
theorem HW {fd : FuncData} {ns : List String} {va : String} (h1 : (ns ++ [va]).Nodup) (h2 : ∀ n ∈ ns ++ [va], fd.scope.names.lookup (Str.ofString n) = some .local \/ fd.scope.names.lookup (Str.ofString n) = some .cell) :
  ∀ args bs, tO ns va args = some bs -> (bs.map (·.1)).Nodup /\ ∀ x ∈ (bs : List (String × AV)), fd.scope.names.lookup (Str.ofString x.1) = some .local \/ fd.scope.names.lookup (Str.ofString x.1) = some .cell := by
 intro args bs h
 unfold tO at h
 split at h
 ·rename_i hl
  cases h
  have e : (ns.zip args ++ [(va, AV.tup (args.drop ns.length))]).map (·.1) = ns ++ [va] := by rw [map_append, List.map_fst_zip (by omega)]; rfl
  refine ⟨by rw [e]; exact h1, fun x hx => h2 _ ?_⟩
  rw [<- e]
  exact List.mem_map_of_mem hx
 ·cases h
theorem niInit.sim {G : a_} (gr : Gd G) {d : Nat} : gV G (lF (fNiInit.fd G.w.params).scope) true d niInit.prog fNiInit.body := by
 refine aE ?_ ?_
 refine cX gr.attrs ?_ ?_
 exact aA
 exact aA
 refine aE ?_ ?_
 refine cX gr.attrs ?_ ?_
 exact aX (k := none)
 exact aA
 refine aP ?_
 refine cX gr.attrs ?_ ?_
 refine dT ?_
 exact cA
 exact aA
theorem ffInit.sim {G : a_} (gr : Gd G) {d : Nat} : gV G (lF (fFfInit.fd G.w.params).scope) true d ffInit.prog fFfInit.body := by
 refine aE ?_ ?_
 refine cX gr.attrs ?_ ?_
 refine cM gr.gk (by ext) gr.g_iter cG yV ?_
 refine aC ?_ ?_
 exact aA
 exact aM
 exact aA
 refine aP ?_
 refine cX gr.attrs ?_ ?_
 exact aA
 exact aA
theorem ffIter.sim {G : a_} (gr : Gd G) {d : Nat} : gV G (lF (fFfIter.fd G.w.params).scope) true d ffIter.prog fFfIter.body := by
 refine aP ?_
 refine dW ?_
 exact aA
theorem ffNext.sim {G : a_} (gr : Gd G) {d : Nat} : gV G (lF (fFfNext.fd G.w.params).scope) true d ffNext.prog fFfNext.body := by
 refine aE ?_ ?_
 refine bZ ?_ ?_ ?_; rotate_left; exact aH (by ext); intro _; rfl; rotate_right
 refine cS gr.attrs ?_
 exact aA
 refine aP ?_
 refine jF ?_ ?_ ?_
 refine iN ?_
 exact jV
 refine aE ?_ ?_
 refine yC (hx := aH (by ext)) ?_
 refine ET gr.gk (by ext) gr.g_next xU (KS gr.hse) ?_
 refine bX.toC ?_
 refine aC ?_ ?_
 refine cS gr.attrs ?_
 exact aA
 exact aM
 refine aP ?_
 refine dC ?_ ?_ ?_
 refine oU ?_
 refine rC ?_ ?_
 refine bV (o := .is) gr.gx ?_ ?_
 exact aA
 exact gU
 refine rC ?_ ?_
 refine bV (o := .is) gr.gx ?_ ?_
 exact aA
 exact nL gr.gk (by ext) (SJ gr.g_bool) (by ext)
 exact tL
 refine aP ?_
 refine dC ?_ ?_ ?_
 refine vA ?_
 refine iN ?_
 exact aA
 refine aP ?_
 refine dW ?_
 exact aA
 exact cP
 refine aP ?_
 refine dC ?_ ?_ ?_
 refine vA ?_
 refine iN ?_
 refine EW gr.hse ?_ ?_
 exact aA
 refine bX.toC ?_
 refine aC ?_ ?_
 exact aA
 exact aM
 refine aP ?_
 refine dW ?_
 exact aA
 exact cP
 exact cP
section
variable {G : a_} {d : Nat}
theorem cT {fd : FuncData} {ns : List String} (hb : ∀ vs : List Value, vs.length = ns.length -> bindArgs fd ⟨vs, []⟩ = pure ((ns.map Str.ofString).zip vs)) : oN G fd (jA ns) := BO hb
theorem fK {fd : FuncData} {ns : List String} (h1 : ns.Nodup) (h2 : ∀ n ∈ ns, fd.scope.names.lookup (Str.ofString n) = some .local \/ fd.scope.names.lookup (Str.ofString n) = some .cell) :
  ∀ args bs, jA ns args = some bs -> (bs.map (·.1)).Nodup /\ ∀ x ∈ (bs : List (String × AV)), fd.scope.names.lookup (Str.ofString x.1) = some .local \/ fd.scope.names.lookup (Str.ofString x.1) = some .cell := NQ h1 h2
theorem JC {P : String -> Prop} {a : String} (h : P a) : ∀ n ∈ [a], P n := fun n hn => by simp at hn; subst hn; exact h
theorem GU {P : String -> Prop} {a b : String} (h : P a) (h' : P b) : ∀ n ∈ [a, b], P n := fun n hn => by
 simp at hn; rcases hn with rfl | rfl <;> assumption
theorem QY {P : String -> Prop} {a b c : String} (h : P a) (h' : P b) (h'' : P c) : ∀ n ∈ [a, b, c], P n := fun n hn => by
 simp at hn; rcases hn with rfl | rfl | rfl <;> assumption
theorem GB (gr : Gd G) : gI G 80 (fNiInit.fd G.w.params) fNiInit.body := fQ gr (o := ⟨.type "function", none, .func (fNiInit.fd G.w.params), #[]⟩) (fNiInit.got _).2 rfl (by ext) (by ext) (by ext) (by ext) (by ext) (by ext)
theorem CI (gr : Gd G) : dQ G true (d + 1) (.ref 80) AL :=
 eA gr.gk (GB gr) (cT <| mV fun a b => by kernel_rfl) (fK (by decide) (GU (.inl (by ext)) (.inl (by ext)))) (niInit.sim gr)
theorem xI (gr : Gd G) : cO G true (d + 2) (.ref 84) sR := tB gr.k gr.hni (QC _) (CI gr)
theorem GM (gr : Gd G) : gI G 36 (fFfInit.fd G.w.params) fFfInit.body := fQ gr (o := ⟨.type "function", none, .func (fFfInit.fd G.w.params), #[]⟩) (fFfInit.got _).2 rfl (by ext) (by ext) (by ext) (by ext) (by ext) (by ext)
theorem ER (gr : Gd G) : gI G 43 (fFfIter.fd G.w.params) fFfIter.body := fQ gr (o := ⟨.type "function", none, .func (fFfIter.fd G.w.params), #[]⟩) (fFfIter.got _).2 rfl (by ext) (by ext) (by ext) (by ext) (by ext) (by ext)
theorem GT (gr : Gd G) : gI G 50 (fFfNext.fd G.w.params) fFfNext.body := fQ gr (o := ⟨.type "function", none, .func (fFfNext.fd G.w.params), #[]⟩) (fFfNext.got _).2 rfl (by ext) (by ext) (by ext) (by ext) (by ext) (by ext)
theorem DL (gr : Gd G) : dQ G true (d + 1) (.ref 36) AY :=
 eA gr.gk (GM gr) (cT <| uL fun a b c => by kernel_rfl) (fK (by decide) (QY (.inl (by ext)) (.inl (by ext)) (.inl (by ext)))) (ffInit.sim gr)
theorem DA (gr : Gd G) : dQ G true (d + 1) (.ref 43) uF :=
 eA gr.gk (ER gr) (cT <| lI fun a => by kernel_rfl) (fK (by decide) (JC (.inl (by ext)))) (ffIter.sim gr)
theorem DQ (gr : Gd G) : nS G true (d + 1) (.ref 50) mT :=
 s_ gr.gk (GT gr) (cT <| lI fun a => by kernel_rfl) (fK (by decide) (JC (.inl (by ext)))) (ffNext.sim gr)
theorem RS (gr : Gd G) : cO G true (d + 2) (.ref 54) B4 := tB gr.k gr.hff (TB _) (DL gr)
theorem D_ (gr : Gd G) : cO G true (d + 2) (.type "list") zP := AT gr.gk gr.hse gr.own_ff (DQ gr).toCall (DA gr).toCall
end
theorem filter.sim {G : a_} (gr : Gd G) {d : Nat} : gV G (lF (fFilter.fd G.w.params).scope) true (d + 2) filter.prog fFilter.body := by
 refine aP ?_
 refine dW ?_
 refine cM gr.gk (by ext) gr.g_list cY (D_ gr) ?_
 refine aC ?_ ?_
 refine fD gr.gk (by ext) gr.g_filterfalse (h_ gr (by ext)) (RS gr) ?_
 refine bX.toC ?_
 refine aC ?_ ?_
 refine DS ?_
 exact aA
 refine aC ?_ ?_
 exact aA
 exact aM
 exact aM
theorem uld.sim {G : a_} (gr : Gd G) {d : Nat} : gV G (lF (fUld.fd G.w.params).scope) true d uld.prog fUld.body := by
 refine aE ?_ ?_
 refine bZ ?_ ?_ ?_; rotate_left; exact aH (by ext); intro _; rfl; rotate_right
 refine dT ?_
 exact cA
 refine aE ?_ ?_
 refine jF ?_ ?_ ?_
 refine iN ?_
 exact aA
 refine aE ?_ ?_
 refine bZ ?_ ?_ ?_; rotate_left; exact aH (by ext); intro _; rfl; rotate_right
 refine cJ F.plainAttrs_list F.slot_list_pop F.type_list_pop uR ?_ ?_
 exact aA
 exact aM
 refine aP ?_
 refine vL gr.gk gr.k (by ext) gr.g_ValueError gr.ex_value ?_ ?_
 refine aP ?_
 refine wD ?_
 refine JX F.plainAttrs_list F.slot_list_remove F.type_list_remove (CQ gr.hve) ?_ ?_
 exact aA
 refine aC ?_ ?_
 exact aA
 exact aM
 refine aP ?_
 refine cL ?_
 refine cJ F.plainAttrs_list F.slot_list_append F.type_list_append dH ?_ ?_
 exact aA
 refine aC ?_ ?_
 exact aA
 exact aM
 exact cP
 refine aP ?_
 refine dW ?_
 refine jM ?_
 refine bB ?_ ?_
 exact aA
 refine bB ?_ ?_
 exact aA
 exact cA
theorem gni.sim {G : a_} (gr : Gd G) {d : Nat} : gV G (lF (fGni.fd G.w.params).scope) true (d + 2) gni.prog fGni.body := by
 refine aE ?_ ?_
 refine dC ?_ ?_ ?_
 refine bV (o := .is) gr.gx ?_ ?_
 refine yD (hx := aH (by ext)) ?_
 refine cJ F.plainAttrs_dict F.slot_dict_get F.type_dict_get (CY gr.gx) ?_ ?_
 refine cS gr.attrs ?_
 exact aA
 refine aC ?_ ?_
 exact aA
 exact aM
 exact gU
 refine aP ?_
 refine sE (hx := aH (by ext)) ?_ ?_ ?_
 refine fD gr.gk (by ext) gr.g_NodeInfo (h_ gr (by ext)) (xI gr) ?_
 refine bX.toC ?_
 refine aC ?_ ?_
 exact aA
 exact aM
 refine cS gr.attrs ?_
 exact aA
 exact aA
 exact cP
 refine aP ?_
 refine dW ?_
 exact aA
theorem findCycle.sim {G : a_} (gr : Gd G) {d : Nat} : gV G (lF (fFindCycle.fd G.w.params).scope) true d findCycle.prog fFindCycle.body := by
 refine aE ?_ ?_
 refine bZ ?_ ?_ ?_; rotate_left; exact aH (by ext); intro _; rfl; rotate_right
 refine cS gr.attrs ?_
 exact aA
 refine aE ?_ ?_
 refine bZ ?_ ?_ ?_; rotate_left; exact aH (by ext); intro _; rfl; rotate_right
 refine dT ?_
 exact cA
 refine aE ?_ ?_
 refine bZ ?_ ?_ ?_; rotate_left; exact aH (by ext); intro _; rfl; rotate_right
 refine dT ?_
 exact cA
 refine aE ?_ ?_
 refine bZ ?_ ?_ ?_; rotate_left; exact aH (by ext); intro _; rfl; rotate_right
 refine cM gr.gk (by ext) gr.g_set cY KL ?_
 exact aM
 refine aE ?_ ?_
 refine bZ ?_ ?_ ?_; rotate_left; exact aH (by ext); intro _; rfl; rotate_right
 exact xZ
 refine aE ?_ ?_
 refine fS ?_ ?_ ?_ ?_
 refine eM gr.gx ?_ ?_
 exact aA
 first | exact aU.name _ _ | exact aU.tup _ _ _
 exact cE (aH (by ext))
 first | exact aY | exact aV
 refine aE ?_ ?_
 refine dC ?_ ?_ ?_
 refine bV (o := .mem) gr.gx ?_ ?_
 exact aA
 exact aA
 refine aP ?_
 exact xS
 exact cP
 refine aP ?_
 refine jF ?_ ?_ ?_
 refine iN ?_
 exact jV
 refine aE ?_ ?_
 refine dC ?_ ?_ ?_
 refine bV (o := .mem) gr.gx ?_ ?_
 exact aA
 exact aA
 refine aP ?_
 refine dC ?_ ?_ ?_
 refine bV (o := .mem) gr.gx ?_ ?_
 exact aA
 exact aA
 refine aP ?_
 refine dW ?_
 refine cQ (o := .add) ?_ ?_
 refine iI ?_ ?_ ?_ ?_
 exact aA
 refine gK ?_
 refine dD ?_ ?_
 exact aA
 exact aA
 exact dY
 exact dY
 refine dT ?_
 refine bB ?_ ?_
 exact aA
 exact cA
 exact cP
 refine aE ?_ ?_
 refine cL ?_
 refine cJ F.plainAttrs_set F.slot_set_add F.type_set_add NF ?_ ?_
 exact aA
 refine aC ?_ ?_
 exact aA
 exact aM
 refine aE ?_ ?_
 refine cL ?_
 refine cJ F.plainAttrs_list F.slot_list_append F.type_list_append dH ?_ ?_
 exact aA
 refine aC ?_ ?_
 refine DS ?_
 refine cM gr.gk (by ext) gr.g_iter cG yV ?_
 refine aC ?_ ?_
 refine cS gr.attrs ?_
 refine dD ?_ ?_
 exact aA
 exact aA
 exact aM
 exact aM
 refine aE ?_ ?_
 refine AJ ?_ ?_ ?_
 refine cM gr.gk (by ext) gr.g_len cG rI ?_
 refine aC ?_ ?_
 exact aA
 exact aM
 exact aA
 exact aA
 refine aP ?_
 refine cL ?_
 refine cJ F.plainAttrs_list F.slot_list_append F.type_list_append dH ?_ ?_
 exact aA
 refine aC ?_ ?_
 exact aA
 exact aM
 refine aP ?_
 refine jF ?_ ?_ ?_
 refine iN ?_
 exact aA
 refine aP ?_
 refine vL gr.gk gr.k (by ext) gr.g_StopIteration gr.ex_stop ?_ ?_
 refine aE ?_ ?_
 refine yC (hx := aH (by ext)) ?_
 refine KT gr.hse ?_ ?_
 refine dD ?_ ?_
 exact aA
 refine AC ?_
 exact aX (k := none)
 refine bX.toC ?_
 exact aM
 refine aP ?_
 exact vP
 refine aE ?_ ?_
 refine MY ?_ ?_
 exact aA
 refine cJ F.plainAttrs_list F.slot_list_pop F.type_list_pop uR ?_ ?_
 exact aA
 exact aM
 refine aP ?_
 refine cL ?_
 refine cJ F.plainAttrs_list F.slot_list_pop F.type_list_pop uR ?_ ?_
 exact aA
 exact aM
 refine aP ?_
 exact vP
 exact cP
 refine aP ?_
 refine dW ?_
 exact gU
theorem getReady.sim {G : a_} (gr : Gd G) {d : Nat} : gV G (lF (fGetReady.fd G.w.params).scope) true d getReady.prog fGetReady.body := by
 refine aE ?_ ?_
 refine dC ?_ ?_ ?_
 refine bV (o := .is) gr.gx ?_ ?_
 refine cS gr.attrs ?_
 exact aA
 exact gU
 refine aP ?_
 exact jN
 exact cP
 refine aE ?_ ?_
 refine bZ ?_ ?_ ?_; rotate_left; exact aH (by ext); intro _; rfl; rotate_right
 refine cM gr.gk (by ext) gr.g_tuple cY GG ?_
 refine aC ?_ ?_
 refine cS gr.attrs ?_
 exact aA
 exact aM
 refine aE ?_ ?_
 refine bZ ?_ ?_ ?_; rotate_left; exact aH (by ext); intro _; rfl; rotate_right
 refine cS gr.attrs ?_
 exact aA
 refine aE ?_ ?_
 refine fS ?_ ?_ ?_ ?_
 refine eM gr.gx ?_ ?_
 exact aA
 first | exact aU.name _ _ | exact aU.tup _ _ _
 exact cE (aH (by ext))
 first | exact aY | exact aV
 refine aP ?_
 refine cX gr.attrs ?_ ?_
 exact nL gr.gk (by ext) (rR gr.g_NODE_OUT) (by ext)
 refine dD ?_ ?_
 exact aA
 exact aA
 refine aE ?_ ?_
 refine cL ?_
 refine cJ F.plainAttrs_list F.slot_list_clear F.type_list_clear FX ?_ ?_
 refine cS gr.attrs ?_
 exact aA
 exact aM
 refine aE ?_ ?_
 refine kI (o := .add) gr.attrs trivial ?_ ?_
 exact aA
 refine cM gr.gk (by ext) gr.g_len cG rI ?_
 refine aC ?_ ?_
 exact aA
 exact aM
 refine aP ?_
 refine dW ?_
 exact aA
theorem done.sim {G : a_} (gr : Gd G) {d : Nat} : gV G (lF (fDone.fd G.w.params).scope) true d done.prog fDone.body := by
 refine aE ?_ ?_
 refine dC ?_ ?_ ?_
 refine bV (o := .is) gr.gx ?_ ?_
 refine cS gr.attrs ?_
 exact aA
 exact gU
 refine aP ?_
 exact jN
 exact cP
 refine aE ?_ ?_
 refine bZ ?_ ?_ ?_; rotate_left; exact aH (by ext); intro _; rfl; rotate_right
 refine cS gr.attrs ?_
 exact aA
 refine aP ?_
 refine fS ?_ ?_ ?_ ?_
 refine eM gr.gx ?_ ?_
 exact aA
 first | exact aU.name _ _ | exact aU.tup _ _ _
 exact cE (aH (by ext))
 first | exact aY | exact aV
 refine aE ?_ ?_
 refine dC ?_ ?_ ?_
 refine bV (o := .is) gr.gx ?_ ?_
 refine yD (hx := aH (by ext)) ?_
 refine cJ F.plainAttrs_dict F.slot_dict_get F.type_dict_get (CY gr.gx) ?_ ?_
 exact aA
 refine aC ?_ ?_
 exact aA
 exact aM
 exact gU
 refine aP ?_
 exact jN
 exact cP
 refine aE ?_ ?_
 refine bZ ?_ ?_ ?_; rotate_left; exact aH (by ext); intro _; rfl; rotate_right
 refine cS gr.attrs ?_
 exact aA
 refine aE ?_ ?_
 refine dC ?_ ?_ ?_
 refine bV (o := .ne) gr.gx ?_ ?_
 exact aA
 exact nL gr.gk (by ext) (rR gr.g_NODE_OUT) (by ext)
 refine aP ?_
 refine dC ?_ ?_ ?_
 refine bV (o := .ge) gr.gx ?_ ?_
 exact aA
 exact aX (k := none)
 refine aP ?_
 exact jN
 refine aP ?_
 refine dC ?_ ?_ ?_
 refine bV (o := .eq) gr.gx ?_ ?_
 exact aA
 exact nL gr.gk (by ext) (rR gr.g_NODE_DONE) (by ext)
 refine aP ?_
 exact jN
 refine aP ?_
 exact jN
 exact cP
 refine aE ?_ ?_
 refine cX gr.attrs ?_ ?_
 exact nL gr.gk (by ext) (rR gr.g_NODE_DONE) (by ext)
 exact aA
 refine aE ?_ ?_
 refine fS ?_ ?_ ?_ ?_
 refine eM gr.gx ?_ ?_
 refine cS gr.attrs ?_
 exact aA
 first | exact aU.name _ _ | exact aU.tup _ _ _
 exact cE (aH (by ext))
 first | exact aY | exact aV
 refine aE ?_ ?_
 refine bZ ?_ ?_ ?_; rotate_left; exact aH (by ext); intro _; rfl; rotate_right
 refine dD ?_ ?_
 exact aA
 exact aA
 refine aE ?_ ?_
 refine kI (o := .sub) gr.attrs trivial ?_ ?_
 exact aA
 exact aX (k := none)
 refine aP ?_
 refine dC ?_ ?_ ?_
 refine bV (o := .eq) gr.gx ?_ ?_
 refine cS gr.attrs ?_
 exact aA
 exact aX (k := none)
 refine aP ?_
 refine cL ?_
 refine cJ F.plainAttrs_list F.slot_list_append F.type_list_append dH ?_ ?_
 refine cS gr.attrs ?_
 exact aA
 refine aC ?_ ?_
 exact aA
 exact aM
 exact cP
 refine aP ?_
 refine kI (o := .add) gr.attrs trivial ?_ ?_
 exact aA
 exact aX (k := none)
section
variable {G : a_} {d : Nat}
noncomputable def TZ (s : Scope) (x : String) : Bool := s.names.lookup (Str.ofString x) == some NameKind.local || s.names.lookup (Str.ofString x) == some NameKind.cell
theorem cC {s : Scope} {x : String} (h : TZ s x = true) : s.names.lookup (Str.ofString x) = some .local \/ s.names.lookup (Str.ofString x) = some .cell := by
 unfold TZ at h
 rw [Bool.or_eq_true] at h
 exact h.imp beq_iff_eq.mp beq_iff_eq.mp
theorem FM (gr : Gd G) : gI G 65 (fFilter.fd G.w.params) fFilter.body := fQ gr (o := ⟨.type "function", none, .func (fFilter.fd G.w.params), #[]⟩) (fFilter.got _).2 rfl (by ext) (by ext) (by ext) (by ext) (by ext) (by ext)
theorem tQ (gr : Gd G) : dQ G true (d + 3) (.ref 65) qX :=
 eA (d := d + 2) gr.gk (FM gr) (cT <| mV fun a b => by kernel_rfl) (fK (by decide) (GU (cC (by ext)) (cC (by ext)))) (filter.sim gr)
theorem QD (gr : Gd G) : gI G 192 (fUld.fd G.w.params) fUld.body := fQ gr (o := ⟨.type "function", none, .func (fUld.fd G.w.params), #[]⟩) (fUld.got _).2 rfl (by ext) (by ext) (by ext) (by ext) (by ext) (by ext)
theorem NV (gr : Gd G) : dQ G true (d + 1) (.ref 192) US :=
 eA (d := d + 0) gr.gk (QD gr) (cT <| mV fun a b => by kernel_rfl) (fK (by decide) (GU (cC (by ext)) (cC (by ext)))) (uld.sim gr)
theorem SW (gr : Gd G) : gI G 124 (fGni.fd G.w.params) fGni.body := fQ gr (o := ⟨.type "function", none, .func (fGni.fd G.w.params), #[]⟩) (fGni.got _).2 rfl (by ext) (by ext) (by ext) (by ext) (by ext) (by ext)
theorem BY (gr : Gd G) : dQ G true (d + 3) (.ref 124) QJ :=
 eA (d := d + 2) gr.gk (SW gr) (cT <| mV fun a b => by kernel_rfl) (fK (by decide) (GU (cC (by ext)) (cC (by ext)))) (gni.sim gr)
theorem xP (gr : Gd G) : gI G 171 (fFindCycle.fd G.w.params) fFindCycle.body := fQ gr (o := ⟨.type "function", none, .func (fFindCycle.fd G.w.params), #[]⟩) (fFindCycle.got _).2 rfl (by ext) (by ext) (by ext) (by ext) (by ext) (by ext)
theorem uW (gr : Gd G) : dQ G true (d + 1) (.ref 171) qH :=
 eA (d := d + 0) gr.gk (xP gr) (cT <| lI fun a => by kernel_rfl) (fK (by decide) (JC (cC (by ext)))) (findCycle.sim gr)
theorem AP (gr : Gd G) : gI G 143 (fGetReady.fd G.w.params) fGetReady.body := fQ gr (o := ⟨.type "function", none, .func (fGetReady.fd G.w.params), #[]⟩) (fGetReady.got _).2 rfl (by ext) (by ext) (by ext) (by ext) (by ext) (by ext)
theorem pO (gr : Gd G) : dQ G true (d + 1) (.ref 143) kO :=
 eA (d := d + 0) gr.gk (AP gr) (cT <| lI fun a => by kernel_rfl) (fK (by decide) (JC (cC (by ext)))) (getReady.sim gr)
theorem MP (gr : Gd G) : gI G 164 (fDone.fd G.w.params) fDone.body := fQ gr (o := ⟨.type "function", none, .func (fDone.fd G.w.params), #[]⟩) (fDone.got _).2 rfl (by ext) (by ext) (by ext) (by ext) (by ext) (by ext)
theorem I_ (gr : Gd G) : dQ G true (d + 1) (.ref 164) HR :=
 eA (d := d + 0) gr.gk (MP gr) (uS fun vs h => match vs, h with
  | [], h => by simp at h
  | a :: rest, _ => by cases rest <;> kernel_rfl) (HW (by decide) (GU (cC (by ext)) (cC (by ext)))) (done.sim gr)
end
theorem K_ (P : Params) : AU (KK P) 181 131 "add" := ⟨(iX P).2.1, by kernel_rfl, by kernel_rfl, by kernel_rfl, by kernel_rfl, by kernel_rfl⟩
theorem add.sim {G : a_} (gr : Gd G) {d : Nat} : gV G (lF (fAdd.fd G.w.params).scope) true (d + 3) add.prog fAdd.body := by
 refine aE ?_ ?_
 refine dC ?_ ?_ ?_
 refine bV (o := .nis) gr.gx ?_ ?_
 refine cS gr.attrs ?_
 exact aA
 exact gU
 refine aP ?_
 exact jN
 exact cP
 refine aE ?_ ?_
 refine bZ ?_ ?_ ?_; rotate_left; exact aH (by ext); intro _; rfl; rotate_right
 refine gO gr.k gr.hts (iX _).1 (BY gr).toCall ?_ ?_
 exact aA
 refine bX.toC ?_
 refine aC ?_ ?_
 exact aA
 exact aM
 refine aE ?_ ?_
 refine kI (o := .add) gr.attrs trivial ?_ ?_
 exact aA
 refine cM gr.gk (by ext) gr.g_len cG rI ?_
 refine aC ?_ ?_
 exact aA
 exact aM
 refine aP ?_
 refine fS ?_ ?_ ?_ ?_
 refine eM gr.gx ?_ ?_
 exact aA
 first | exact aU.name _ _ | exact aU.tup _ _ _
 exact cE (aH (by ext))
 first | exact aY | exact aV
 refine aE ?_ ?_
 refine bZ ?_ ?_ ?_; rotate_left; exact aH (by ext); intro _; rfl; rotate_right
 refine gO gr.k gr.hts (iX _).1 (BY gr).toCall ?_ ?_
 exact aA
 refine bX.toC ?_
 refine aC ?_ ?_
 exact aA
 exact aM
 refine aP ?_
 refine cL ?_
 refine cJ F.plainAttrs_list F.slot_list_append F.type_list_append dH ?_ ?_
 refine cS gr.attrs ?_
 exact aA
 refine aC ?_ ?_
 exact aA
 exact aM
theorem prepare.sim {G : a_} (gr : Gd G) {d : Nat} : gV G (lF (fPrepare.fd G.w.params).scope) true (d + 1) prepare.prog fPrepare.body := by
 refine aE ?_ ?_
 refine dC ?_ ?_ ?_
 refine bV (o := .nis) gr.gx ?_ ?_
 refine cS gr.attrs ?_
 exact aA
 exact gU
 refine aP ?_
 exact jN
 exact cP
 refine aE ?_ ?_
 refine cX gr.attrs ?_ ?_
 refine kT (frees := []) (by ext) (by ext) ?_ ?_ ?_ ?_ ?_
 refine C_ ?_ ?_
 refine cJ F.plainAttrs_dict F.slot_dict_values F.type_dict_values (CK gr.gx) ?_ ?_
 refine cS gr.attrs ?_
 exact aA
 exact aM
 first | exact aU.name _ _ | exact aU.tup _ _ _
 exact cE (aH (by ext))
 first | exact aY | exact aV
 refine jG ?_
 refine bV (o := .eq) gr.gx ?_ ?_
 refine cS gr.attrs ?_
 exact aA
 exact aX (k := none)
 refine cS gr.attrs ?_
 exact aA
 exact aA
 refine aE ?_ ?_
 refine bZ ?_ ?_ ?_; rotate_left; exact aH (by ext); intro _; rfl; rotate_right
 refine gO gr.k gr.hts (iX _).2.2.2.2.2 (uW gr).toCall ?_ ?_
 exact aA
 refine bX.toC ?_
 exact aM
 refine aP ?_
 refine dC ?_ ?_ ?_
 refine iN ?_
 exact aA
 refine aP ?_
 refine GE gr.gk gr.hce gr.own PySem.F.excBase_ValueError (by ext) ?_
 refine aC ?_ ?_
 refine CX ?_
 exact QG
 refine aC ?_ ?_
 exact aA
 exact aM
 exact cP
section
variable {G : a_} {d : Nat}
theorem RD (gr : Gd G) : gI G 131 (fAdd.fd G.w.params) fAdd.body := fQ gr (o := ⟨.type "function", none, .func (fAdd.fd G.w.params), #[]⟩) (fAdd.got _).2 rfl (by ext) (by ext) (by ext) (by ext) (by ext) (by ext)
theorem rU (gr : Gd G) : dQ G true (d + 4) (.ref 131) qC :=
 eA (d := d + 3) gr.gk (RD gr) (uS fun vs h => match vs, h with
  | [], h => by simp at h
  | [a], h => by simp at h
  | a :: b :: rest, _ => by cases rest <;> kernel_rfl) (HW (by decide) (QY (cC (by ext)) (cC (by ext)) (cC (by ext)))) (add.sim gr)
theorem DY (gr : Gd G) : gI G 136 (fPrepare.fd G.w.params) fPrepare.body := fQ gr (o := ⟨.type "function", none, .func (fPrepare.fd G.w.params), #[]⟩) (fPrepare.got _).2 rfl (by ext) (by ext) (by ext) (by ext) (by ext) (by ext)
theorem AW (gr : Gd G) : nS G true (d + 2) (.ref 136) vZ :=
 s_ (d := d + 1) gr.gk (DY gr) (cT <| lI fun a => by kernel_rfl) (fK (by decide) (JC (cC (by ext)))) (prepare.sim gr)
end
theorem tsInit.sim {G : a_} (gr : Gd G) {d : Nat} : gV G (lF (fTsInit.fd G.w.params).scope) true (d + 4) tsInit.prog fTsInit.body := by
 refine aE ?_ ?_
 refine cX gr.attrs ?_ ?_
 exact xZ
 exact aA
 refine aE ?_ ?_
 refine cX gr.attrs ?_ ?_
 exact gU
 exact aA
 refine aE ?_ ?_
 refine cX gr.attrs ?_ ?_
 exact aX (k := none)
 exact aA
 refine aE ?_ ?_
 refine cX gr.attrs ?_ ?_
 exact aX (k := none)
 exact aA
 refine aP ?_
 refine dC ?_ ?_ ?_
 refine bV (o := .nis) gr.gx ?_ ?_
 exact aA
 exact gU
 refine aP ?_
 refine fS ?_ ?_ ?_ ?_
 refine GW ?_
 refine cJ F.plainAttrs_dict F.slot_dict_items F.type_dict_items (GF gr.gx) ?_ ?_
 exact aA
 exact aM
 exact v_ (aH (by ext)) (aH (by ext))
 first | exact aY | exact aV
 refine aP ?_
 refine cL ?_
 refine JU gr.k gr.hts (K_ _) (rU gr) ?_ ?_
 exact aA
 refine uA ?_ ?_
 exact aA
 exact aA
 exact cP
section
variable {G : a_} {d : Nat}
theorem FV (gr : Gd G) : gI G 117 (fTsInit.fd G.w.params) fTsInit.body := fQ gr (o := ⟨.type "function", none, .func (fTsInit.fd G.w.params), #[]⟩) (fTsInit.got _).2 rfl (by ext) (by ext) (by ext) (by ext) (by ext) (by ext)
end
theorem IJ {P : List Value -> Prop} (h : ∀ a b c e, P [a, b, c, e]) (vs : List Value) (e : vs.length = 4) : P vs := by
 cases vs with
 | nil => cases e
 | cons a vs => exact uL (P := fun l => P (a :: l)) (fun b c e => h a b c e) vs (Nat.succ.inj e)
theorem YE {P : String -> Prop} {a b c e : String} (h : P a) (h' : P b) (h'' : P c) (h3 : P e) : ∀ n ∈ [a, b, c, e], P n := fun n hn => by
 simp at hn; rcases hn with rfl | rfl | rfl | rfl <;> assumption
section
variable {G : a_} {d : Nat}
theorem PW {fd : FuncData} {ns : List String} {x : String} (h1 : (ns ++ [x]).Nodup) (h2 : ∀ n ∈ ns ++ [x], fd.scope.names.lookup (Str.ofString n) = some .local \/ fd.scope.names.lookup (Str.ofString n) = some .cell) :
  ∀ args bs, CH ns x args = some bs -> (bs.map (·.1)).Nodup /\ ∀ y ∈ (bs : List (String × AV)), fd.scope.names.lookup (Str.ofString y.1) = some .local \/ fd.scope.names.lookup (Str.ofString y.1) = some .cell := by
 intro args bs h
 have key : bs.map (·.1) = ns ++ [x] := by
  unfold CH at h
  split at h
  ·rename_i hl
   cases h
   rw [map_append, List.map_fst_zip (by omega)]; rfl
  ·split at h
   ·rename_i hl
    cases h
    rw [List.map_fst_zip (by simp; omega)]
   ·cases h
 refine ⟨by rw [key]; exact h1, fun y hy => h2 _ ?_⟩
 rw [<- key]
 exact List.mem_map_of_mem hy
theorem DM (gr : Gd G) : dQ G true (d + 5) (.ref 117) wU :=
 eA (d := d + 4) gr.gk (FV gr) (FQ (T := 110) (o := ⟨.type "tuple", none, .seq #[.none], #[]⟩) (by ext) (gr.k _ _ (by ext)) rfl
  (mV fun a b => ⟨_, rfl, rfl⟩) (lI fun a => ⟨_, rfl, rfl⟩)) (PW (by decide) (GU (cC (by ext)) (cC (by ext)))) (tsInit.sim gr)
theorem RW (gr : Gd G) : cO G true (d + 6) (.ref 181) RV := tB gr.k gr.hts (SO _) (DM gr)
end
theorem row.sim {G : a_} (gr : Gd G) {d : Nat} : gV G (lF (fRow.fd G.w.params).scope) true d row.prog fRow.body := by
 refine aE ?_ ?_
 refine bZ ?_ ?_ ?_; rotate_left; exact aH (by ext); intro _; rfl; rotate_right
 refine dT ?_
 exact cA
 refine aE ?_ ?_
 refine fS ?_ ?_ ?_ ?_
 refine eV gr.gk (by ext) gr.g_range ?_ ?_
 first | exact aU.name _ _ | exact aU.tup _ _ _
 refine aC ?_ ?_
 refine cQ (o := .add) ?_ ?_
 refine dD ?_ ?_
 exact aA
 exact aA
 refine dD ?_ ?_
 exact aA
 exact aA
 exact aM
 exact cE (aH (by ext))
 first | exact aY | exact aV
 refine aP ?_
 refine dC ?_ ?_ ?_
 refine bV (o := .eq) gr.gx ?_ ?_
 refine cJ F.plainAttrs_list F.slot_list_count F.type_list_count pV ?_ ?_
 exact aA
 refine aC ?_ ?_
 exact aA
 exact aM
 refine dD ?_ ?_
 exact aA
 exact aA
 refine aP ?_
 refine cL ?_
 refine cJ F.plainAttrs_list F.slot_list_append F.type_list_append dH ?_ ?_
 exact aA
 refine aC ?_ ?_
 exact aA
 exact aM
 refine aP ?_
 refine dC ?_ ?_ ?_
 refine oU ?_
 refine qW ?_ ?_
 refine bV (o := .lt) gr.gx ?_ ?_
 refine cJ F.plainAttrs_list F.slot_list_count F.type_list_count pV ?_ ?_
 exact aA
 refine aC ?_ ?_
 exact aA
 exact aM
 refine dD ?_ ?_
 exact aA
 exact aA
 refine qW ?_ ?_
 refine bV (o := .eq) gr.gx ?_ ?_
 refine cQ (o := .mod) ?_ ?_
 refine cQ (o := .fdiv) ?_ ?_
 exact aA
 refine cQ (o := .pow) ?_ ?_
 exact aX (k := none)
 exact aA
 exact aX (k := none)
 exact aX (k := none)
 exact rE
 refine aP ?_
 refine cL ?_
 refine cJ F.plainAttrs_list F.slot_list_append F.type_list_append dH ?_ ?_
 exact aA
 refine aC ?_ ?_
 exact aA
 exact aM
 refine aP ?_
 refine cL ?_
 refine cJ F.plainAttrs_list F.slot_list_append F.type_list_append dH ?_ ?_
 exact aA
 refine aC ?_ ?_
 exact aA
 exact aM
 refine aP ?_
 refine dW ?_
 exact aA
theorem sorter.sim {G : a_} (gr : Gd G) {d : Nat} : gV G (lF (fSorter.fd G.w.params).scope) true (d + 6) sorter.prog fSorter.body := by
 refine aE ?_ ?_
 refine bZ ?_ ?_ ?_; rotate_left; exact aH (by ext); intro _; rfl; rotate_right
 refine fD gr.gk (by ext) gr.g_TopologicalSorter (h_ gr (by ext)) (RW gr) ?_
 refine bX.toC ?_
 exact aM
 refine aE ?_ ?_
 refine fS ?_ ?_ ?_ ?_
 refine eV gr.gk (by ext) gr.g_range ?_ ?_
 first | exact aU.name _ _ | exact aU.tup _ _ _
 refine aC ?_ ?_
 exact aX (k := none)
 exact aM
 exact cE (aH (by ext))
 first | exact aY | exact aV
 refine aE ?_ ?_
 refine cL ?_
 refine gO gr.k gr.hts (iX _).2.1 (rU gr).toCall ?_ ?_
 exact aA
 refine bX.toC ?_
 refine aC ?_ ?_
 exact aA
 exact aM
 refine aP ?_
 refine fS ?_ ?_ ?_ ?_
 refine eV gr.gk (by ext) gr.g_range ?_ ?_
 first | exact aU.name _ _ | exact aU.tup _ _ _
 refine aC ?_ ?_
 exact aX (k := none)
 refine aC ?_ ?_
 refine dD ?_ ?_
 exact aA
 exact aA
 exact aM
 exact cE (aH (by ext))
 first | exact aY | exact aV
 refine aP ?_
 refine cL ?_
 refine gO gr.k gr.hts (iX _).2.1 (rU gr).toCall ?_ ?_
 exact aA
 refine bX.toC ?_
 refine aC ?_ ?_
 refine cQ (o := .add) ?_ ?_
 exact aA
 refine cQ (o := .mul) ?_ ?_
 exact aX (k := none)
 exact aA
 refine aC ?_ ?_
 refine cQ (o := .sub) ?_ ?_
 refine cQ (o := .add) ?_ ?_
 exact aA
 refine cQ (o := .mul) ?_ ?_
 exact aX (k := none)
 exact aA
 exact aX (k := none)
 exact aM
 refine aE ?_ ?_
 refine fS ?_ ?_ ?_ ?_
 refine eM gr.gx ?_ ?_
 exact aA
 first | exact aU.name _ _ | exact aU.tup _ _ _
 exact cE (aH (by ext))
 first | exact aY | exact aV
 refine aE ?_ ?_
 refine eW (frees := ["row"]) (aH (by ext)) (by ext) (by ext) ?_ ?_ ?_ ?_ ?_
 refine yW gr.gk (by ext) gr.g_enumerate ?_
 refine aC ?_ ?_
 exact aA
 exact aM
 exact v_ (aH (by ext)) (aH (by ext))
 first | exact aY | exact aV
 exact eI
 refine cQ (o := .add) ?_ ?_
 exact aA
 refine cQ (o := .mul) ?_ ?_
 exact aX (k := none)
 refine cJ F.plainAttrs_list F.slot_list_count F.type_list_count pV ?_ ?_
 refine iI ?_ ?_ ?_ ?_
 exact aA
 exact dY
 refine gK ?_
 exact aA
 exact dY
 refine aC ?_ ?_
 exact aA
 exact aM
 refine aP ?_
 refine fS ?_ ?_ ?_ ?_
 refine eV gr.gk (by ext) gr.g_range ?_ ?_
 first | exact aU.name _ _ | exact aU.tup _ _ _
 refine aC ?_ ?_
 exact aX (k := none)
 refine aC ?_ ?_
 refine cM gr.gk (by ext) gr.g_len cG rI ?_
 refine aC ?_ ?_
 exact aA
 exact aM
 exact aM
 exact cE (aH (by ext))
 first | exact aY | exact aV
 refine aP ?_
 refine cL ?_
 refine gO gr.k gr.hts (iX _).2.1 (rU gr).toCall ?_ ?_
 exact aA
 refine bX.toC ?_
 refine aC ?_ ?_
 refine dD ?_ ?_
 exact aA
 exact aA
 refine aC ?_ ?_
 refine dD ?_ ?_
 exact aA
 refine cQ (o := .sub) ?_ ?_
 exact aA
 exact aX (k := none)
 exact aM
 refine aP ?_
 refine dW ?_
 exact aA
theorem queued.sim {G : a_} (gr : Gd G) {d : Nat} : gV G (lF (fQueued.fd G.w.params).scope) true d queued.prog fQueued.body := by
 refine aE ?_ ?_
 refine eW (frees := []) (aH (by ext)) (by ext) (by ext) ?_ ?_ ?_ ?_ ?_
 refine eM gr.gx ?_ ?_
 exact aA
 first | exact aU.name _ _ | exact aU.tup _ _ _
 exact cE (aH (by ext))
 first | exact aY | exact aV
 exact eI
 refine cM gr.gk (by ext) gr.g_list cY l_ ?_
 refine aC ?_ ?_
 exact aA
 exact aM
 refine aE ?_ ?_
 refine bZ ?_ ?_ ?_; rotate_left; exact aH (by ext); intro _; rfl; rotate_right
 refine cM gr.gk (by ext) gr.g_list cY l_ ?_
 refine aC ?_ ?_
 exact aA
 exact aM
 refine aE ?_ ?_
 refine bZ ?_ ?_ ?_; rotate_left; exact aH (by ext); intro _; rfl; rotate_right
 refine dT ?_
 exact cA
 refine aE ?_ ?_
 refine bZ ?_ ?_ ?_; rotate_left; exact aH (by ext); intro _; rfl; rotate_right
 refine dT ?_
 exact cA
 refine aP ?_
 refine jF ?_ ?_ ?_
 refine iN ?_
 exact jV
 refine aE ?_ ?_
 refine eW (frees := ["left"]) (aH (by ext)) (by ext) (by ext) ?_ ?_ ?_ ?_ ?_
 refine eV gr.gk (by ext) gr.g_range ?_ ?_
 first | exact aU.name _ _ | exact aU.tup _ _ _
 refine aC ?_ ?_
 exact aX (k := none)
 exact aM
 exact cE (aH (by ext))
 first | exact aY | exact aV
 refine jG ?_
 refine bV (o := .gt) gr.gx ?_ ?_
 refine dD ?_ ?_
 exact aA
 exact aA
 exact aX (k := none)
 exact aA
 refine aE ?_ ?_
 refine eW (frees := ["queues"]) (aH (by ext)) (by ext) (by ext) ?_ ?_ ?_ ?_ ?_
 refine eM gr.gx ?_ ?_
 exact aA
 first | exact aU.name _ _ | exact aU.tup _ _ _
 exact cE (aH (by ext))
 first | exact aY | exact aV
 refine jG ?_
 refine bV (o := .eq) gr.gx ?_ ?_
 refine kT (frees := ["hand"]) (by ext) (by ext) ?_ ?_ ?_ ?_ ?_
 refine eM gr.gx ?_ ?_
 exact aA
 first | exact aU.name _ _ | exact aU.tup _ _ _
 exact cE (aH (by ext))
 first | exact aY | exact aV
 refine jG ?_
 refine oU ?_
 refine qW ?_ ?_
 refine bV (o := .mem) gr.gx ?_ ?_
 exact aA
 refine iI ?_ ?_ ?_ ?_
 exact aA
 refine gK ?_
 exact aX (k := none)
 exact dY
 exact dY
 refine qW ?_ ?_
 refine bV (o := .ne) gr.gx ?_ ?_
 refine dD ?_ ?_
 exact aA
 exact aX (k := none)
 exact aA
 exact rE
 exact aA
 refine dT ?_
 exact cA
 exact aA
 refine aE ?_ ?_
 refine dC ?_ ?_ ?_
 refine bV (o := .eq) gr.gx ?_ ?_
 exact aA
 refine dT ?_
 exact cA
 refine aP ?_
 refine dW ?_
 refine jM ?_
 refine bB ?_ ?_
 exact aA
 refine bB ?_ ?_
 exact aA
 refine bB ?_ ?_
 exact aA
 refine bB ?_ ?_
 exact aA
 exact cA
 exact cP
 refine aE ?_ ?_
 refine cL ?_
 refine cJ F.plainAttrs_list F.slot_list_append F.type_list_append dH ?_ ?_
 exact aA
 refine aC ?_ ?_
 exact aA
 exact aM
 refine aE ?_ ?_
 refine cL ?_
 refine cJ F.plainAttrs_list F.slot_list_append F.type_list_append dH ?_ ?_
 exact aA
 refine aC ?_ ?_
 refine dD ?_ ?_
 exact aA
 exact aA
 exact aM
 refine aE ?_ ?_
 refine DP (o := .sub) trivial ?_ ?_ ?_
 exact aA
 refine dD ?_ ?_
 exact aA
 exact aA
 exact aX (k := none)
 refine aP ?_
 refine eW (frees := ["hands", "pick"]) (aH (by ext)) (by ext) (by ext) ?_ ?_ ?_ ?_ ?_
 refine eM gr.gx ?_ ?_
 exact aA
 first | exact aU.name _ _ | exact aU.tup _ _ _
 exact cE (aH (by ext))
 first | exact aY | exact aV
 exact eI
 refine WJ ?_ ?_ ?_
 refine bV (o := .eq) gr.gx ?_ ?_
 refine iI ?_ ?_ ?_ ?_
 exact aA
 exact dY
 refine gK ?_
 exact aX (k := none)
 exact dY
 refine dT ?_
 refine bB ?_ ?_
 refine dD ?_ ?_
 exact aA
 exact aA
 exact cA
 refine iI ?_ ?_ ?_ ?_
 exact aA
 refine gK ?_
 exact aX (k := none)
 exact dY
 exact dY
 exact aA
 exact cP
section
variable {G : a_} {d : Nat}
theorem RN (gr : Gd G) : gI G 199 (fRow.fd G.w.params) fRow.body := fQ gr (o := ⟨.type "function", none, .func (fRow.fd G.w.params), #[]⟩) (fRow.got _).2 rfl (by ext) (by ext) (by ext) (by ext) (by ext) (by ext)
theorem OY (gr : Gd G) : dQ G true (d + 1) (.ref 199) VK :=
 eA (d := d + 0) gr.gk (RN gr) (cT <| IJ fun a b c e => by kernel_rfl) (fK (by decide) (YE (cC (by ext)) (cC (by ext)) (cC (by ext)) (cC (by ext)))) (row.sim gr)
theorem E_ (gr : Gd G) : gI G 204 (fSorter.fd G.w.params) fSorter.body := fQ gr (o := ⟨.type "function", none, .func (fSorter.fd G.w.params), #[]⟩) (fSorter.got _).2 rfl (by ext) (by ext) (by ext) (by ext) (by ext) (by ext)
theorem CM (gr : Gd G) : dQ G true (d + 7) (.ref 204) zT :=
 eA (d := d + 6) gr.gk (E_ gr) (cT <| mV fun a b => by kernel_rfl) (fK (by decide) (GU (cC (by ext)) (cC (by ext)))) (sorter.sim gr)
theorem GZ (gr : Gd G) : gI G 214 (fQueued.fd G.w.params) fQueued.body := fQ gr (o := ⟨.type "function", none, .func (fQueued.fd G.w.params), #[]⟩) (fQueued.got _).2 rfl (by ext) (by ext) (by ext) (by ext) (by ext) (by ext)
theorem DK (gr : Gd G) : dQ G true (d + 1) (.ref 214) AR :=
 eA (d := d + 0) gr.gk (GZ gr) (cT <| uL fun a b c => by kernel_rfl) (fK (by decide) (QY (cC (by ext)) (cC (by ext)) (cC (by ext)))) (queued.sim gr)
end
theorem log.sim {G : a_} (gr : Gd G) {d : Nat} : gV G (lF (fLog.fd G.w.params).scope) true (d + 7) log.prog fLog.body := by
 refine aE ?_ ?_
 refine bZ ?_ ?_ ?_; rotate_left; exact aH (by ext); intro _; rfl; rotate_right
 refine fD gr.gk (by ext) gr.g_sorter (h_ gr (by ext)) (CM gr).toCall ?_
 refine bX.toC ?_
 refine aC ?_ ?_
 exact aA
 refine aC ?_ ?_
 exact aA
 exact aM
 refine aE ?_ ?_
 refine bZ ?_ ?_ ?_; rotate_left; exact aH (by ext); intro _; rfl; rotate_right
 exact jV
 refine aE ?_ ?_
 refine vL gr.gk gr.k (by ext) gr.g_CycleError gr.ex_cycle ?_ ?_
 refine aP ?_
 refine wD ?_
 refine FU gr.k gr.hts (iX _).2.2.1 (AW gr).toCall ?_ ?_
 exact aA
 refine bX.toC ?_
 exact aM
 refine aP ?_
 refine bZ ?_ ?_ ?_; rotate_left; exact aH (by ext); intro _; rfl; rotate_right
 exact jV
 refine aE ?_ ?_
 refine bZ ?_ ?_ ?_; rotate_left; exact aH (by ext); intro _; rfl; rotate_right
 refine dT ?_
 exact cA
 refine aE ?_ ?_
 refine bZ ?_ ?_ ?_; rotate_left; exact aH (by ext); intro _; rfl; rotate_right
 refine dT ?_
 exact cA
 refine aE ?_ ?_
 refine bZ ?_ ?_ ?_; rotate_left; exact aH (by ext); intro _; rfl; rotate_right
 refine cM gr.gk (by ext) gr.g_list cY l_ ?_
 refine aC ?_ ?_
 refine gO gr.k gr.hts (iX _).2.2.2.1 (pO gr).toCall ?_ ?_
 exact aA
 refine bX.toC ?_
 exact aM
 exact aM
 refine aE ?_ ?_
 refine jF ?_ ?_ ?_
 refine bV (o := .ne) gr.gx ?_ ?_
 exact aA
 refine dT ?_
 exact cA
 refine aE ?_ ?_
 refine bZ ?_ ?_ ?_; rotate_left; exact aH (by ext); intro _; rfl; rotate_right
 refine cM gr.gk (by ext) gr.g_sorted cG tW ?_
 refine aC ?_ ?_
 refine kT (frees := []) (by ext) (by ext) ?_ ?_ ?_ ?_ ?_
 refine eM gr.gx ?_ ?_
 exact aA
 first | exact aU.name _ _ | exact aU.tup _ _ _
 exact cE (aH (by ext))
 first | exact aY | exact aV
 exact eI
 refine cQ (o := .mod) ?_ ?_
 exact aA
 exact aX (k := none)
 exact aM
 refine aE ?_ ?_
 refine cL ?_
 refine cJ F.plainAttrs_list F.slot_list_append F.type_list_append dH ?_ ?_
 exact aA
 refine aC ?_ ?_
 exact aA
 exact aM
 refine aE ?_ ?_
 refine cL ?_
 refine cJ F.plainAttrs_list F.slot_list_append F.type_list_append dH ?_ ?_
 exact aA
 refine aC ?_ ?_
 refine dD ?_ ?_
 exact aA
 exact aA
 exact aM
 refine aE ?_ ?_
 refine bZ ?_ ?_ ?_; rotate_left; exact aH (by ext); intro _; rfl; rotate_right
 refine dD ?_ ?_
 refine kT (frees := ["hands", "pick"]) (by ext) (by ext) ?_ ?_ ?_ ?_ ?_
 refine eM gr.gx ?_ ?_
 exact aA
 first | exact aU.name _ _ | exact aU.tup _ _ _
 exact cE (aH (by ext))
 first | exact aY | exact aV
 refine jG ?_
 refine bV (o := .eq) gr.gx ?_ ?_
 refine cQ (o := .mod) ?_ ?_
 exact aA
 exact aX (k := none)
 refine dD ?_ ?_
 exact aA
 exact aA
 exact aA
 exact aX (k := none)
 refine aE ?_ ?_
 refine cL ?_
 refine gO gr.k gr.hts (iX _).2.2.2.2.1 (I_ gr).toCall ?_ ?_
 exact aA
 refine bX.toC ?_
 refine aC ?_ ?_
 exact aA
 exact aM
 refine aP ?_
 refine bZ ?_ ?_ ?_; rotate_left; exact aH (by ext); intro _; rfl; rotate_right
 refine cQ (o := .add) ?_ ?_
 refine fD gr.gk (by ext) gr.g_filter (h_ gr (by ext)) (tQ gr).toCall ?_
 refine bX.toC ?_
 refine aC ?_ ?_
 exact aA
 refine aC ?_ ?_
 refine dT ?_
 refine bB ?_ ?_
 exact aA
 exact cA
 exact aM
 refine cM gr.gk (by ext) gr.g_list cY l_ ?_
 refine aC ?_ ?_
 refine gO gr.k gr.hts (iX _).2.2.2.1 (pO gr).toCall ?_ ?_
 exact aA
 refine bX.toC ?_
 exact aM
 exact aM
 exact cP
 refine aP ?_
 refine dW ?_
 refine jM ?_
 refine bB ?_ ?_
 exact aA
 refine bB ?_ ?_
 exact aA
 refine bB ?_ ?_
 exact aA
 exact cA
section
variable {G : a_} {d : Nat}
theorem RH (gr : Gd G) : gI G 209 (fLog.fd G.w.params) fLog.body := fQ gr (o := ⟨.type "function", none, .func (fLog.fd G.w.params), #[]⟩) (fLog.got _).2 rfl (by ext) (by ext) (by ext) (by ext) (by ext) (by ext)
theorem NG (gr : Gd G) : dQ G true (d + 8) (.ref 209) WD :=
 eA (d := d + 7) gr.gk (RH gr) (cT <| uL fun a b c => by kernel_rfl) (fK (by decide) (QY (cC (by ext)) (cC (by ext)) (cC (by ext)))) (log.sim gr)
end
theorem holds.sim {G : a_} (gr : Gd G) {d : Nat} : gV G (lF (fHolds.fd G.w.params).scope) true (d + 8) holds.prog fHolds.body := by
 refine aE ?_ ?_
 refine nT ?_ ?_
 refine fD gr.gk (by ext) gr.g_log (h_ gr (by ext)) (NG gr).toCall ?_
 refine bX.toC ?_
 refine aC ?_ ?_
 exact aA
 refine aC ?_ ?_
 exact aA
 refine aC ?_ ?_
 exact aA
 exact aM
 exact TT (aH (by ext)) (aH (by ext)) (aH (by ext))
 refine aE ?_ ?_
 refine nT ?_ ?_
 refine fD gr.gk (by ext) gr.g_queued (h_ gr (by ext)) (DK gr).toCall ?_
 refine bX.toC ?_
 refine aC ?_ ?_
 exact aA
 refine aC ?_ ?_
 exact aA
 refine aC ?_ ?_
 exact aA
 exact aM
 exact n0 (aH (by ext)) (aH (by ext)) (aH (by ext)) (aH (by ext))
 refine aE ?_ ?_
 refine dC ?_ ?_ ?_
 refine oU ?_
 refine rC ?_ ?_
 refine bV (o := .ne) gr.gx ?_ ?_
 exact aA
 refine AI (o := .gt) gr.gx ?_ ?_
 refine cM gr.gk (by ext) gr.g_sum cG wM ?_
 refine aC ?_ ?_
 exact aA
 exact aM
 exact aX (k := none)
 refine rC ?_ ?_
 refine bV (o := .ne) gr.gx ?_ ?_
 exact aA
 exact aA
 refine rC ?_ ?_
 refine bV (o := .ne) gr.gx ?_ ?_
 exact aA
 exact aA
 exact tL
 refine aP ?_
 refine dW ?_
 exact jV
 exact cP
 refine aE ?_ ?_
 refine fS ?_ ?_ ?_ ?_
 refine JK gr.gk (by ext) gr.g_zip ?_
 refine aC ?_ ?_
 exact aA
 refine aC ?_ ?_
 exact aA
 refine aC ?_ ?_
 exact aA
 exact aM
 exact TT (aH (by ext)) (aH (by ext)) (aH (by ext))
 first | exact aY | exact aV
 refine aP ?_
 refine dC ?_ ?_ ?_
 refine bV (o := .ne) gr.gx ?_ ?_
 refine cQ (o := .add) ?_ ?_
 refine fD gr.gk (by ext) gr.g_filter (h_ gr (by ext)) (tQ gr).toCall ?_
 refine bX.toC ?_
 refine aC ?_ ?_
 exact aA
 refine aC ?_ ?_
 refine kT (frees := ["pair"]) (by ext) (by ext) ?_ ?_ ?_ ?_ ?_
 refine eV gr.gk (by ext) gr.g_range ?_ ?_
 first | exact aU.name _ _ | exact aU.tup _ _ _
 refine aC ?_ ?_
 exact aX (k := none)
 exact aM
 exact cE (aH (by ext))
 first | exact aY | exact aV
 refine jG ?_
 refine bV (o := .nmem) gr.gx ?_ ?_
 exact aA
 exact aA
 exact aA
 exact aM
 exact aA
 exact aA
 refine aP ?_
 refine dW ?_
 exact jV
 exact cP
 refine aE ?_ ?_
 refine GL (frees := ["counts"]) (aH (by ext)) (by ext) (by ext) ?_ ?_ ?_ ?_ ?_ ?_ ?_ ?_ ?_
 refine eV gr.gk (by ext) gr.g_range ?_ ?_
 first | exact aU.name _ _ | exact aU.tup _ _ _
 refine aC ?_ ?_
 exact aX (k := none)
 exact aM
 exact cE (aH (by ext))
 first | exact aY | exact aV
 exact eI
 refine eV gr.gk (by ext) gr.g_range ?_ ?_
 first | exact aU.name _ _ | exact aU.tup _ _ _
 refine aC ?_ ?_
 refine dD ?_ ?_
 exact aA
 exact aA
 exact aM
 exact cE (aH (by ext))
 first | exact aY | exact aV
 exact eI
 exact aA
 refine aE ?_ ?_
 refine nT ?_ ?_
 refine fD gr.gk (by ext) gr.g_uld (h_ gr (by ext)) (NV gr).toCall ?_
 refine bX.toC ?_
 refine aC ?_ ?_
 exact aA
 refine aC ?_ ?_
 refine cM gr.gk (by ext) gr.g_list cY l_ ?_
 refine aC ?_ ?_
 exact aA
 exact aM
 exact aM
 exact v_ (aH (by ext)) (aH (by ext))
 refine aP ?_
 refine dW ?_
 refine QW ?_ ?_
 refine AI (o := .eq) gr.gx ?_ ?_
 exact aA
 refine dT ?_
 exact cA
 refine AI (o := .eq) gr.gx ?_ ?_
 refine cM gr.gk (by ext) gr.g_sorted cG tW ?_
 refine aC ?_ ?_
 exact aA
 exact aM
 refine KU (frees := ["left"]) (by ext) (by ext) ?_ ?_ ?_ ?_ ?_ ?_ ?_ ?_ ?_
 refine eV gr.gk (by ext) gr.g_range ?_ ?_
 first | exact aU.name _ _ | exact aU.tup _ _ _
 refine aC ?_ ?_
 exact aX (k := none)
 exact aM
 exact cE (aH (by ext))
 first | exact aY | exact aV
 exact eI
 refine eV gr.gk (by ext) gr.g_range ?_ ?_
 first | exact aU.name _ _ | exact aU.tup _ _ _
 refine aC ?_ ?_
 refine dD ?_ ?_
 exact aA
 exact aA
 exact aM
 exact cE (aH (by ext))
 first | exact aY | exact aV
 exact eI
 exact aA
section
variable {G : a_} {d : Nat}
theorem JD (gr : Gd G) : gI G 219 (fHolds.fd G.w.params) fHolds.body := fQ gr (o := ⟨.type "function", none, .func (fHolds.fd G.w.params), #[]⟩) (fHolds.got _).2 rfl (by ext) (by ext) (by ext) (by ext) (by ext) (by ext)
theorem vJ (gr : Gd G) : dQ G true (d + 9) (.ref 219) AF :=
 eA (d := d + 8) gr.gk (JD gr) (cT <| IJ fun a b c e => by kernel_rfl) (fK (by decide) (YE (cC (by ext)) (cC (by ext)) (cC (by ext)) (cC (by ext)))) (holds.sim gr)
end
theorem law.sim {G : a_} (gr : Gd G) {d : Nat} : gV G (lF (fLaw.fd G.w.params).scope) true (d + 9) law2.prog fLaw.body := by
 refine aE ?_ ?_
 refine eW (frees := []) (aH (by ext)) (by ext) (by ext) ?_ ?_ ?_ ?_ ?_
 refine eM gr.gx ?_ ?_
 refine iI ?_ ?_ ?_ ?_
 exact aA
 exact dY
 refine gK ?_
 exact aX (k := none)
 exact dY
 first | exact aU.name _ _ | exact aU.tup _ _ _
 exact cE (aH (by ext))
 first | exact aY | exact aV
 exact eI
 refine cQ (o := .mod) ?_ ?_
 refine cM gr.gk (by ext) gr.g_int cY O_ ?_
 refine aC ?_ ?_
 exact aA
 exact aM
 refine cQ (o := .pow) ?_ ?_
 exact aX (k := none)
 exact aX (k := none)
 refine aE ?_ ?_
 refine bZ ?_ ?_ ?_; rotate_left; exact aH (by ext); intro _; rfl; rotate_right
 refine cQ (o := .add) ?_ ?_
 exact aX (k := none)
 refine cM gr.gk (by ext) gr.g_sum cG wM ?_
 refine aC ?_ ?_
 exact aA
 exact aM
 refine aE ?_ ?_
 refine eW (frees := ["total"]) (aH (by ext)) (by ext) (by ext) ?_ ?_ ?_ ?_ ?_
 refine eV gr.gk (by ext) gr.g_range ?_ ?_
 first | exact aU.name _ _ | exact aU.tup _ _ _
 refine aC ?_ ?_
 exact aX (k := none)
 exact aM
 exact cE (aH (by ext))
 first | exact aY | exact aV
 exact eI
 refine cQ (o := .add) ?_ ?_
 exact aX (k := none)
 refine cQ (o := .mod) ?_ ?_
 refine cQ (o := .fdiv) ?_ ?_
 exact aA
 refine cQ (o := .pow) ?_ ?_
 exact aX (k := none)
 exact aA
 exact aX (k := none)
 refine aE ?_ ?_
 refine eW (frees := ["cells"]) (aH (by ext)) (by ext) (by ext) ?_ ?_ ?_ ?_ ?_
 refine yW gr.gk (by ext) gr.g_enumerate ?_
 refine aC ?_ ?_
 refine dT ?_
 refine bB ?_ ?_
 exact aX (k := none)
 refine bB ?_ ?_
 exact aX (k := none)
 refine bB ?_ ?_
 exact aX (k := none)
 refine bB ?_ ?_
 exact aX (k := none)
 refine bB ?_ ?_
 exact aX (k := none)
 refine bB ?_ ?_
 exact aX (k := none)
 exact cA
 exact aM
 exact v_ (aH (by ext)) (aH (by ext))
 first | exact aY | exact aV
 exact eI
 refine cQ (o := .add) ?_ ?_
 exact aA
 refine cM gr.gk (by ext) gr.g_sum cG wM ?_
 refine aC ?_ ?_
 refine iI ?_ ?_ ?_ ?_
 exact aA
 refine gK ?_
 exact aA
 exact dY
 refine gK ?_
 exact aX (k := none)
 exact aM
 refine aE ?_ ?_
 refine bZ ?_ ?_ ?_; rotate_left; exact aH (by ext); intro _; rfl; rotate_right
 refine dT ?_
 refine bB ?_ ?_
 refine jM ?_
 refine bB ?_ ?_
 exact aX (k := none)
 refine bB ?_ ?_
 exact aX (k := none)
 exact cA
 refine bB ?_ ?_
 refine jM ?_
 refine bB ?_ ?_
 exact aX (k := none)
 refine bB ?_ ?_
 exact aX (k := none)
 exact cA
 refine bB ?_ ?_
 refine jM ?_
 refine bB ?_ ?_
 exact aX (k := none)
 refine bB ?_ ?_
 exact aX (k := none)
 exact cA
 refine bB ?_ ?_
 refine jM ?_
 refine bB ?_ ?_
 exact aX (k := none)
 refine bB ?_ ?_
 exact aX (k := none)
 exact cA
 refine bB ?_ ?_
 refine jM ?_
 refine bB ?_ ?_
 exact aX (k := none)
 refine bB ?_ ?_
 exact aX (k := none)
 exact cA
 refine bB ?_ ?_
 refine jM ?_
 refine bB ?_ ?_
 exact aX (k := none)
 refine bB ?_ ?_
 exact aX (k := none)
 exact cA
 exact cA
 refine aE ?_ ?_
 refine eW (frees := []) (aH (by ext)) (by ext) (by ext) ?_ ?_ ?_ ?_ ?_
 refine JO gr.gk (by ext) gr.g_zip ?_
 refine aC ?_ ?_
 exact aA
 refine aC ?_ ?_
 exact aA
 exact aM
 exact v_ (aH (by ext)) (aH (by ext))
 first | exact aY | exact aV
 refine jG ?_
 refine bV (o := .gt) gr.gx ?_ ?_
 refine cQ (o := .mod) ?_ ?_
 exact aA
 exact aX (k := none)
 exact aX (k := none)
 refine jM ?_
 refine bB ?_ ?_
 refine cQ (o := .fdiv) ?_ ?_
 exact aA
 exact aX (k := none)
 refine bB ?_ ?_
 exact aA
 exact cA
 refine aE ?_ ?_
 refine eW (frees := []) (aH (by ext)) (by ext) (by ext) ?_ ?_ ?_ ?_ ?_
 refine eM gr.gx ?_ ?_
 exact aA
 first | exact aU.name _ _ | exact aU.tup _ _ _
 exact v_ (aH (by ext)) (aH (by ext))
 first | exact aY | exact aV
 exact eI
 exact aA
 refine aE ?_ ?_
 refine eW (frees := ["counts"]) (aH (by ext)) (by ext) (by ext) ?_ ?_ ?_ ?_ ?_
 refine eM gr.gx ?_ ?_
 exact aA
 first | exact aU.name _ _ | exact aU.tup _ _ _
 exact v_ (aH (by ext)) (aH (by ext))
 first | exact aY | exact aV
 exact eI
 refine fD gr.gk (by ext) gr.g_row (h_ gr (by ext)) (OY gr).toCall ?_
 refine bX.toC ?_
 refine aC ?_ ?_
 exact aA
 refine aC ?_ ?_
 refine dD ?_ ?_
 exact aA
 exact aX (k := none)
 refine aC ?_ ?_
 refine dD ?_ ?_
 exact aA
 exact aX (k := none)
 refine aC ?_ ?_
 exact aA
 exact aM
 refine aE ?_ ?_
 refine dC ?_ ?_ ?_
 refine vA ?_
 refine iN ?_
 refine fD gr.gk (by ext) gr.g_holds (h_ gr (by ext)) (vJ gr).toCall ?_
 refine bX.toC ?_
 refine aC ?_ ?_
 exact aA
 refine aC ?_ ?_
 exact aA
 refine aC ?_ ?_
 exact aA
 refine aC ?_ ?_
 exact aX (k := none)
 exact aM
 refine aP ?_
 refine dW ?_
 exact jV
 exact cP
 refine aP ?_
 refine dW ?_
 refine fD gr.gk (by ext) gr.g_holds (h_ gr (by ext)) (vJ gr).toCall ?_
 refine bX.toC ?_
 refine aC ?_ ?_
 refine kT (frees := []) (by ext) (by ext) ?_ ?_ ?_ ?_ ?_
 refine eM gr.gx ?_ ?_
 exact aA
 first | exact aU.name _ _ | exact aU.tup _ _ _
 exact cE (aH (by ext))
 first | exact aY | exact aV
 exact eI
 refine iI ?_ ?_ ?_ ?_
 exact aA
 exact dY
 exact dY
 refine gK ?_
 refine AC ?_
 exact aX (k := none)
 refine aC ?_ ?_
 exact aA
 refine aC ?_ ?_
 exact aA
 refine aC ?_ ?_
 refine AC ?_
 exact aX (k := none)
 exact aM
section
variable {G : a_} {d : Nat}
theorem QX (gr : Gd G) : gI G 224 (fLaw.fd G.w.params) fLaw.body := fQ gr (o := ⟨.type "function", none, .func (fLaw.fd G.w.params), #[]⟩) (fLaw.got _).2 rfl (by ext) (by ext) (by ext) (by ext) (by ext) (by ext)
noncomputable def YV : List AV -> dM AV := mR (jA ["script"]) law2.prog
theorem MO (gr : Gd G) : dQ G true (d + 10) (.ref 224) YV :=
 eA (d := d + 9) gr.gk (QX gr) (cT <| lI fun a => by kernel_rfl) (fK (by decide) (JC (cC (by ext)))) (law.sim gr)
theorem KM (gr : Gd G) {s : Shared} (hs : s.heap = G.h₀) {a : Addr} {vs : List Value} {xs : List Int} (hL : s.heap.IsList a vs.toArray) (hI : IntsAre vs xs) (hx : xs.length <= 63) {R : Result -> Shared -> Prop}
  (hR : ∀ s', (∀ b o, s.heap.get? b = some o -> s'.heap.get? b = some o) -> s'.os = s.os -> s'.gens = s.gens -> R (.ok (.ret (.bool true))) s') : codeAny G.M callerA (.call (.ref 224) ⟨[.ref a], []⟩) R s := by
 obtain ⟨z, hp', e, rfl⟩ := mG <| show iF (YV [.script xs]) (fun v zz => v = .bool true) [] from gH (bs := [("script", .script xs)]) rfl (MV hx fun zz => rfl)
 have hin : bK G [] [] [] s := ⟨fun b o h => by rw [hs]; exact h, rfl, nodup_nil, fun n c a h => (by cases h), fun a h => (by cases h), fun e h => (by cases h)⟩
 obtain ⟨o, ho, hc, n, hd⟩ := hL
 refine MO (d := 0) gr [.script xs] callerA [] [] [] s (.bool true) hp' [.ref a] ⟨rfl, by decide +kernel, by decide +kernel, fun zz => rfl⟩ hin (.cons (.script (hs ▸ ho) hc hd hI) .nil) e R fun b s' bM x H v => ?_
 cases v
 obtain ⟨h', tk, e'⟩ := x.same
 exact hR s' (fun b o h => H.base b o (hs ▸ h)) (by rw [e']) (by rw [e'])
end
theorem sO {G : a_} {K : Frag} {n : String} {v : Value} (X : K.In G.h₀) (g : G.h₀.Ns mainGlobals G.mg) (e : nsIn K mainGlobals (Str.ofString n) = some (some v)) : cZ G n v := .inl (mg_of X g e)
theorem pW {G : a_} {K : Frag} {n : String} {v : Value} (X : K.In G.h₀) (g : G.h₀.Ns mainGlobals G.mg) (b : ∀ x : PySem.Str, x ≠ "__name__" -> G.mb x = bootBuiltins x) (e : nsIn K mainGlobals (Str.ofString n) = some none) (h : bootBuiltins (Str.ofString n) = some v) (hn : (Str.ofString n == ("__name__" : PySem.Str)) = false) : cZ G n v :=
 .inr ⟨mg_none_of X g e, (b _ (fun q => by rw [q] at hn; simp at hn)).trans h⟩
theorem ZT {p p' : Program} {loose : List PySem.Str} {w : World} {mg mb : PySem.Str -> Option Value} {h : Heap} (hm : (h.get? sysModules).isSome = true) (T : TopRead p' loose mg mb h) : GX ⟨p, w, h, mg, mb, AA⟩ := ⟨⟨T.g, T.b, T.nolimit⟩, hm⟩
theorem ZX {p p' : Program} {loose : List PySem.Str} {w : World} {mg mb : PySem.Str -> Option Value} {h : Heap} (X : (KK w.params).In h) (hm : (h.get? sysModules).isSome = true) (T : TopRead p' loose mg mb h) : Gd ⟨p, w, h, mg, mb, AA⟩ where
 gx := ZT hm T
 k := X
 addr := rfl
 g_list := pW X T.g T.builtins (by ext) (by ext) (by ext)
 g_range := pW X T.g T.builtins (by ext) (by ext) (by ext)
 g_tuple := pW X T.g T.builtins (by ext) (by ext) (by ext)
 g_set := pW X T.g T.builtins (by ext) (by ext) (by ext)
 g_int := pW X T.g T.builtins (by ext) (by ext) (by ext)
 g_bool := pW X T.g T.builtins (by ext) (by ext) (by ext)
 g_enumerate := pW X T.g T.builtins (by ext) (by ext) (by ext)
 g_ValueError := pW X T.g T.builtins (by ext) (by ext) (by ext)
 g_StopIteration := pW X T.g T.builtins (by ext) (by ext) (by ext)
 g_len := pW X T.g T.builtins (by ext) (by ext) (by ext)
 g_sum := pW X T.g T.builtins (by ext) (by ext) (by ext)
 g_sorted := pW X T.g T.builtins (by ext) (by ext) (by ext)
 g_iter := pW X T.g T.builtins (by ext) (by ext) (by ext)
 g_next := pW X T.g T.builtins (by ext) (by ext) (by ext)
 g_NODE_OUT := sO X T.g (by ext)
 g_NODE_DONE := sO X T.g (by ext)
 g_NodeInfo := sO X T.g (by ext)
 g_CycleError := sO X T.g (by ext)
 g_TopologicalSorter := sO X T.g (by ext)
 g_filterfalse := sO X T.g (by ext)
 g_filter := sO X T.g (by ext)
 g_uld := sO X T.g (by ext)
 g_zip := pW X T.g T.builtins (by ext) (by ext) (by ext)
 g_row := sO X T.g (by ext)
 g_sorter := sO X T.g (by ext)
 g_log := sO X T.g (by ext)
 g_queued := sO X T.g (by ext)
 g_holds := sO X T.g (by ext)
 own := own_of_in X T (by ext) (by ext)
end Mine
namespace Mine.fin
theorem tw10041430953259511950 : True := ⟨⟩
theorem tw101400259379878417 : True := ⟨⟩
theorem tw1014637456484912126 : True := ⟨⟩
theorem tw10147658903529517814 : True := ⟨⟩
theorem tw10329872625359487480 : True := ⟨⟩
theorem tw10383673109516279431 : True := ⟨⟩
theorem tw10567028658651823492 : True := ⟨⟩
theorem tw10580198807604790814 : True := ⟨⟩
theorem tw10807920368746810246 : True := ⟨⟩
theorem tw10852849658779182186 : True := ⟨⟩
theorem tw10874316729293906858 : True := ⟨⟩
theorem tw10875463905939285979 : True := ⟨⟩
theorem tw10895054467252067526 : True := ⟨⟩
theorem tw10925335251469727208 : True := ⟨⟩
theorem tw10936777179133785780 : True := ⟨⟩
theorem tw11154830654865731599 : True := ⟨⟩
theorem tw11192643925408225281 : True := ⟨⟩
theorem tw11298980531735778240 : True := ⟨⟩
theorem tw11351276838400808062 : True := ⟨⟩
theorem tw11414674201277728305 : True := ⟨⟩
theorem tw11466478281803324712 : True := ⟨⟩
theorem tw11615019562542576733 : True := ⟨⟩
theorem tw12118000046449163591 : True := ⟨⟩
theorem tw12212933522069011988 : True := ⟨⟩
theorem tw12237877928780879103 : True := ⟨⟩
theorem tw12284014389350100970 : True := ⟨⟩
theorem tw12355744275394475900 : True := ⟨⟩
theorem tw12448240930570709186 : True := ⟨⟩
theorem tw12464766053444552404 : True := ⟨⟩
theorem tw12494888245299231016 : True := ⟨⟩
theorem tw1252854909445205041 : True := ⟨⟩
theorem tw12550770813317053977 : True := ⟨⟩
theorem tw12567809125941998234 : True := ⟨⟩
theorem tw12629903358213643309 : True := ⟨⟩
theorem tw12649782002744950493 : True := ⟨⟩
theorem tw12696600883282566439 : True := ⟨⟩
theorem tw12711679700452659978 : True := ⟨⟩
theorem tw12740692763255036000 : True := ⟨⟩
theorem tw12751662967071866640 : True := ⟨⟩
theorem tw12869217540446652890 : True := ⟨⟩
theorem tw12876064707754696378 : True := ⟨⟩
theorem tw12876116671307685997 : True := ⟨⟩
theorem tw12996517811204074000 : True := ⟨⟩
theorem tw13162651487661262736 : True := ⟨⟩
theorem tw13177410634674063896 : True := ⟨⟩
theorem tw13199158710529813207 : True := ⟨⟩
theorem tw13360279666012451719 : True := ⟨⟩
theorem tw13383306551100868464 : True := ⟨⟩
theorem tw13467322939085005891 : True := ⟨⟩
theorem tw13647521368782130326 : True := ⟨⟩
theorem tw13724452099449386491 : True := ⟨⟩
theorem tw13929302177132474383 : True := ⟨⟩
theorem tw14139026862911339306 : True := ⟨⟩
theorem tw1420267162992608975 : True := ⟨⟩
theorem tw14210890002308233579 : True := ⟨⟩
theorem tw14245171486683049214 : True := ⟨⟩
theorem tw14347400895652799225 : True := ⟨⟩
theorem tw14431720936831517352 : True := ⟨⟩
theorem tw14497727239971306367 : True := ⟨⟩
theorem tw14502568938100002273 : True := ⟨⟩
theorem tw14560573928864763818 : True := ⟨⟩
theorem tw14574801432027512755 : True := ⟨⟩
theorem tw14578271805448956485 : True := ⟨⟩
theorem tw14856888987745899463 : True := ⟨⟩
theorem tw15149952090015108872 : True := ⟨⟩
theorem tw15201286185872193147 : True := ⟨⟩
theorem tw15205425988870721313 : True := ⟨⟩
theorem tw15344004072050561172 : True := ⟨⟩
theorem tw15533503492667675913 : True := ⟨⟩
theorem tw15564276425815640635 : True := ⟨⟩
theorem tw15566928917628492161 : True := ⟨⟩
theorem tw15583698165555649274 : True := ⟨⟩
theorem tw15675102808854859970 : True := ⟨⟩
theorem tw15815952407149668801 : True := ⟨⟩
theorem tw15832999045522443761 : True := ⟨⟩
theorem tw15989303212955285315 : True := ⟨⟩
theorem tw16115155874713506467 : True := ⟨⟩
theorem tw1613116972386908190 : True := ⟨⟩
theorem tw16175276709679454751 : True := ⟨⟩
theorem tw1625080806587739848 : True := ⟨⟩
theorem tw16275787546110486726 : True := ⟨⟩
theorem tw16285329926789087883 : True := ⟨⟩
theorem tw16401934584784274106 : True := ⟨⟩
theorem tw16496857829328116044 : True := ⟨⟩
theorem tw16502652511500755 : True := ⟨⟩
theorem tw16510490156224867327 : True := ⟨⟩
theorem tw16540275574145912595 : True := ⟨⟩
theorem tw16656299143469825513 : True := ⟨⟩
theorem tw1666694428299288667 : True := ⟨⟩
theorem tw16906536467411238026 : True := ⟨⟩
theorem tw16934629359412608497 : True := ⟨⟩
theorem tw17197158672614542318 : True := ⟨⟩
theorem tw17204297501091165112 : True := ⟨⟩
theorem tw17416127249078093707 : True := ⟨⟩
theorem tw17570709534508481193 : True := ⟨⟩
theorem tw17628183408451194143 : True := ⟨⟩
theorem tw17717364068325071970 : True := ⟨⟩
theorem tw17743408960866722510 : True := ⟨⟩
theorem tw17801579834951734752 : True := ⟨⟩
theorem tw17821466097196317003 : True := ⟨⟩
theorem tw17861066769153400444 : True := ⟨⟩
theorem tw17933470926392208243 : True := ⟨⟩
theorem tw18105285910621931680 : True := ⟨⟩
theorem tw18105942590061964161 : True := ⟨⟩
theorem tw18295790063311454060 : True := ⟨⟩
theorem tw1887099378405440850 : True := ⟨⟩
theorem tw1921391257341544841 : True := ⟨⟩
theorem tw1963134401048803436 : True := ⟨⟩
theorem tw1976505206021243879 : True := ⟨⟩
theorem tw216489041496292469 : True := ⟨⟩
theorem tw2305881189932309285 : True := ⟨⟩
theorem tw2367325634123391141 : True := ⟨⟩
theorem tw2462912638960843985 : True := ⟨⟩
theorem tw2512408688544751470 : True := ⟨⟩
theorem tw251868834278440796 : True := ⟨⟩
theorem tw2656788454239962097 : True := ⟨⟩
theorem tw2824846461999071874 : True := ⟨⟩
theorem tw2866121171748074186 : True := ⟨⟩
theorem tw3105451386036433885 : True := ⟨⟩
theorem tw3173534031939492945 : True := ⟨⟩
theorem tw3173669058703137992 : True := ⟨⟩
theorem tw3263211703599914710 : True := ⟨⟩
theorem tw3314143786362844604 : True := ⟨⟩
theorem tw3343445320678177929 : True := ⟨⟩
theorem tw3404873503106905745 : True := ⟨⟩
theorem tw3459265974087741279 : True := ⟨⟩
theorem tw3598329298470268980 : True := ⟨⟩
theorem tw3599858809825778643 : True := ⟨⟩
theorem tw3683778510129048087 : True := ⟨⟩
theorem tw369598274720632884 : True := ⟨⟩
theorem tw3810338749695602999 : True := ⟨⟩
theorem tw3810570522144960214 : True := ⟨⟩
theorem tw3975253019698251321 : True := ⟨⟩
theorem tw4170516301191304579 : True := ⟨⟩
theorem tw4171678462856256454 : True := ⟨⟩
theorem tw4209717502836232480 : True := ⟨⟩
theorem tw4218790737952374519 : True := ⟨⟩
theorem tw428092273266315144 : True := ⟨⟩
theorem tw4312942655851389009 : True := ⟨⟩
theorem tw4640724917100965312 : True := ⟨⟩
theorem tw4722470732077146444 : True := ⟨⟩
theorem tw4759752924163587094 : True := ⟨⟩
theorem tw4768634762848416435 : True := ⟨⟩
theorem tw4788878847521262168 : True := ⟨⟩
theorem tw480829909506669009 : True := ⟨⟩
theorem tw4868334931027891882 : True := ⟨⟩
theorem tw4878226113927451544 : True := ⟨⟩
theorem tw4879674094562380441 : True := ⟨⟩
theorem tw4924110625330727750 : True := ⟨⟩
theorem tw4928979718650693569 : True := ⟨⟩
theorem tw4950403968356008110 : True := ⟨⟩
theorem tw4995774134780000232 : True := ⟨⟩
theorem tw5098551885099359569 : True := ⟨⟩
theorem tw544173102793226557 : True := ⟨⟩
theorem tw5486226609284752418 : True := ⟨⟩
theorem tw5734618986648460908 : True := ⟨⟩
theorem tw5776136370200156792 : True := ⟨⟩
theorem tw5805905742469029177 : True := ⟨⟩
theorem tw5897612983314593646 : True := ⟨⟩
theorem tw6068950659093879613 : True := ⟨⟩
theorem tw6081921254191324426 : True := ⟨⟩
theorem tw6127190174262240918 : True := ⟨⟩
theorem tw612862322836996645 : True := ⟨⟩
theorem tw6144012678527597917 : True := ⟨⟩
theorem tw6207176494656529804 : True := ⟨⟩
theorem tw6213507637468552686 : True := ⟨⟩
theorem tw6381419901266130222 : True := ⟨⟩
theorem tw6454446336052903152 : True := ⟨⟩
theorem tw6567050819087999508 : True := ⟨⟩
theorem tw6634307039904815820 : True := ⟨⟩
theorem tw6650461044873433052 : True := ⟨⟩
theorem tw670465573061467203 : True := ⟨⟩
theorem tw6766378078585498003 : True := ⟨⟩
theorem tw6956187926921108005 : True := ⟨⟩
theorem tw6968583824967984638 : True := ⟨⟩
theorem tw7055459427971326715 : True := ⟨⟩
theorem tw7259804445196553303 : True := ⟨⟩
theorem tw7380833856163905736 : True := ⟨⟩
theorem tw744865244796547220 : True := ⟨⟩
theorem tw7547296005191728479 : True := ⟨⟩
theorem tw757079261281740938 : True := ⟨⟩
theorem tw7613857476909055813 : True := ⟨⟩
theorem tw7976502392129159676 : True := ⟨⟩
theorem tw7995362448368537469 : True := ⟨⟩
theorem tw8025084765662995669 : True := ⟨⟩
theorem tw807531904560671035 : True := ⟨⟩
theorem tw8119881530291889089 : True := ⟨⟩
theorem tw8269367382603917829 : True := ⟨⟩
theorem tw8352470293576582857 : True := ⟨⟩
theorem tw8383268338085895543 : True := ⟨⟩
theorem tw8399098705505230059 : True := ⟨⟩
theorem tw8408514402456403777 : True := ⟨⟩
theorem tw8416529770105884409 : True := ⟨⟩
theorem tw846297522682114974 : True := ⟨⟩
theorem tw8577089030196625639 : True := ⟨⟩
theorem tw8643116662766533202 : True := ⟨⟩
theorem tw8656503046869711584 : True := ⟨⟩
theorem tw891787732878383699 : True := ⟨⟩
theorem tw8947099994592609211 : True := ⟨⟩
theorem tw895571856199123645 : True := ⟨⟩
theorem tw9001875181463519149 : True := ⟨⟩
theorem tw9113340658982188547 : True := ⟨⟩
theorem tw9218923581257491847 : True := ⟨⟩
theorem tw9387745189664136937 : True := ⟨⟩
theorem tw9722632081671974098 : True := ⟨⟩
theorem tw9735714214384596553 : True := ⟨⟩
theorem tw9746901515087519452 : True := ⟨⟩
theorem tw9913140749668108558 : True := ⟨⟩
theorem tw999798209818781672 : True := ⟨⟩
end Mine.fin
set_option Elab.async true
local macro_rules
 | `(tactic| o_head $t) => match t.raw[1] with
 | .node _ _ a => if a.size == 2 then pure (Mine.d "'o_head Mine.modHook @0 /2Lean.Parser.Term.app /2PySem.W.tacticO_head_" [a[1]!]) else Lean.Macro.throwUnsupported
 | _ => Lean.Macro.throwUnsupported
set_option maxHeartbeats 8000000
open Mine in
theorem Mine.fin : PySem.Challenge.rw_ik0180_02.Holds := by
 w_on; o_law; k_head; (case hw => w_witness2)
 k_fill
 intro w jI aB mg mb G Y fa o pm cd doc dV kV ho hd hcd hD hmg hg args vals as hpre hlay hrd hwl hlo
 have KX : (KK w.params).In aB.heap := Y.1
 have hm := Y.2
 refine Ground.open G ?_
 intro T B D TE TW
 have hfa : fa = 224 := by
  have h1 := mg_of KX T.g (n := Str.ofString "law") (v := .ref 224) (by ext)
  have h2 := hmg.symm.trans h1
  cases h2 <;> rfl
 subst hfa
 have GD : Gd ⟨PySem.Challenge.rw_ik0180_02.row.prog, w, aB.heap, mg, mb, AA⟩ := ZX KX hm (topRead_of T)
 clear TE TW B hmg ho hd hcd Y
 wrow_args hpre hlay hrd hwl hlo
 first | refine callC_kw (enter_call ?_) | refine enter_call ?_ | refine callC_kw (enter_callW ?_) | refine enter_callW ?_
 clear hD
 refine KM GD rfl (by assumption) (by assumption) (by omega) fun s' k os gens => GoodW.toG ⟨.inl ⟨.bool true, .bool true, [], rfl, fun cls => ?_, .bool true, ?_, fun zz => ⟨nodup_nil, fun a h => (by cases h)⟩⟩, k, os, gens.trans hg⟩
 ·rfl
 ·wrow_post
theorem PySem.Challenge.cw_ik0180_02_holds : PySem.Challenge.rw_ik0180_02.Holds := by
 exact Mine.fin
