import PyProof.Rows.All
import Wide.All
import OpenK.AllK
import Wide.FinOn
import PySem.Challenge.RW_ix0030_01
open PySem PySem.W PyProof.Rows PySem.Calls PySem.Spec
set_option Elab.async false
set_option linter.unusedVariables false
set_option maxRecDepth 100000
set_option genInjectivity false
set_option genSizeOf false
set_option tactic.hygienic false
namespace Mine
def dslT : String := "r (T.tacticRfl 'rfl );d (T.decide 'decide (T.optConfig (null ) ) );K (T.decide 'decide (T.optConfig (null (T.configItem (T.posConfigItem '+ kernel ) ) ) ) );k (tacticKernel_rfl 'kernel_rfl );a (T.assumption 'assumption );R (T.withReducible 'with_reducible (T.tacticSeq (T.tacticSeq1Indented (null (T.assumption 'assumption ) ) ) ) );A (T.first 'first (null (group '| (T.tacticSeq (T.tacticSeq1Indented (null (T.withReducible 'with_reducible (T.tacticSeq (T.tacticSeq1Indented (null (T.assumption 'assumption ) ) ) ) ) ) ) ) ) (group '| (T.tacticSeq (T.tacticSeq1Indented (null (tacticKernel_rfl 'kernel_rfl ) ) ) ) ) ) );s (T.paren '( (T.tacticSeq (T.tacticSeq1Indented (null (T.simp 'simp (T.optConfig (null ) ) (null ) (null ) (null ) (null ) ) '~ (T.done 'done ) ) ) ) ') );n (T.paren '( (T.tacticSeq (T.tacticSeq1Indented (null (T.intro 'intro (null q ) ) '~ (T.cases 'cases (null (T.elimTarget (null ) q ) ) (null ) (null ) ) ) ) ) ') );l (T.lia 'lia (T.optConfig (null ) ) );j (T.paren '( (T.tacticSeq (T.tacticSeq1Indented (null (T.intros 'intros (null ) ) '~ (T.tacticRfl 'rfl ) ) ) ) ') );i (T.paren '( (T.tacticSeq (T.tacticSeq1Indented (null (T.intros 'intros (null ) ) '~ (tacticKernel_rfl 'kernel_rfl ) ) ) ) ') );f (T.exact 'exact (E.fun 'fun (E.basicFun (null V V ) (null ) '=> rfl ) ) );t (T.paren '( (T.tacticSeq (T.tacticSeq1Indented (null (T.simp 'simp (T.optConfig (null ) ) (null ) (null 'only ) (null '[ (null (T.simpLemma (null ) (null ) List.length_take ) ', (T.simpLemma (null ) (null ) List.length_drop ) ) '] ) (null ) ) '~ (T.first 'first (null (group '| (T.tacticSeq (T.tacticSeq1Indented (null (T.withReducible 'with_reducible (T.tacticSeq (T.tacticSeq1Indented (null (T.exact 'exact (E.app le_ms2 (null (E.byTactic 'by (T.tacticSeq (T.tacticSeq1Indented (null (T.assumption 'assumption ) ) ) ) ) ) ) ) ) ) ) ) ) ) ) ) (group '| (T.tacticSeq (T.tacticSeq1Indented (null (T.lia 'lia (T.optConfig (null ) ) ) ) ) ) ) ) ) ) ) ) ') );e (T.first 'first (null (group '| (T.tacticSeq (T.tacticSeq1Indented (null (T.decide 'decide (T.optConfig (null ) ) ) ) ) ) ) (group '| (T.tacticSeq (T.tacticSeq1Indented (null (T.paren '( (T.tacticSeq (T.tacticSeq1Indented (null (T.simp 'simp (T.optConfig (null ) ) (null ) (null 'only ) (null '[ (null (T.simpLemma (null ) (null ) List.length_cons ) ', (T.simpLemma (null ) (null ) List.length_nil ) ) '] ) (null ) ) '~ (T.decide 'decide (T.optConfig (null ) ) ) ) ) ) ') ) ) ) ) ) ) );m.len (T.first 'first (null (group '| (T.tacticSeq (T.tacticSeq1Indented (null (T.withReducible 'with_reducible (T.tacticSeq (T.tacticSeq1Indented (null (T.exact 'exact (E.app le_ms2 (null (E.byTactic 'by (T.tacticSeq (T.tacticSeq1Indented (null (T.assumption 'assumption ) ) ) ) ) ) ) ) ) ) ) ) ) ) ) ) (group '| (T.tacticSeq (T.tacticSeq1Indented (null (T.lia 'lia (T.optConfig (null ) ) ) ) ) ) ) (group '| (T.tacticSeq (T.tacticSeq1Indented (null (T.paren '( (T.tacticSeq (T.tacticSeq1Indented (null (T.simp 'simp (T.optConfig (null ) ) (null ) (null 'only ) (null '[ (null (T.simpLemma (null ) (null ) List.length_append ) ', (T.simpLemma (null ) (null ) List.length_cons ) ', (T.simpLemma (null ) (null ) List.length_nil ) ', (T.simpLemma (null ) (null ) List.length_map ) ) '] ) (null ) ) '~ (T.lia 'lia (T.optConfig (null ) ) ) ) ) ) ') ) ) ) ) ) ) );m.side (T.first 'first (null (group '| (T.tacticSeq (T.tacticSeq1Indented (null (T.withReducible 'with_reducible (T.tacticSeq (T.tacticSeq1Indented (null (T.assumption 'assumption ) ) ) ) ) ) ) ) ) (group '| (T.tacticSeq (T.tacticSeq1Indented (null (T.withReducible 'with_reducible (T.tacticSeq (T.tacticSeq1Indented (null (T.exact 'exact (E.app emod64 (null (E.byTactic 'by (T.tacticSeq (T.tacticSeq1Indented (null (T.decide 'decide (T.optConfig (null ) ) ) ) ) ) ) (E.byTactic 'by (T.tacticSeq (T.tacticSeq1Indented (null (T.decide 'decide (T.optConfig (null ) ) ) ) ) ) ) ) ) ) ) ) ) ) ) ) ) ) (group '| (T.tacticSeq (T.tacticSeq1Indented (null (T.decide 'decide (T.optConfig (null ) ) ) ) ) ) ) (group '| (T.tacticSeq (T.tacticSeq1Indented (null (T.lia 'lia (T.optConfig (null ) ) ) ) ) ) ) (group '| (T.tacticSeq (T.tacticSeq1Indented (null (T.paren '( (T.tacticSeq (T.tacticSeq1Indented (null (T.simp 'simp (T.optConfig (null ) ) (null ) (null ) (null ) (null ) ) '~ (T.done 'done ) ) ) ) ') ) ) ) ) ) ) );m.has Has.here|Hs1|Hs2|Hs3|Hs4|Hs5|Hs6|Hs7|Ht8 m.has|D m.has;m.put Put.here|Ps1|Ps2|Ps3|Ps4|Ps5|Ps6|Ps7|Pt8 m.put|D m.put;m.name X_name ! m.has|X_glob ! m.has m.glob;m.op Op_add|Op_sub|Op_and|Op_mod m.side|Op_div m.side m.side|Op_mulR m.side|Op_addB m.side;m.cmp Cmp_eq|Cmp_ne|Cmp_lt|Cmp_gt|Cmp_le|Cmp_ge|Cmp_eqS|Cmp_neS|Cmp_eqB|Cmp_neB|Cmp_isNot0|Cmp_isNot n|Cmp_inI' m.ints|Cmp_inS m.mem l|Cmp_notinS m.mem l;m.ints Ints.nil|Ints.cons m.ints;m.xs Xs.nil|Xs.cons m.x m.xs f;m.ret S_return m.x ?k;m.retv S_return ?v ?k;m.glob g_len|g_min|g_bytes|g_range|g_int|g_law_kinds|g_law_bits|g_law_big|g_law_small|g_law_drawn|g_law_laid|g_law_due|g_law_reads|g_law_row|g_law_fed|g_set|g_bytearray|g_isinstance|g_Frame|g_DataFrame|g_HeadersFrame|g_RstStreamFrame|g_PushPromiseFrame|g_WindowUpdateFrame|g_ContinuationFrame|g_InvalidFrameError|g_InvalidDataError|g_ProtocolError|g_FrameTooLargeError|g_FrameDataMissingError|g_FrameBuffer|g_BACKLOG;m.fn fn_kinds|fn_bits|fn_small|fn_big m.side m.side;m.pt Pt.none|Pt.some m.x;m.x X_name ! m.has|X_glob ! m.has m.glob|X_int|X_str|X_bool|X_none|X_bytes0|X_bin m.x m.x m.op|X_cmp =hm m.x m.x m.cmp|X_at ! m.x m.mem m.mem m.fld A r r|X_fromBytes ! m.x m.xs m.len r r|X_lenB m.x m.xs m.len|X_lenL m.x m.xs m.len|X_lenO m.x m.xs m.mem m.len|X_lenBa m.x m.xs m.mem m.len|X_bytesBa m.x (Xs.cons (X_sliceBa m.x m.mem m.pt m.pt m.len ) $Xs.nil % ) t|X_isi ! m.x m.xs m.mem m.mem R|X_callF ! m.x k m.xs m.fn d|X_iteI m.t ^m.x ^m.x|X_iteB m.t ^m.x ^m.x|X_iteL m.t ^m.x ^m.x|X_itemB =hp m.x m.x m.len m.len m.len|X_itemO =hp m.x m.mem m.x d r d|X_cutB m.x m.pt m.pt m.len|Bs.run m.bs _|X_list m.xs d|X_tup m.xs d;m.bs Bs.and m.x ^m.bs|Bs.or m.x ^m.bs|Bs.one m.x;m.ts Ts_one m.t|Ts.and m.t ^m.ts|Ts.or m.t ^m.ts;m.tr Tr_bool|Tr_lst m.len;m.t T_cmp =hm m.x m.x m.cmp|T_not m.t|T_bool m.ts|T_name m.x m.tr|T_val % m.x $Tr_bool|T_val % m.x (Tr_own m.mem m.len )|T_val % m.x $Tr_int|T_chain =hm m.x m.x m.cmp m.x m.cmp;m.if S_if m.t @yes @no;m.assign S_assign' ! m.x m.put ?k *r|S_assignCell ! *a m.x m.put ?k *r|S_augAdd' ! m.has m.x m.put ?k;m.asg S_assign' ! ?v ?put ?k *r;m.asgC S_assignCell ! *a ?v ?put ?k *r;m.asgs Asgs.nil|Asgs.cons (Asg_name ! m.put ) m.asgs f;m.assignT S_assignT' ! ?v ?asn ?k r r;m.newList S_newList' ! ?k;m.mem List.mem_cons_self|Me1|Me2|Me3|Me4|Me5|Mt6 m.mem|List.mem_cons_of_mem _ m.mem|D m.mem;m.fld Fld.here|Fld.there K m.fld;m.fput FPut.here|FPut.nil|FPut.there K m.fput;m.mput MPut.here|MPut.there m.mput|D m.mput;m.pick Pick.here|Pick.there m.pick|D m.pick;m.picks Picks.nil|Picks.cons m.pick m.picks;perm PmRm m.rm m.ni;m.rm RmNil|RmCons m.te m.rm|RmApp m.rm m.rm|TaHere|TaCons m.ta|TaLeft m.ta|TaRight m.ta;m.ta TaHere|TaCons m.ta|TaLeft m.ta|TaRight m.ta;m.te TeHere|TeCons m.te|TeLeft m.te|TeRight m.te;m.ni NiNil|NiApp m.ni m.ni;m.ec ec_IF|ec_ID|ec_PE|ec_TL|ec_DM;r.assign SR_assign ! m.x m.put ?k *r;r.asg SR_assign ! ?v m.put ?k *r;r.set SR_set ! m.x m.x m.mem m.mput m.fput s A ?k *r;r.rest C hn r sb m.x sc m.mem sd m.mput se m.fput sf s sg A;r.ms C sb m.x sc m.mem sd m.mput se m.fput sf s;r.if SR_if m.t @yes @no;r.raise SR_raise ! ! m.x m.ec m.xs e ?k;r.ret SR_return m.x ?k;rec ~FnRec.mk k k k m.b k k k k k k (of_decide_eq_true k ) k k K;m.b ~bnd0 k|~bndS ^m.b;y hifs0|hifs1"
open Lean in
def dslK (v : MacroScopesView) (as : List Syntax) (st : List (String × List Syntax)) (t : String) : List (String × List Syntax) :=
  match st, t.toList with
  | (k, l) :: r, c :: u =>
    let u := String.ofList u
    if c == '(' then (u, []) :: st
    else if c == ')' then match r with
      | (k', l') :: r => (k', .node .none ((k.replace "T." "Lean.Parser.Tactic.").replace "E." "Lean.Parser.Term.").toName l.reverse.toArray :: l') :: r
      | [] => st
    else (k, (if c == '#' then as.getD u.toNat! .missing else if c == '\'' then .atom .none (if u == "~" then ";" else u) else if c == '"' then Syntax.mkLit `str ("\"" ++ u ++ "\"") else .ident .none t.toRawSubstring (if c == '~' then { v with name := u.toName }.review else t.toName) []) :: l) :: r
  | _, _ => st
open Lean in
def dslR (v : MacroScopesView) (as : List Syntax) (s : String) : Syntax := match (s.splitOn " ").foldl (dslK v as) [("", [])] with
  | (_, x :: _) :: _ => x
  | _ => .missing
def dslG (n : String) : List String → Option String
  | [] => none
  | l :: r => if l.startsWith (n ++ " ") then some (String.ofList (l.toList.drop (n.length + 1))) else dslG n r
def dslQ (s : String) : String := "(T.tacticSeq (T.tacticSeq1Indented (null " ++ s ++ " ) ) )"
def dslS (s : String) : String := match s.toList with
  | 'm' :: _ :: _ => "(PyProof.Rows.tacticWalk_at_ 'walk_at \"" ++ s ++ " )"
  | _ => (dslG s (dslT.splitOn ";")).getD ""
def dslC (k h s : String) : String := " '~ (T." ++ k ++ " '" ++ k ++ " (null (T.caseArg (Lean.binderIdent " ++ h ++ " ) (null ) ) ) '=> " ++ dslQ s ++ " )"
def dslO (st : Nat × String × String × String) (t : String) : Nat × String × String × String :=
  match st, t.toList with
  | (i, e, a, b), c :: u =>
    let u := String.ofList u
    let h := "~g" ++ toString i
    let H (x : String) := e ++ " (E.syntheticHole '? " ++ x ++ " )"
    let E (x : String) := (i + 1, e ++ x, a, b)
    match c with
    | '(' => E (" (E.app " ++ u ++ " (null")
    | ')' => E " ) )"
    | '!' => E (" (E.byTactic 'by " ++ dslQ "(T.assumption 'assumption )" ++ " )")
    | '_' => E " (E.hole '_ )"
    | '%' => E " (E.fun 'fun (E.basicFun (null V V ) (null ) '=> rfl ) )"
    | '$' => E (" " ++ u)
    | '?' => (i + 1, H ("~" ++ u), a, b)
    | '=' => (i + 1, e ++ " (E.namedArgument '( " ++ u ++ " ':= (E.syntheticHole '? " ++ h ++ " ) ') )", a ++ dslC "case" h "(T.tacticRfl 'rfl )", b)
    | '*' => (i + 1, H h, a ++ dslC "case" h (dslS u), b)
    | '^' => (i + 1, H h, a, b ++ dslC "case" h ("(T.intro 'intro (null (E.hole '_ ) ) ) '~ " ++ dslS u))
    | '@' => (i + 1, H ("~" ++ u), a, b ++ dslC "case'" ("~" ++ u) "(T.dsimp 'dsimp (T.optConfig (null ) ) (null ) (null 'only ) (null '[ (null (T.simpLemma (null ) (null ) List.cons_append ) ', (T.simpLemma (null ) (null ) List.nil_append ) ) '] ) (null ) )")
    | _ => (i + 1, H h, a, b ++ dslC "case" h (dslS t))
  | _, _ => st
def dslX (l : List String) : String := match l with
  | n :: t :: r => dslC "case" n (dslS t) ++ dslX r
  | _ => ""
def dslU (r : String) : String := match r.splitOn " " with
  | [n] => dslQ ("(T.withReducible 'with_reducible " ++ dslQ ("(T.exact 'exact " ++ n ++ " )") ++ " )")
  | "D" :: n :: _ => dslQ ("(T.dsimp 'dsimp (T.optConfig (null ) ) (null ) (null 'only ) (null ) (null ) ) '~ " ++ dslS n)
  | "C" :: l => dslQ ("(T.skip 'skip )" ++ dslX l)
  | n :: l =>
    let (_, e, a, b) := l.foldl dslO (0, "(E.app " ++ n.replace "~" "" ++ " (null", "", "")
    let q := "(T.refine' 'refine' " ++ e ++ " ) ) )"
    dslQ ((if r.startsWith "~" then q else "(T.withReducible 'with_reducible " ++ dslQ q ++ " )") ++ a ++ b)
  | _ => ""
def dslA (l : List String) : String := match l with
  | r :: l => " (group '| " ++ dslU r ++ " )" ++ dslA l
  | _ => ""
open Lean in
def dslW (s : String) : MacroM Syntax := do
  let v := extractMacroScopes (← Macro.addMacroScope `g)
  match dslG s (dslT.splitOn ";") with
  | some l => return dslR v [] (if l.startsWith "(" then l else "(T.first 'first (null" ++ dslA (l.splitOn "|") ++ " ) )")
  | none => Macro.throwUnsupported
local macro_rules | `(tactic| walk_at $s:str) => dslW s.getString
open Lean in
def dslI (p : Syntax) : Syntax :=
  .node .none `Lean.Parser.Tactic.rintroPat.one #[if p[0][0].getNumArgs == 1 && p[1].getNumArgs == 0 then p[0][0][0] else .node .none `Lean.Parser.Tactic.rcasesPat.paren #[.atom .none "(", p, .atom .none ")"]]
open Lean in
def dslE (i n : Nat) (x : Bool) (l : List String) : String := match l with
  | [] => ""
  | s :: l => " (group '| " ++ dslQ ("(T.refine' 'refine' (E.app " ++ s ++ " (null #0 (E.syntheticHole '? '_ ) ) ) )" ++ (if x then " '~ (T.tacticTry_ 'try " ++ dslQ "(T.clear 'clear (null #0 ) )" ++ " )" else "") ++ " '~ " ++ (let r := "(T.rintro 'rintro (null" ++ String.join ((List.range i).map fun j => " #" ++ toString (j + 1)) ++ " ) (null ) )"
    if i == n then r else "(T.«tactic_<;>_» " ++ r ++ " '<;> (T.paren '( " ++ dslQ ("(T.intro 'intro (null ζ ) ) '~ (T.obtain 'obtain (null (T.rcasesPatMed (null (T.rcasesPat.tuple '⟨ (null " ++ " ', ".intercalate ((List.range (n - i)).map fun j => "#" ++ toString (n + i + j + 1)) ++ " ) '⟩ ) ) ) ) (null ) (null ':= (null ζ ) ) )") ++ " ') ) )")) ++ " )" ++ dslE i n x l
def dslL (n : Nat) : List String := (((";;xE xA;xEE xEA xAA;xEEE xEEA xEAA xAAA;xEEEA xEEAA xEAAA;xEEEAA xEEAAA;xEEEAAA".splitOn ";").getD n "").splitOn " ").filter (· != "")
open Lean in
def dslB (p e : Syntax) : MacroM Syntax := do
  let t := p[0][0]
  if p[0].getNumArgs == 1 && t.getKind == `Lean.Parser.Tactic.rcasesPat.tuple then
    let ps := t[1].getSepArgs.toList
    let n := ps.length
    if n < 2 then Macro.throwUnsupported
    let x := e.isIdent
    return dslR (extractMacroScopes `g) (e :: ps.map dslI ++ ps) ("(T.first 'first (null" ++ dslE n n x (dslL n) ++ String.join ([5, 4, 3, 2, 1].map fun i => if i + 1 < n then dslE i n x (dslL (i + 1)) else "") ++ " ) )")
  Macro.throwUnsupported
section
variable {α β γ : Type} {Q : Prop}
theorem xE {A : α → Prop} (h : ∃ x, A x) (k : ∀ x, A x → Q) : Q := h.elim fun x h => k x h
theorem xA {A B : Prop} (h : A ∧ B) (k : A → B → Q) : Q := k h.1 h.2
theorem xEE {A : α → β → Prop} (h : ∃ x y, A x y) (k : ∀ x y, A x y → Q) : Q := h.elim fun x h => h.elim fun y h => k x y h
theorem xEA {A B : α → Prop} (h : ∃ x, A x ∧ B x) (k : ∀ x, A x → B x → Q) : Q := h.elim fun x h => k x h.1 h.2
theorem xAA {A B C : Prop} (h : A ∧ B ∧ C) (k : A → B → C → Q) : Q := k h.1 h.2.1 h.2.2
theorem xEEE {A : α → β → γ → Prop} (h : ∃ x y z, A x y z) (k : ∀ x y z, A x y z → Q) : Q := h.elim fun x h => h.elim fun y h => h.elim fun z h => k x y z h
theorem xEEA {A B : α → β → Prop} (h : ∃ x y, A x y ∧ B x y) (k : ∀ x y, A x y → B x y → Q) : Q := h.elim fun x h => h.elim fun y h => k x y h.1 h.2
theorem xEAA {A B C : α → Prop} (h : ∃ x, A x ∧ B x ∧ C x) (k : ∀ x, A x → B x → C x → Q) : Q := h.elim fun x h => k x h.1 h.2.1 h.2.2
theorem xAAA {A B C D : Prop} (h : A ∧ B ∧ C ∧ D) (k : A → B → C → D → Q) : Q := k h.1 h.2.1 h.2.2.1 h.2.2.2
theorem xEEEA {A B : α → β → γ → Prop} (h : ∃ x y z, A x y z ∧ B x y z) (k : ∀ x y z, A x y z → B x y z → Q) : Q := h.elim fun x h => h.elim fun y h => h.elim fun z h => k x y z h.1 h.2
theorem xEEAA {A B C : α → β → Prop} (h : ∃ x y, A x y ∧ B x y ∧ C x y) (k : ∀ x y, A x y → B x y → C x y → Q) : Q := h.elim fun x h => h.elim fun y h => k x y h.1 h.2.1 h.2.2
theorem xEAAA {A B C D : α → Prop} (h : ∃ x, A x ∧ B x ∧ C x ∧ D x) (k : ∀ x, A x → B x → C x → D x → Q) : Q := h.elim fun x h => k x h.1 h.2.1 h.2.2.1 h.2.2.2
theorem xEEEAA {A B C : α → β → γ → Prop} (h : ∃ x y z, A x y z ∧ B x y z ∧ C x y z) (k : ∀ x y z, A x y z → B x y z → C x y z → Q) : Q := h.elim fun x h => h.elim fun y h => h.elim fun z h => k x y z h.1 h.2.1 h.2.2
theorem xEEAAA {A B C D : α → β → Prop} (h : ∃ x y, A x y ∧ B x y ∧ C x y ∧ D x y) (k : ∀ x y, A x y → B x y → C x y → D x y → Q) : Q := h.elim fun x h => h.elim fun y h => k x y h.1 h.2.1 h.2.2.1 h.2.2.2
theorem xEEEAAA {A B C D : α → β → γ → Prop} (h : ∃ x y z, A x y z ∧ B x y z ∧ C x y z ∧ D x y z) (k : ∀ x y z, A x y z → B x y z → C x y z → D x y z → Q) : Q := h.elim fun x h => h.elim fun y h => h.elim fun z h => k x y z h.1 h.2.1 h.2.2.1 h.2.2.2
theorem hifs0 : ([] : List Expr) = [] ∨ ∃ c : Expr, [] = [c] := .inl rfl
theorem hifs1 {c : Expr} : [c] = [] ∨ ∃ d, [c] = [d] := .inr ⟨_, rfl⟩
end
open Lean in
def dslV : List Syntax → List Syntax → Option (List Syntax × Syntax × List Syntax)
  | a, p :: r => if p[0].getKind == `Lean.Parser.Tactic.rcasesPat.tuple then some (a.reverse, p[0], r) else dslV (p :: a) r
  | _, [] => none
open Lean in
def dslN (ps : List Syntax) : MacroM Syntax :=
  match dslV [] ps with
  | some (a, t, r) => return dslR (extractMacroScopes `g) [mkNullNode a.toArray, t, mkNullNode r.toArray] ("(T.paren '( " ++ dslQ ((if a.isEmpty then "" else "(T.rintro 'rintro #0 (null ) ) '~ ") ++ "(T.intro 'intro (null ζ ) ) '~ " ++ (let o := "(T.obtain 'obtain (null (T.rcasesPatMed (null #1 ) ) ) (null ) (null ':= (null ζ ) ) )"; if r.isEmpty then o else "(T.«tactic_<;>_» " ++ o ++ " '<;> (T.rintro 'rintro #2 (null ) ) )")) ++ " ') )")
  | none => Macro.throwUnsupported
local macro_rules
  | `(tactic| rintro $ps*) => dslN (ps.toList.map (·.raw))
  | `(tactic| obtain $p:rcasesPatMed := $e:term) => dslB p e
  | `(tactic| rcases $e:term with $p:rcasesPatMed) => dslB p e
theorem mar {α:Type}{a:α} (l:List α) {k:List α} (h:a∈k):a∈l++k:=List.mem_append_right l h
theorem mal {α:Type}{a:α}{l:List α} (k:List α) (h:a∈l):a∈l++k:=List.mem_append_left k h
theorem maj {α:Type}{a:α}{l k:List α} (h:a∈l++k):a∈l∨a∈k:=List.mem_append.mp h
theorem mcj {α:Type}{a b:α}{l:List α} (h:a∈b::l):a=b∨a∈l:=List.mem_cons.mp h
theorem mmj {α β:Type}{f:α→β}{b:β}{l:List α} (h:b∈l.map f):∃ a,a∈l∧f a=b:=List.mem_map.mp h
theorem msj {α:Type}{a b:α} (h:a∈[b]):a=b:=List.mem_singleton.mp h
theorem bft:¬ (false=true):=Bool.false_ne_true
theorem lma {α β:Type}{f:α→β}{l k:List α}:(l++k).map f=l.map f++k.map f:=List.map_append
theorem laa {α:Type} (l k m:List α):l++k++m=l++(k++m):=List.append_assoc l k m
theorem lna {α:Type} (l:List α):[]++l=l:=rfl
theorem lmc {α β:Type}{f:α→β}{a:α}{l:List α}:(a::l).map f=f a::l.map f:=List.map_cons
theorem lea {α:Type}{l k:List α}:(l++k).length=l.length+k.length:=List.length_append
theorem lem {α β:Type}{l:List α} (f:α→β):(l.map f).length=l.length:=List.length_map f
theorem lca {α:Type}{a:α}{l k:List α}:(a::l)++k=a::(l++k):=rfl
section
open PySem.W.X
set_option maxHeartbeats 0
noncomputable abbrev prog:Program:=PySem.Challenge.rw_ix0030_01.row.toRowW.1
noncomputable def nth:List Stmt→Nat→Stmt
 | [],_=>.Pass ⟨0,0,0,0⟩
 | s::_,0=>s
 | _::l,i+1=>nth l i
noncomputable def sB (s:Stmt):List Stmt:=if h:s.ctorIdx=0 then Stmt.FunctionDef.elim (motive_2:=fun V=>List Stmt) s h (fun V V b V V V V V V V=>b) else if h:s.ctorIdx=2 then Stmt.ClassDef.elim (motive_2:=fun V=>List Stmt) s h (fun V V V b V V V V V V V=>b) else []
noncomputable def fP (s:Stmt):Arguments:=if h:s.ctorIdx=0 then Stmt.FunctionDef.elim (motive_2:=fun V=>Arguments) s h (fun V a V V V V V V V V=>a) else ⟨[],[],none,[],[],none,[]⟩
noncomputable def fS (s:Stmt):Scope:=if h:s.ctorIdx=0 then Stmt.FunctionDef.elim (motive_2:=fun V=>Scope) s h (fun V V V V V V s V V V=>s) else if h:s.ctorIdx=2 then Stmt.ClassDef.elim (motive_2:=fun V=>Scope) s h (fun V V V V V V s V V V V=>s) else prog.main.scope
noncomputable abbrev fB (s:Stmt):List Stmt:=sB s
noncomputable abbrev tp (i:Nat):Stmt:=nth (behindTheImports prog) i
noncomputable abbrev kd (i j:Nat):Stmt:=nth (sB (tp i)) j
noncomputable abbrev dE (P:Params) (s:String) (i:Nat) (v:Value):DictEntry:=⟨PyData.keyHash P (Str.ofString s),.str (Str.ofString s) i,v⟩
noncomputable def upd (t:BT) (l:List (Nat×Obj)):BT:=l.foldl (fun t x=>t.ins x.1 x.2) t
noncomputable abbrev vS (x:String) (k:Tok):Value:=.str (Str.ofString x) k
noncomputable abbrev vI (i:Int) (k:Tok):Value:=.int i k
noncomputable abbrev vR (a:Addr):Value:=.ref a
noncomputable abbrev vT (x:String):Value:=.type x
noncomputable abbrev vB (x:String):Value:=.builtin x
noncomputable abbrev vN:Value:=.none
noncomputable abbrev oQ (x:String) (l:Array Value):Obj:=.mk (.type x) none (.seq l 0) #[]
noncomputable abbrev oF (x:Value) (l:Array Value):Obj:=.mk x none (.fields l) #[]
noncomputable abbrev oD (l:Array DictEntry) (n:Nat):Obj:=.mk (.type "dict") none (.dict l n) #[]
noncomputable section
variable (P:Params)
abbrev e0:DictEntry:=dE P "__loader__" 168 (vB "__main__.__loader__#opaque")
abbrev e1:DictEntry:=dE P "__file__" 173 (vS "/claim/cut.py" 172)
abbrev e2:DictEntry:=dE P "InvalidFrameError" 208 (vR 24)
abbrev e3:DictEntry:=dE P "__annotations__" 170 (vR 6)
abbrev e4:DictEntry:=dE P "InvalidDataError" 228 (vR 37)
abbrev e5:DictEntry:=dE P "__builtins__" 171 (vR 4)
abbrev e6:DictEntry:=dE P "__package__" 167 vN
abbrev e7:DictEntry:=dE P "__cached__" 174 vN
abbrev e8:DictEntry:=dE P "__name__" 165 (vS "h2.frames" 187)
abbrev e9:DictEntry:=dE P "__spec__" 169 vN
abbrev e10:DictEntry:=dE P "__doc__" 166 vN
abbrev e11:DictEntry:=dE P "DataFrame" 343 (vR 114)
abbrev e12:DictEntry:=dE P "HeadersFrame" 379 (vR 138)
abbrev e13:DictEntry:=dE P "RstStreamFrame" 408 (vR 157)
abbrev e14:DictEntry:=dE P "Frame" 303 (vR 82)
abbrev e15:DictEntry:=dE P "PushPromiseFrame" 443 (vR 179)
abbrev e16:DictEntry:=dE P "WindowUpdateFrame" 472 (vR 198)
abbrev e17:DictEntry:=dE P "ContinuationFrame" 493 (vR 212)
abbrev e18:DictEntry:=dE P "ErrorCodes" 543 (vR 224)
abbrev e19:DictEntry:=dE P "__name__" 165 (vS "h2.exceptions" 544)
abbrev e20:DictEntry:=dE P "H2Error" 565 (vR 238)
abbrev e21:DictEntry:=dE P "ProtocolError" 583 (vR 251)
abbrev e22:DictEntry:=dE P "FrameTooLargeError" 601 (vR 263)
abbrev e23:DictEntry:=dE P "type.__subclasses__.Exception.0" 205 (vI 24 0)
abbrev e24:DictEntry:=dE P "CONTINUATION_BACKLOG" 623 (vI 64 622)
abbrev e25:DictEntry:=dE P "FrameDataMissingError" 619 (vR 275)
abbrev e26:DictEntry:=dE P "__module__" 631 (vS "h2.frame_buffer" 620)
abbrev e27:DictEntry:=dE P "__module__" 553 (vS "h2.exceptions" 544)
abbrev e28:DictEntry:=dE P "__module__" 573 (vS "h2.exceptions" 544)
abbrev e29:DictEntry:=dE P "__module__" 591 (vS "h2.exceptions" 544)
abbrev e30:DictEntry:=dE P "__name__" 165 (vS "h2.frame_buffer" 620)
abbrev e31:DictEntry:=dE P "__module__" 609 (vS "h2.exceptions" 544)
abbrev e32:DictEntry:=dE P "__module__" 196 (vS "h2.frames" 187)
abbrev e33:DictEntry:=dE P "__module__" 216 (vS "h2.frames" 187)
abbrev e34:DictEntry:=dE P "__module__" 236 (vS "h2.frames" 187)
abbrev e35:DictEntry:=dE P "__module__" 311 (vS "h2.frames" 187)
abbrev e36:DictEntry:=dE P "__module__" 351 (vS "h2.frames" 187)
abbrev e37:DictEntry:=dE P "__module__" 387 (vS "h2.frames" 187)
abbrev e38:DictEntry:=dE P "__module__" 416 (vS "h2.frames" 187)
abbrev e39:DictEntry:=dE P "__module__" 451 (vS "h2.frames" 187)
abbrev e40:DictEntry:=dE P "__module__" 480 (vS "h2.frames" 187)
abbrev e41:DictEntry:=dE P "__module__" 503 (vS "h2.errors" 494)
abbrev e42:DictEntry:=dE P "type.__subclasses__.Exception.1" 225 (vI 37 0)
abbrev e43:DictEntry:=dE P "flow_controlled_length" 338 (vR 111)
abbrev e44:DictEntry:=dE P "INADEQUATE_SECURITY" 533 (vI 12 532)
abbrev e45:DictEntry:=dE P "_validate_frame_length" 664 (vR 306)
abbrev o43:Obj:=oQ "tuple" #[]
abbrev o44:Obj:=oF vN #[]
abbrev o45:Obj:=oF (vT "code") #[(vS "<module>" 182),(vS "<module>" 183),(vS "/claim/cut.py" 184),(vI 1 0),(vI 0 0),(vI 0 0),(vI 0 0),(vI 0 0),(vR 11),(Value.bool Bool.false),(vI 181 0),(vR 12),vN,vN,vN,vN,(vI 185 0),(vI 1 0),(vS "/claim/cut.py" 186)]
abbrev o46:Obj:=(Obj.mk (vT "frame") none Data.plain #[(some (vR 13)),(some (vR 3)),(some (vR 3)),none,(some (vS "__main__" 164)),none,(some (vR 0))])
abbrev T47:BT:=upd BT.nil [(0,PySem.W.boot_o_0 P),(1,PySem.W.boot_o_1 P),(2,PySem.W.boot_o_2 P),(3,PySem.W.boot_o_3 P),(4,PySem.W.boot_o_4 P),(5,PySem.W.boot_o_5 P),(6,PySem.W.boot_o_6 P),(7,PySem.W.boot_o_7 P),(8,PySem.W.boot_o_8 P),(9,PySem.W.boot_o_9 P),(10,PySem.W.boot_o_10 P),(11,o43),(12,o44),(13,o45),(14,o46)]
abbrev o49:Obj:=(Obj.mk vN none (Data.dict #[(e23 P),(dE P "type.__subclasses__.Exception.n" 206 (vI 1 0))] 2) #[])
abbrev o50:Obj:=oD #[(e8 P),(e10 P),(e6 P),(e0 P),(e9 P),(e3 P),(e5 P),(e1 P),(e7 P),(e2 P)] 10
abbrev o51:Obj:=oF vN #[(vI 2 0),(vI 0 0),(vR 20)]
abbrev o52:Obj:=oQ "tuple" #[(vT "Exception")]
abbrev o53:Obj:=oF (vT "builtin_function_or_method") #[(vB "type.__prepare__"),(vT "type")]
abbrev o54:Obj:=oD #[(e32 P),(dE P "__qualname__" 198 (vS "InvalidFrameError" 197)),(dE P "__firstlineno__" 200 (vI 2 199)),(dE P "__static_attributes__" 201 (vR 22))] 4
abbrev o57:Obj:=oF (vT "code") #[(vS "InvalidFrameError" 191),(vS "InvalidFrameError" 192),(vS "/claim/cut.py" 193),(vI 2 0),(vI 0 0),(vI 0 0),(vI 0 0),(vI 0 0),(vR 18),(Value.bool Bool.false),(vI 181 0),(vR 19),vN,vN,vN,vN,(vI 194 0),(vI 2 0),(vS "/claim/cut.py" 195)]
abbrev o58:Obj:=(Obj.mk (vT "frame") none Data.plain #[(some (vR 20)),(some (vR 3)),(some (vR 17)),none,(some (vS "h2.frames" 187)),none,(some (vR 0))])
abbrev o60:Obj:=oD #[(e32 P),(dE P "__firstlineno__" 200 (vI 2 199)),(dE P "__static_attributes__" 201 (vR 22)),(dE P "__weakref__" 203 (vR 25)),(dE P "__doc__" 204 vN)] 3
abbrev o61:Obj:=(Obj.mk (vT "type") none (Data.cls (ClassData.mk (Str.ofString "InvalidFrameError") [(vT "Exception")] [(vR 24),(vT "Exception"),(vT "BaseException"),(vT "object")] 23 (Str.ofString "InvalidFrameError") Bool.true [] [] Bool.false none Bool.false)) #[(some (vR 15)),none,(some (vS "InvalidFrameError" 189)),(some (vS "InvalidFrameError" 197)),(some (vB "Exception.__new__")),(some (Value.bool Bool.true))])
abbrev o62:Obj:=oF (vT "getset_descriptor") #[(vS "__weakref__" 202),(vR 24),(vB "ExceptionGroup.__weakref__"),vN]
abbrev o63:Obj:=oF (vT "super") #[(vR 24),(vR 24),(vR 24)]
abbrev o64:Obj:=oF (vT "builtin_function_or_method") #[(vB "object.__init_subclass__"),(vR 24)]
abbrev T64:BT:=upd (T47 P) [(2,o49 P),(3,o50 P),(12,o51),(15,o52),(16,o53),(17,o54 P),(18,o43),(19,o44),(20,o57),(21,o58),(22,o43),(23,o60 P),(24,o61),(25,o62),(26,o63),(27,o64)]
abbrev o65:Obj:=(Obj.mk vN none (Data.dict #[(e23 P),(dE P "type.__subclasses__.Exception.n" 206 (vI 2 0)),(e42 P)] 3) #[])
abbrev o66:Obj:=oD #[(e8 P),(e10 P),(e6 P),(e0 P),(e9 P),(e3 P),(e5 P),(e1 P),(e7 P),(e2 P),(e4 P)] 11
abbrev o67:Obj:=oF vN #[(vI 2 0),(vI 0 0),(vR 20),(vI 4 0),(vI 0 0),(vR 33)]
abbrev o70:Obj:=oD #[(e33 P),(dE P "__qualname__" 218 (vS "InvalidDataError" 217)),(dE P "__firstlineno__" 220 (vI 4 219)),(dE P "__static_attributes__" 221 (vR 35))] 4
abbrev o73:Obj:=oF (vT "code") #[(vS "InvalidDataError" 211),(vS "InvalidDataError" 212),(vS "/claim/cut.py" 213),(vI 4 0),(vI 0 0),(vI 0 0),(vI 0 0),(vI 0 0),(vR 31),(Value.bool Bool.false),(vI 181 0),(vR 32),vN,vN,vN,vN,(vI 214 0),(vI 4 0),(vS "/claim/cut.py" 215)]
abbrev o74:Obj:=(Obj.mk (vT "frame") none Data.plain #[(some (vR 33)),(some (vR 3)),(some (vR 30)),none,(some (vS "h2.frames" 187)),none,(some (vR 0))])
abbrev o76:Obj:=oD #[(e33 P),(dE P "__firstlineno__" 220 (vI 4 219)),(dE P "__static_attributes__" 221 (vR 35)),(dE P "__weakref__" 223 (vR 38)),(dE P "__doc__" 224 vN)] 3
abbrev o77:Obj:=(Obj.mk (vT "type") none (Data.cls (ClassData.mk (Str.ofString "InvalidDataError") [(vT "Exception")] [(vR 37),(vT "Exception"),(vT "BaseException"),(vT "object")] 36 (Str.ofString "InvalidDataError") Bool.true [] [] Bool.false none Bool.false)) #[(some (vR 28)),none,(some (vS "InvalidDataError" 209)),(some (vS "InvalidDataError" 217)),(some (vB "Exception.__new__")),(some (Value.bool Bool.true))])
abbrev o78:Obj:=oF (vT "getset_descriptor") #[(vS "__weakref__" 222),(vR 37),(vB "ExceptionGroup.__weakref__"),vN]
abbrev o79:Obj:=oF (vT "super") #[(vR 37),(vR 37),(vR 37)]
abbrev o80:Obj:=oF (vT "builtin_function_or_method") #[(vB "object.__init_subclass__"),(vR 37)]
abbrev T80:BT:=upd (T64 P) [(2,o65 P),(3,o66 P),(12,o67),(28,o52),(29,o53),(30,o70 P),(31,o43),(32,o44),(33,o73),(34,o74),(35,o43),(36,o76 P),(37,o77),(38,o78),(39,o79),(40,o80)]
abbrev o81:Obj:=oD #[(e8 P),(e10 P),(e6 P),(e0 P),(e9 P),(e3 P),(e5 P),(e1 P),(e7 P),(e2 P),(e4 P),(e14 P)] 12
abbrev o82:Obj:=oF vN #[(vI 2 0),(vI 0 0),(vR 20),(vI 4 0),(vI 0 0),(vR 33),(vI 6 0),(vI 0 0),(vR 46)]
abbrev o85:Obj:=oD #[(e34 P),(dE P "__qualname__" 238 (vS "Frame" 237)),(dE P "__firstlineno__" 240 (vI 6 239)),(dE P "kind" 242 (vI 255 241)),(dE P "known_flags" 243 (vR 48)),(dE P "__init__" 251 (vR 55)),(dE P "parse_frame_header" 275 (vR 64)),(dE P "parse_body" 283 (vR 72)),(dE P "unpadded" 291 (vR 79)),(dE P "__static_attributes__" 296 (vR 80))] 10
abbrev o87:Obj:=oF vN #[(vI 10 0),(vI 4 0),(vR 54),(vI 17 0),(vI 4 0),(vR 61),(vI 44 0),(vI 4 0),(vR 71),(vI 47 0),(vI 4 0),(vR 78)]
abbrev o88:Obj:=oF (vT "code") #[(vS "Frame" 231),(vS "Frame" 232),(vS "/claim/cut.py" 233),(vI 6 0),(vI 0 0),(vI 0 0),(vI 0 0),(vI 0 0),(vR 44),(Value.bool Bool.false),(vI 181 0),(vR 45),vN,vN,vN,vN,(vI 234 0),(vI 6 0),(vS "/claim/cut.py" 235)]
abbrev o89:Obj:=(Obj.mk (vT "frame") none Data.plain #[(some (vR 46)),(some (vR 3)),(some (vR 43)),none,(some (vS "h2.frames" 187)),none,(some (vR 0))])
abbrev o90:Obj:=oQ "list" #[]
abbrev o93:Obj:=oQ "tuple" #[(vS "self" 247),(vS "stream_id" 248)]
abbrev o95:Obj:=(Obj.mk vN none (Data.func (FuncData.mk (Str.ofString "__init__") (Str.ofString "Frame.__init__") (fP (kd 3 2)) (.stmts (fB (kd 3 2))) (fS (kd 3 2)) 0 [] vN vN vN vN none vN vN 0)) #[])
abbrev o96:Obj:=oF (vT "code") #[(vS "__init__" 244),(vS "Frame.__init__" 245),(vS "/claim/cut.py" 246),(vI 10 0),(vI 2 0),(vI 0 0),(vI 0 0),(vI 3 0),(vR 49),(Value.bool Bool.true),(vI 181 0),(vR 50),vN,(vR 51),(vR 52),(vR 53),(vI 249 0),(vI 10 0),(vS "/claim/cut.py" 250)]
abbrev o97:Obj:=(Obj.mk (vT "function") none (Data.func (FuncData.mk (Str.ofString "__init__") (Str.ofString "Frame.__init__") (fP (kd 3 2)) (.stmts (fB (kd 3 2))) (fS (kd 3 2)) 3 [] vN vN vN (vS "h2.frames" 187) none (vR 54) vN 0)) #[])
abbrev o100:Obj:=oQ "tuple" #[(vS "header" 255),(vS "kind" 256),(vS "stream_id" 257),(vS "frame" 258),(vS "bit" 259),(vS "name" 260)]
abbrev o102:Obj:=(Obj.mk vN none (Data.func (FuncData.mk (Str.ofString "parse_frame_header") (Str.ofString "Frame.parse_frame_header") (fP (kd 3 3)) (.stmts (fB (kd 3 3))) (fS (kd 3 3)) 0 [] vN vN vN vN none vN vN 0)) #[])
abbrev o103:Obj:=oF (vT "code") #[(vS "parse_frame_header" 252),(vS "Frame.parse_frame_header" 253),(vS "/claim/cut.py" 254),(vI 16 0),(vI 1 0),(vI 0 0),(vI 0 0),(vI 3 0),(vR 56),(Value.bool Bool.true),(vI 181 0),(vR 57),vN,(vR 58),(vR 59),(vR 60),(vI 261 0),(vI 16 0),(vS "/claim/cut.py" 262)]
abbrev o104:Obj:=(Obj.mk (vT "function") none (Data.func (FuncData.mk (Str.ofString "parse_frame_header") (Str.ofString "Frame.parse_frame_header") (fP (kd 3 3)) (.stmts (fB (kd 3 3))) (fS (kd 3 3)) 3 [] vN vN vN (vS "h2.frames" 187) (some 65) (vR 61) vN 0)) #[])
abbrev o105:Obj:=oD #[(dE P "__module__" 264 (vS "h2.frames" 187)),(dE P "__name__" 267 (vS "parse_frame_header" 266)),(dE P "__qualname__" 270 (vS "Frame.parse_frame_header" 269)),(dE P "__doc__" 272 vN),(dE P "__annotations__" 274 (vR 65))] 5
abbrev o106:Obj:=(Obj.mk (vT "staticmethod") (some 63) (Data.fields #[(vR 62),(Value.bool Bool.false)]) #[])
abbrev o107:Obj:=oD #[] 0
abbrev o110:Obj:=oQ "tuple" #[(vS "self" 279),(vS "data" 280)]
abbrev o112:Obj:=(Obj.mk vN none (Data.func (FuncData.mk (Str.ofString "parse_body") (Str.ofString "Frame.parse_body") (fP (kd 3 4)) (.stmts (fB (kd 3 4))) (fS (kd 3 4)) 0 [] vN vN vN vN none vN vN 0)) #[])
abbrev o113:Obj:=oF (vT "code") #[(vS "parse_body" 276),(vS "Frame.parse_body" 277),(vS "/claim/cut.py" 278),(vI 44 0),(vI 2 0),(vI 0 0),(vI 0 0),(vI 3 0),(vR 66),(Value.bool Bool.true),(vI 181 0),(vR 67),vN,(vR 68),(vR 69),(vR 70),(vI 281 0),(vI 44 0),(vS "/claim/cut.py" 282)]
abbrev o114:Obj:=(Obj.mk (vT "function") none (Data.func (FuncData.mk (Str.ofString "parse_body") (Str.ofString "Frame.parse_body") (fP (kd 3 4)) (.stmts (fB (kd 3 4))) (fS (kd 3 4)) 3 [] vN vN vN (vS "h2.frames" 187) none (vR 71) vN 0)) #[])
abbrev o117:Obj:=oQ "tuple" #[(vS "self" 287),(vS "data" 288)]
abbrev o119:Obj:=(Obj.mk vN none (Data.func (FuncData.mk (Str.ofString "unpadded") (Str.ofString "Frame.unpadded") (fP (kd 3 5)) (.stmts (fB (kd 3 5))) (fS (kd 3 5)) 0 [] vN vN vN vN none vN vN 0)) #[])
abbrev o120:Obj:=oF (vT "code") #[(vS "unpadded" 284),(vS "Frame.unpadded" 285),(vS "/claim/cut.py" 286),(vI 47 0),(vI 2 0),(vI 0 0),(vI 0 0),(vI 3 0),(vR 73),(Value.bool Bool.true),(vI 181 0),(vR 74),vN,(vR 75),(vR 76),(vR 77),(vI 289 0),(vI 47 0),(vS "/claim/cut.py" 290)]
abbrev o121:Obj:=(Obj.mk (vT "function") none (Data.func (FuncData.mk (Str.ofString "unpadded") (Str.ofString "Frame.unpadded") (fP (kd 3 5)) (.stmts (fB (kd 3 5))) (fS (kd 3 5)) 3 [] vN vN vN (vS "h2.frames" 187) none (vR 78) vN 0)) #[])
abbrev o122:Obj:=oQ "tuple" #[(vS "data" 292),(vS "flags" 293),(vS "pad_length" 294),(vS "stream_id" 295)]
abbrev o123:Obj:=oD #[(e34 P),(dE P "__firstlineno__" 240 (vI 6 239)),(dE P "kind" 242 (vI 255 241)),(dE P "known_flags" 243 (vR 48)),(dE P "__init__" 251 (vR 55)),(dE P "parse_frame_header" 275 (vR 64)),(dE P "parse_body" 283 (vR 72)),(dE P "unpadded" 291 (vR 79)),(dE P "__static_attributes__" 296 (vR 80)),(dE P "__dict__" 298 (vR 83)),(dE P "__weakref__" 300 (vR 84)),(dE P "__doc__" 301 vN)] 4
abbrev o124:Obj:=(Obj.mk (vT "type") none (Data.cls (ClassData.mk (Str.ofString "Frame") [(vT "object")] [(vR 82),(vT "object")] 81 (Str.ofString "Frame") Bool.true [] [] Bool.false none Bool.false)) #[none,none,(some (vS "Frame" 229)),(some (vS "Frame" 237)),(some (vB "object.__new__")),(some (Value.bool Bool.true))])
abbrev o125:Obj:=oF (vT "getset_descriptor") #[(vS "__dict__" 297),(vR 82),(vB "function.__dict__"),(vB "function.__dict__#set")]
abbrev o126:Obj:=oF (vT "getset_descriptor") #[(vS "__weakref__" 299),(vR 82),(vB "ExceptionGroup.__weakref__"),vN]
abbrev o127:Obj:=oF (vT "super") #[(vR 82),(vR 82),(vR 82)]
abbrev o128:Obj:=oF (vT "builtin_function_or_method") #[(vB "object.__init_subclass__"),(vR 82)]
abbrev T128:BT:=upd (T80 P) [(3,o81 P),(12,o82),(41,o43),(42,o53),(43,o85 P),(44,o43),(45,o87),(46,o88),(47,o89),(48,o90),(49,o43),(50,o44),(51,o93),(52,o43),(53,o95),(54,o96),(55,o97),(56,o43),(57,o44),(58,o100),(59,o43),(60,o102),(61,o103),(62,o104),(63,o105 P),(64,o106),(65,o107),(66,o43),(67,o44),(68,o110),(69,o43),(70,o112),(71,o113),(72,o114),(73,o43),(74,o44),(75,o117),(76,o43),(77,o119),(78,o120),(79,o121),(80,o122),(81,o123 P),(82,o124),(83,o125),(84,o126),(85,o127),(86,o128)]
abbrev o129:Obj:=oD #[(e8 P),(e10 P),(e6 P),(e0 P),(e9 P),(e3 P),(e5 P),(e1 P),(e7 P),(e2 P),(e4 P),(e14 P),(e11 P)] 13
abbrev o130:Obj:=oF vN #[(vI 2 0),(vI 0 0),(vR 20),(vI 4 0),(vI 0 0),(vR 33),(vI 6 0),(vI 0 0),(vR 46),(vI 56 0),(vI 0 0),(vR 92)]
abbrev o131:Obj:=(Obj.mk (vT "type") none (Data.cls (ClassData.mk (Str.ofString "Frame") [(vT "object")] [(vR 82),(vT "object")] 81 (Str.ofString "Frame") Bool.true [] [(vR 114)] Bool.false none Bool.false)) #[none,none,(some (vS "Frame" 229)),(some (vS "Frame" 237)),(some (vB "object.__new__")),(some (Value.bool Bool.true))])
abbrev o132:Obj:=oQ "tuple" #[(vR 82)]
abbrev o134:Obj:=oD #[(e35 P),(dE P "__qualname__" 313 (vS "DataFrame" 312)),(dE P "__firstlineno__" 315 (vI 56 314)),(dE P "kind" 317 (vI 0 316)),(dE P "known_flags" 322 (vR 96)),(dE P "parse_body" 330 (vR 103)),(e43 P),(dE P "__static_attributes__" 340 (vR 112))] 8
abbrev o136:Obj:=oF vN #[(vI 60 0),(vI 4 0),(vR 102),(vI 64 0),(vI 4 0),(vR 109)]
abbrev o137:Obj:=oF (vT "code") #[(vS "DataFrame" 306),(vS "DataFrame" 307),(vS "/claim/cut.py" 308),(vI 56 0),(vI 0 0),(vI 0 0),(vI 0 0),(vI 0 0),(vR 90),(Value.bool Bool.false),(vI 181 0),(vR 91),vN,vN,vN,vN,(vI 309 0),(vI 56 0),(vS "/claim/cut.py" 310)]
abbrev o138:Obj:=(Obj.mk (vT "frame") none Data.plain #[(some (vR 92)),(some (vR 3)),(some (vR 89)),none,(some (vS "h2.frames" 187)),none,(some (vR 0))])
abbrev o139:Obj:=oQ "tuple" #[(vI 1 318),(vS "END_STREAM" 319)]
abbrev o140:Obj:=oQ "tuple" #[(vI 8 320),(vS "PADDED" 321)]
abbrev o141:Obj:=oQ "list" #[(vR 94),(vR 95)]
abbrev o144:Obj:=oQ "tuple" #[(vS "self" 326),(vS "data" 327)]
abbrev o146:Obj:=(Obj.mk vN none (Data.func (FuncData.mk (Str.ofString "parse_body") (Str.ofString "DataFrame.parse_body") (fP (kd 4 2)) (.stmts (fB (kd 4 2))) (fS (kd 4 2)) 0 [] vN vN vN vN none vN vN 0)) #[])
abbrev o147:Obj:=oF (vT "code") #[(vS "parse_body" 323),(vS "DataFrame.parse_body" 324),(vS "/claim/cut.py" 325),(vI 60 0),(vI 2 0),(vI 0 0),(vI 0 0),(vI 3 0),(vR 97),(Value.bool Bool.true),(vI 181 0),(vR 98),vN,(vR 99),(vR 100),(vR 101),(vI 328 0),(vI 60 0),(vS "/claim/cut.py" 329)]
abbrev o148:Obj:=(Obj.mk (vT "function") none (Data.func (FuncData.mk (Str.ofString "parse_body") (Str.ofString "DataFrame.parse_body") (fP (kd 4 2)) (.stmts (fB (kd 4 2))) (fS (kd 4 2)) 3 [] vN vN vN (vS "h2.frames" 187) none (vR 102) vN 0)) #[])
abbrev o151:Obj:=oQ "tuple" #[(vS "self" 334)]
abbrev o153:Obj:=(Obj.mk vN none (Data.func (FuncData.mk (Str.ofString "flow_controlled_length") (Str.ofString "DataFrame.flow_controlled_length") (fP (kd 4 3)) (.stmts (fB (kd 4 3))) (fS (kd 4 3)) 0 [] vN vN vN vN none vN vN 0)) #[])
abbrev o154:Obj:=oF (vT "code") #[(vS "flow_controlled_length" 331),(vS "DataFrame.flow_controlled_length" 332),(vS "/claim/cut.py" 333),(vI 63 0),(vI 1 0),(vI 0 0),(vI 0 0),(vI 3 0),(vR 104),(Value.bool Bool.true),(vI 181 0),(vR 105),vN,(vR 106),(vR 107),(vR 108),(vI 335 0),(vI 63 0),(vS "/claim/cut.py" 336)]
abbrev o155:Obj:=(Obj.mk (vT "function") none (Data.func (FuncData.mk (Str.ofString "flow_controlled_length") (Str.ofString "DataFrame.flow_controlled_length") (fP (kd 4 3)) (.stmts (fB (kd 4 3))) (fS (kd 4 3)) 3 [] vN vN vN (vS "h2.frames" 187) none (vR 109) vN 0)) #[])
abbrev o156:Obj:=oF (vT "property") #[(vR 110),vN,vN,vN,(vS "flow_controlled_length" 338),(Value.bool Bool.false)]
abbrev o157:Obj:=oQ "tuple" #[(vS "data" 339)]
abbrev o158:Obj:=oD #[(e35 P),(dE P "__firstlineno__" 315 (vI 56 314)),(dE P "kind" 317 (vI 0 316)),(dE P "known_flags" 322 (vR 96)),(dE P "parse_body" 330 (vR 103)),(e43 P),(dE P "__static_attributes__" 340 (vR 112)),(dE P "__doc__" 341 vN)] 2
abbrev o159:Obj:=(Obj.mk (vT "type") none (Data.cls (ClassData.mk (Str.ofString "DataFrame") [(vR 82)] [(vR 114),(vR 82),(vT "object")] 113 (Str.ofString "DataFrame") Bool.true [] [] Bool.false none Bool.false)) #[(some (vR 87)),none,(some (vS "DataFrame" 304)),(some (vS "DataFrame" 312)),(some (vB "object.__new__")),(some (Value.bool Bool.true))])
abbrev o160:Obj:=oF (vT "super") #[(vR 114),(vR 114),(vR 114)]
abbrev o161:Obj:=oF (vT "builtin_function_or_method") #[(vB "object.__init_subclass__"),(vR 114)]
abbrev T161:BT:=upd (T128 P) [(3,o129 P),(12,o130),(82,o131),(87,o132),(88,o53),(89,o134 P),(90,o43),(91,o136),(92,o137),(93,o138),(94,o139),(95,o140),(96,o141),(97,o43),(98,o44),(99,o144),(100,o43),(101,o146),(102,o147),(103,o148),(104,o43),(105,o44),(106,o151),(107,o43),(108,o153),(109,o154),(110,o155),(111,o156),(112,o157),(113,o158 P),(114,o159),(115,o160),(116,o161)]
abbrev o162:Obj:=oD #[(e8 P),(e10 P),(e6 P),(e0 P),(e9 P),(e3 P),(e5 P),(e1 P),(e7 P),(e2 P),(e4 P),(e14 P),(e11 P),(e12 P)] 14
abbrev o163:Obj:=oF vN #[(vI 2 0),(vI 0 0),(vR 20),(vI 4 0),(vI 0 0),(vR 33),(vI 6 0),(vI 0 0),(vR 46),(vI 56 0),(vI 0 0),(vR 92),(vI 68 0),(vI 0 0),(vR 122)]
abbrev o164:Obj:=(Obj.mk (vT "type") none (Data.cls (ClassData.mk (Str.ofString "Frame") [(vT "object")] [(vR 82),(vT "object")] 81 (Str.ofString "Frame") Bool.true [] [(vR 114),(vR 138)] Bool.false none Bool.false)) #[none,none,(some (vS "Frame" 229)),(some (vS "Frame" 237)),(some (vB "object.__new__")),(some (Value.bool Bool.true))])
abbrev o167:Obj:=oD #[(e36 P),(dE P "__qualname__" 353 (vS "HeadersFrame" 352)),(dE P "__firstlineno__" 355 (vI 68 354)),(dE P "kind" 357 (vI 1 356)),(dE P "known_flags" 366 (vR 128)),(dE P "parse_body" 374 (vR 135)),(dE P "__static_attributes__" 376 (vR 136))] 7
abbrev o169:Obj:=oF vN #[(vI 72 0),(vI 4 0),(vR 134)]
abbrev o170:Obj:=oF (vT "code") #[(vS "HeadersFrame" 346),(vS "HeadersFrame" 347),(vS "/claim/cut.py" 348),(vI 68 0),(vI 0 0),(vI 0 0),(vI 0 0),(vI 0 0),(vR 120),(Value.bool Bool.false),(vI 181 0),(vR 121),vN,vN,vN,vN,(vI 349 0),(vI 68 0),(vS "/claim/cut.py" 350)]
abbrev o171:Obj:=(Obj.mk (vT "frame") none Data.plain #[(some (vR 122)),(some (vR 3)),(some (vR 119)),none,(some (vS "h2.frames" 187)),none,(some (vR 0))])
abbrev o172:Obj:=oQ "tuple" #[(vI 1 358),(vS "END_STREAM" 359)]
abbrev o173:Obj:=oQ "tuple" #[(vI 4 360),(vS "END_HEADERS" 361)]
abbrev o174:Obj:=oQ "tuple" #[(vI 8 362),(vS "PADDED" 363)]
abbrev o175:Obj:=oQ "tuple" #[(vI 32 364),(vS "PRIORITY" 365)]
abbrev o176:Obj:=oQ "list" #[(vR 124),(vR 125),(vR 126),(vR 127)]
abbrev o179:Obj:=oQ "tuple" #[(vS "self" 370),(vS "data" 371)]
abbrev o181:Obj:=(Obj.mk vN none (Data.func (FuncData.mk (Str.ofString "parse_body") (Str.ofString "HeadersFrame.parse_body") (fP (kd 5 2)) (.stmts (fB (kd 5 2))) (fS (kd 5 2)) 0 [] vN vN vN vN none vN vN 0)) #[])
abbrev o182:Obj:=oF (vT "code") #[(vS "parse_body" 367),(vS "HeadersFrame.parse_body" 368),(vS "/claim/cut.py" 369),(vI 72 0),(vI 2 0),(vI 0 0),(vI 0 0),(vI 3 0),(vR 129),(Value.bool Bool.true),(vI 181 0),(vR 130),vN,(vR 131),(vR 132),(vR 133),(vI 372 0),(vI 72 0),(vS "/claim/cut.py" 373)]
abbrev o183:Obj:=(Obj.mk (vT "function") none (Data.func (FuncData.mk (Str.ofString "parse_body") (Str.ofString "HeadersFrame.parse_body") (fP (kd 5 2)) (.stmts (fB (kd 5 2))) (fS (kd 5 2)) 3 [] vN vN vN (vS "h2.frames" 187) none (vR 134) vN 0)) #[])
abbrev o184:Obj:=oQ "tuple" #[(vS "data" 375)]
abbrev o185:Obj:=oD #[(e36 P),(dE P "__firstlineno__" 355 (vI 68 354)),(dE P "kind" 357 (vI 1 356)),(dE P "known_flags" 366 (vR 128)),(dE P "parse_body" 374 (vR 135)),(dE P "__static_attributes__" 376 (vR 136)),(dE P "__doc__" 377 vN)] 2
abbrev o186:Obj:=(Obj.mk (vT "type") none (Data.cls (ClassData.mk (Str.ofString "HeadersFrame") [(vR 82)] [(vR 138),(vR 82),(vT "object")] 137 (Str.ofString "HeadersFrame") Bool.true [] [] Bool.false none Bool.false)) #[(some (vR 117)),none,(some (vS "HeadersFrame" 344)),(some (vS "HeadersFrame" 352)),(some (vB "object.__new__")),(some (Value.bool Bool.true))])
abbrev o187:Obj:=oF (vT "super") #[(vR 138),(vR 138),(vR 138)]
abbrev o188:Obj:=oF (vT "builtin_function_or_method") #[(vB "object.__init_subclass__"),(vR 138)]
abbrev T188:BT:=upd (T161 P) [(3,o162 P),(12,o163),(82,o164),(117,o132),(118,o53),(119,o167 P),(120,o43),(121,o169),(122,o170),(123,o171),(124,o172),(125,o173),(126,o174),(127,o175),(128,o176),(129,o43),(130,o44),(131,o179),(132,o43),(133,o181),(134,o182),(135,o183),(136,o184),(137,o185 P),(138,o186),(139,o187),(140,o188)]
abbrev o189:Obj:=oD #[(e8 P),(e10 P),(e6 P),(e0 P),(e9 P),(e3 P),(e5 P),(e1 P),(e7 P),(e2 P),(e4 P),(e14 P),(e11 P),(e12 P),(e13 P)] 15
abbrev o190:Obj:=oF vN #[(vI 2 0),(vI 0 0),(vR 20),(vI 4 0),(vI 0 0),(vR 33),(vI 6 0),(vI 0 0),(vR 46),(vI 56 0),(vI 0 0),(vR 92),(vI 68 0),(vI 0 0),(vR 122),(vI 79 0),(vI 0 0),(vR 146)]
abbrev o191:Obj:=(Obj.mk (vT "type") none (Data.cls (ClassData.mk (Str.ofString "Frame") [(vT "object")] [(vR 82),(vT "object")] 81 (Str.ofString "Frame") Bool.true [] [(vR 114),(vR 138),(vR 157)] Bool.false none Bool.false)) #[none,none,(some (vS "Frame" 229)),(some (vS "Frame" 237)),(some (vB "object.__new__")),(some (Value.bool Bool.true))])
abbrev o194:Obj:=oD #[(e37 P),(dE P "__qualname__" 389 (vS "RstStreamFrame" 388)),(dE P "__firstlineno__" 391 (vI 79 390)),(dE P "kind" 393 (vI 3 392)),(dE P "error_code" 395 (vI 0 394)),(dE P "parse_body" 403 (vR 154)),(dE P "__static_attributes__" 405 (vR 155))] 7
abbrev o196:Obj:=oF vN #[(vI 83 0),(vI 4 0),(vR 153)]
abbrev o197:Obj:=oF (vT "code") #[(vS "RstStreamFrame" 382),(vS "RstStreamFrame" 383),(vS "/claim/cut.py" 384),(vI 79 0),(vI 0 0),(vI 0 0),(vI 0 0),(vI 0 0),(vR 144),(Value.bool Bool.false),(vI 181 0),(vR 145),vN,vN,vN,vN,(vI 385 0),(vI 79 0),(vS "/claim/cut.py" 386)]
abbrev o198:Obj:=(Obj.mk (vT "frame") none Data.plain #[(some (vR 146)),(some (vR 3)),(some (vR 143)),none,(some (vS "h2.frames" 187)),none,(some (vR 0))])
abbrev o201:Obj:=oQ "tuple" #[(vS "self" 399),(vS "data" 400)]
abbrev o203:Obj:=(Obj.mk vN none (Data.func (FuncData.mk (Str.ofString "parse_body") (Str.ofString "RstStreamFrame.parse_body") (fP (kd 6 2)) (.stmts (fB (kd 6 2))) (fS (kd 6 2)) 0 [] vN vN vN vN none vN vN 0)) #[])
abbrev o204:Obj:=oF (vT "code") #[(vS "parse_body" 396),(vS "RstStreamFrame.parse_body" 397),(vS "/claim/cut.py" 398),(vI 83 0),(vI 2 0),(vI 0 0),(vI 0 0),(vI 3 0),(vR 148),(Value.bool Bool.true),(vI 181 0),(vR 149),vN,(vR 150),(vR 151),(vR 152),(vI 401 0),(vI 83 0),(vS "/claim/cut.py" 402)]
abbrev o205:Obj:=(Obj.mk (vT "function") none (Data.func (FuncData.mk (Str.ofString "parse_body") (Str.ofString "RstStreamFrame.parse_body") (fP (kd 6 2)) (.stmts (fB (kd 6 2))) (fS (kd 6 2)) 3 [] vN vN vN (vS "h2.frames" 187) none (vR 153) vN 0)) #[])
abbrev o206:Obj:=oQ "tuple" #[(vS "error_code" 404)]
abbrev o207:Obj:=oD #[(e37 P),(dE P "__firstlineno__" 391 (vI 79 390)),(dE P "kind" 393 (vI 3 392)),(dE P "error_code" 395 (vI 0 394)),(dE P "parse_body" 403 (vR 154)),(dE P "__static_attributes__" 405 (vR 155)),(dE P "__doc__" 406 vN)] 2
abbrev o208:Obj:=(Obj.mk (vT "type") none (Data.cls (ClassData.mk (Str.ofString "RstStreamFrame") [(vR 82)] [(vR 157),(vR 82),(vT "object")] 156 (Str.ofString "RstStreamFrame") Bool.true [] [] Bool.false none Bool.false)) #[(some (vR 141)),none,(some (vS "RstStreamFrame" 380)),(some (vS "RstStreamFrame" 388)),(some (vB "object.__new__")),(some (Value.bool Bool.true))])
abbrev o209:Obj:=oF (vT "super") #[(vR 157),(vR 157),(vR 157)]
abbrev o210:Obj:=oF (vT "builtin_function_or_method") #[(vB "object.__init_subclass__"),(vR 157)]
abbrev T210:BT:=upd (T188 P) [(3,o189 P),(12,o190),(82,o191),(141,o132),(142,o53),(143,o194 P),(144,o43),(145,o196),(146,o197),(147,o198),(148,o43),(149,o44),(150,o201),(151,o43),(152,o203),(153,o204),(154,o205),(155,o206),(156,o207 P),(157,o208),(158,o209),(159,o210)]
abbrev o211:Obj:=oD #[(e8 P),(e10 P),(e6 P),(e0 P),(e9 P),(e3 P),(e5 P),(e1 P),(e7 P),(e2 P),(e4 P),(e14 P),(e11 P),(e12 P),(e13 P),(e15 P)] 16
abbrev o212:Obj:=oF vN #[(vI 2 0),(vI 0 0),(vR 20),(vI 4 0),(vI 0 0),(vR 33),(vI 6 0),(vI 0 0),(vR 46),(vI 56 0),(vI 0 0),(vR 92),(vI 68 0),(vI 0 0),(vR 122),(vI 79 0),(vI 0 0),(vR 146),(vI 87 0),(vI 0 0),(vR 165)]
abbrev o213:Obj:=(Obj.mk (vT "type") none (Data.cls (ClassData.mk (Str.ofString "Frame") [(vT "object")] [(vR 82),(vT "object")] 81 (Str.ofString "Frame") Bool.true [] [(vR 114),(vR 138),(vR 157),(vR 179)] Bool.false none Bool.false)) #[none,none,(some (vS "Frame" 229)),(some (vS "Frame" 237)),(some (vB "object.__new__")),(some (Value.bool Bool.true))])
abbrev o216:Obj:=oD #[(e38 P),(dE P "__qualname__" 418 (vS "PushPromiseFrame" 417)),(dE P "__firstlineno__" 420 (vI 87 419)),(dE P "kind" 422 (vI 5 421)),(dE P "known_flags" 427 (vR 169)),(dE P "promised_stream_id" 429 (vI 0 428)),(dE P "parse_body" 437 (vR 176)),(dE P "__static_attributes__" 440 (vR 177))] 8
abbrev o218:Obj:=oF vN #[(vI 92 0),(vI 4 0),(vR 175)]
abbrev o219:Obj:=oF (vT "code") #[(vS "PushPromiseFrame" 411),(vS "PushPromiseFrame" 412),(vS "/claim/cut.py" 413),(vI 87 0),(vI 0 0),(vI 0 0),(vI 0 0),(vI 0 0),(vR 163),(Value.bool Bool.false),(vI 181 0),(vR 164),vN,vN,vN,vN,(vI 414 0),(vI 87 0),(vS "/claim/cut.py" 415)]
abbrev o220:Obj:=(Obj.mk (vT "frame") none Data.plain #[(some (vR 165)),(some (vR 3)),(some (vR 162)),none,(some (vS "h2.frames" 187)),none,(some (vR 0))])
abbrev o221:Obj:=oQ "tuple" #[(vI 4 423),(vS "END_HEADERS" 424)]
abbrev o222:Obj:=oQ "tuple" #[(vI 8 425),(vS "PADDED" 426)]
abbrev o223:Obj:=oQ "list" #[(vR 167),(vR 168)]
abbrev o226:Obj:=oQ "tuple" #[(vS "self" 433),(vS "data" 434)]
abbrev o228:Obj:=(Obj.mk vN none (Data.func (FuncData.mk (Str.ofString "parse_body") (Str.ofString "PushPromiseFrame.parse_body") (fP (kd 7 3)) (.stmts (fB (kd 7 3))) (fS (kd 7 3)) 0 [] vN vN vN vN none vN vN 0)) #[])
abbrev o229:Obj:=oF (vT "code") #[(vS "parse_body" 430),(vS "PushPromiseFrame.parse_body" 431),(vS "/claim/cut.py" 432),(vI 92 0),(vI 2 0),(vI 0 0),(vI 0 0),(vI 3 0),(vR 170),(Value.bool Bool.true),(vI 181 0),(vR 171),vN,(vR 172),(vR 173),(vR 174),(vI 435 0),(vI 92 0),(vS "/claim/cut.py" 436)]
abbrev o230:Obj:=(Obj.mk (vT "function") none (Data.func (FuncData.mk (Str.ofString "parse_body") (Str.ofString "PushPromiseFrame.parse_body") (fP (kd 7 3)) (.stmts (fB (kd 7 3))) (fS (kd 7 3)) 3 [] vN vN vN (vS "h2.frames" 187) none (vR 175) vN 0)) #[])
abbrev o231:Obj:=oQ "tuple" #[(vS "data" 438),(vS "promised_stream_id" 439)]
abbrev o232:Obj:=oD #[(e38 P),(dE P "__firstlineno__" 420 (vI 87 419)),(dE P "kind" 422 (vI 5 421)),(dE P "known_flags" 427 (vR 169)),(dE P "promised_stream_id" 429 (vI 0 428)),(dE P "parse_body" 437 (vR 176)),(dE P "__static_attributes__" 440 (vR 177)),(dE P "__doc__" 441 vN)] 2
abbrev o233:Obj:=(Obj.mk (vT "type") none (Data.cls (ClassData.mk (Str.ofString "PushPromiseFrame") [(vR 82)] [(vR 179),(vR 82),(vT "object")] 178 (Str.ofString "PushPromiseFrame") Bool.true [] [] Bool.false none Bool.false)) #[(some (vR 160)),none,(some (vS "PushPromiseFrame" 409)),(some (vS "PushPromiseFrame" 417)),(some (vB "object.__new__")),(some (Value.bool Bool.true))])
abbrev o234:Obj:=oF (vT "super") #[(vR 179),(vR 179),(vR 179)]
abbrev o235:Obj:=oF (vT "builtin_function_or_method") #[(vB "object.__init_subclass__"),(vR 179)]
abbrev T235:BT:=upd (T210 P) [(3,o211 P),(12,o212),(82,o213),(160,o132),(161,o53),(162,o216 P),(163,o43),(164,o218),(165,o219),(166,o220),(167,o221),(168,o222),(169,o223),(170,o43),(171,o44),(172,o226),(173,o43),(174,o228),(175,o229),(176,o230),(177,o231),(178,o232 P),(179,o233),(180,o234),(181,o235)]
abbrev o236:Obj:=oD #[(e8 P),(e10 P),(e6 P),(e0 P),(e9 P),(e3 P),(e5 P),(e1 P),(e7 P),(e2 P),(e4 P),(e14 P),(e11 P),(e12 P),(e13 P),(e15 P),(e16 P)] 17
abbrev o237:Obj:=oF vN #[(vI 2 0),(vI 0 0),(vR 20),(vI 4 0),(vI 0 0),(vR 33),(vI 6 0),(vI 0 0),(vR 46),(vI 56 0),(vI 0 0),(vR 92),(vI 68 0),(vI 0 0),(vR 122),(vI 79 0),(vI 0 0),(vR 146),(vI 87 0),(vI 0 0),(vR 165),(vI 100 0),(vI 0 0),(vR 187)]
abbrev o238:Obj:=(Obj.mk (vT "type") none (Data.cls (ClassData.mk (Str.ofString "Frame") [(vT "object")] [(vR 82),(vT "object")] 81 (Str.ofString "Frame") Bool.true [] [(vR 114),(vR 138),(vR 157),(vR 179),(vR 198)] Bool.false none Bool.false)) #[none,none,(some (vS "Frame" 229)),(some (vS "Frame" 237)),(some (vB "object.__new__")),(some (Value.bool Bool.true))])
abbrev o241:Obj:=oD #[(e39 P),(dE P "__qualname__" 453 (vS "WindowUpdateFrame" 452)),(dE P "__firstlineno__" 455 (vI 100 454)),(dE P "kind" 457 (vI 8 456)),(dE P "window_increment" 459 (vI 0 458)),(dE P "parse_body" 467 (vR 195)),(dE P "__static_attributes__" 469 (vR 196))] 7
abbrev o243:Obj:=oF vN #[(vI 104 0),(vI 4 0),(vR 194)]
abbrev o244:Obj:=oF (vT "code") #[(vS "WindowUpdateFrame" 446),(vS "WindowUpdateFrame" 447),(vS "/claim/cut.py" 448),(vI 100 0),(vI 0 0),(vI 0 0),(vI 0 0),(vI 0 0),(vR 185),(Value.bool Bool.false),(vI 181 0),(vR 186),vN,vN,vN,vN,(vI 449 0),(vI 100 0),(vS "/claim/cut.py" 450)]
abbrev o245:Obj:=(Obj.mk (vT "frame") none Data.plain #[(some (vR 187)),(some (vR 3)),(some (vR 184)),none,(some (vS "h2.frames" 187)),none,(some (vR 0))])
abbrev o248:Obj:=oQ "tuple" #[(vS "self" 463),(vS "data" 464)]
abbrev o250:Obj:=(Obj.mk vN none (Data.func (FuncData.mk (Str.ofString "parse_body") (Str.ofString "WindowUpdateFrame.parse_body") (fP (kd 8 2)) (.stmts (fB (kd 8 2))) (fS (kd 8 2)) 0 [] vN vN vN vN none vN vN 0)) #[])
abbrev o251:Obj:=oF (vT "code") #[(vS "parse_body" 460),(vS "WindowUpdateFrame.parse_body" 461),(vS "/claim/cut.py" 462),(vI 104 0),(vI 2 0),(vI 0 0),(vI 0 0),(vI 3 0),(vR 189),(Value.bool Bool.true),(vI 181 0),(vR 190),vN,(vR 191),(vR 192),(vR 193),(vI 465 0),(vI 104 0),(vS "/claim/cut.py" 466)]
abbrev o252:Obj:=(Obj.mk (vT "function") none (Data.func (FuncData.mk (Str.ofString "parse_body") (Str.ofString "WindowUpdateFrame.parse_body") (fP (kd 8 2)) (.stmts (fB (kd 8 2))) (fS (kd 8 2)) 3 [] vN vN vN (vS "h2.frames" 187) none (vR 194) vN 0)) #[])
abbrev o253:Obj:=oQ "tuple" #[(vS "window_increment" 468)]
abbrev o254:Obj:=oD #[(e39 P),(dE P "__firstlineno__" 455 (vI 100 454)),(dE P "kind" 457 (vI 8 456)),(dE P "window_increment" 459 (vI 0 458)),(dE P "parse_body" 467 (vR 195)),(dE P "__static_attributes__" 469 (vR 196)),(dE P "__doc__" 470 vN)] 2
abbrev o255:Obj:=(Obj.mk (vT "type") none (Data.cls (ClassData.mk (Str.ofString "WindowUpdateFrame") [(vR 82)] [(vR 198),(vR 82),(vT "object")] 197 (Str.ofString "WindowUpdateFrame") Bool.true [] [] Bool.false none Bool.false)) #[(some (vR 182)),none,(some (vS "WindowUpdateFrame" 444)),(some (vS "WindowUpdateFrame" 452)),(some (vB "object.__new__")),(some (Value.bool Bool.true))])
abbrev o256:Obj:=oF (vT "super") #[(vR 198),(vR 198),(vR 198)]
abbrev o257:Obj:=oF (vT "builtin_function_or_method") #[(vB "object.__init_subclass__"),(vR 198)]
abbrev T257:BT:=upd (T235 P) [(3,o236 P),(12,o237),(82,o238),(182,o132),(183,o53),(184,o241 P),(185,o43),(186,o243),(187,o244),(188,o245),(189,o43),(190,o44),(191,o248),(192,o43),(193,o250),(194,o251),(195,o252),(196,o253),(197,o254 P),(198,o255),(199,o256),(200,o257)]
abbrev o258:Obj:=oD #[(dE P "__name__" 165 (vS "h2.errors" 494)),(e10 P),(e6 P),(e0 P),(e9 P),(e3 P),(e5 P),(e1 P),(e7 P),(e2 P),(e4 P),(e14 P),(e11 P),(e12 P),(e13 P),(e15 P),(e16 P),(e17 P)] 18
abbrev o259:Obj:=oF vN #[(vI 2 0),(vI 0 0),(vR 20),(vI 4 0),(vI 0 0),(vR 33),(vI 6 0),(vI 0 0),(vR 46),(vI 56 0),(vI 0 0),(vR 92),(vI 68 0),(vI 0 0),(vR 122),(vI 79 0),(vI 0 0),(vR 146),(vI 87 0),(vI 0 0),(vR 165),(vI 100 0),(vI 0 0),(vR 187),(vI 110 0),(vI 0 0),(vR 206)]
abbrev o260:Obj:=(Obj.mk (vT "type") none (Data.cls (ClassData.mk (Str.ofString "Frame") [(vT "object")] [(vR 82),(vT "object")] 81 (Str.ofString "Frame") Bool.true [] [(vR 114),(vR 138),(vR 157),(vR 179),(vR 198),(vR 212)] Bool.false none Bool.false)) #[none,none,(some (vS "Frame" 229)),(some (vS "Frame" 237)),(some (vB "object.__new__")),(some (Value.bool Bool.true))])
abbrev o263:Obj:=oD #[(e40 P),(dE P "__qualname__" 482 (vS "ContinuationFrame" 481)),(dE P "__firstlineno__" 484 (vI 110 483)),(dE P "kind" 486 (vI 9 485)),(dE P "known_flags" 489 (vR 209)),(dE P "__static_attributes__" 490 (vR 210))] 6
abbrev o266:Obj:=oF (vT "code") #[(vS "ContinuationFrame" 475),(vS "ContinuationFrame" 476),(vS "/claim/cut.py" 477),(vI 110 0),(vI 0 0),(vI 0 0),(vI 0 0),(vI 0 0),(vR 204),(Value.bool Bool.false),(vI 181 0),(vR 205),vN,vN,vN,vN,(vI 478 0),(vI 110 0),(vS "/claim/cut.py" 479)]
abbrev o267:Obj:=(Obj.mk (vT "frame") none Data.plain #[(some (vR 206)),(some (vR 3)),(some (vR 203)),none,(some (vS "h2.frames" 187)),none,(some (vR 0))])
abbrev o268:Obj:=oQ "tuple" #[(vI 4 487),(vS "END_HEADERS" 488)]
abbrev o269:Obj:=oQ "list" #[(vR 208)]
abbrev o271:Obj:=oD #[(e40 P),(dE P "__firstlineno__" 484 (vI 110 483)),(dE P "kind" 486 (vI 9 485)),(dE P "known_flags" 489 (vR 209)),(dE P "__static_attributes__" 490 (vR 210)),(dE P "__doc__" 491 vN)] 2
abbrev o272:Obj:=(Obj.mk (vT "type") none (Data.cls (ClassData.mk (Str.ofString "ContinuationFrame") [(vR 82)] [(vR 212),(vR 82),(vT "object")] 211 (Str.ofString "ContinuationFrame") Bool.true [] [] Bool.false none Bool.false)) #[(some (vR 201)),none,(some (vS "ContinuationFrame" 473)),(some (vS "ContinuationFrame" 481)),(some (vB "object.__new__")),(some (Value.bool Bool.true))])
abbrev o273:Obj:=oF (vT "super") #[(vR 212),(vR 212),(vR 212)]
abbrev o274:Obj:=oF (vT "builtin_function_or_method") #[(vB "object.__init_subclass__"),(vR 212)]
abbrev T274:BT:=upd (T257 P) [(3,o258 P),(12,o259),(82,o260),(201,o132),(202,o53),(203,o263 P),(204,o43),(205,o44),(206,o266),(207,o267),(208,o268),(209,o269),(210,o43),(211,o271 P),(212,o272),(213,o273),(214,o274)]
abbrev o275:Obj:=oD #[(e19 P),(e10 P),(e6 P),(e0 P),(e9 P),(e3 P),(e5 P),(e1 P),(e7 P),(e2 P),(e4 P),(e14 P),(e11 P),(e12 P),(e13 P),(e15 P),(e16 P),(e17 P),(e18 P)] 19
abbrev o276:Obj:=oF vN #[(vI 2 0),(vI 0 0),(vR 20),(vI 4 0),(vI 0 0),(vR 33),(vI 6 0),(vI 0 0),(vR 46),(vI 56 0),(vI 0 0),(vR 92),(vI 68 0),(vI 0 0),(vR 122),(vI 79 0),(vI 0 0),(vR 146),(vI 87 0),(vI 0 0),(vR 165),(vI 100 0),(vI 0 0),(vR 187),(vI 110 0),(vI 0 0),(vR 206),(vI 114 0),(vI 0 0),(vR 220)]
abbrev o279:Obj:=oD #[(e41 P),(dE P "__qualname__" 505 (vS "ErrorCodes" 504)),(dE P "__firstlineno__" 507 (vI 114 506)),(dE P "NO_ERROR" 509 (vI 0 508)),(dE P "PROTOCOL_ERROR" 511 (vI 1 510)),(dE P "INTERNAL_ERROR" 513 (vI 2 512)),(dE P "FLOW_CONTROL_ERROR" 515 (vI 3 514)),(dE P "SETTINGS_TIMEOUT" 517 (vI 4 516)),(dE P "STREAM_CLOSED" 519 (vI 5 518)),(dE P "FRAME_SIZE_ERROR" 521 (vI 6 520)),(dE P "REFUSED_STREAM" 523 (vI 7 522)),(dE P "CANCEL" 525 (vI 8 524)),(dE P "COMPRESSION_ERROR" 527 (vI 9 526)),(dE P "CONNECT_ERROR" 529 (vI 10 528)),(dE P "ENHANCE_YOUR_CALM" 531 (vI 11 530)),(e44 P),(dE P "HTTP_1_1_REQUIRED" 535 (vI 13 534)),(dE P "__static_attributes__" 536 (vR 222))] 18
abbrev o282:Obj:=oF (vT "code") #[(vS "ErrorCodes" 498),(vS "ErrorCodes" 499),(vS "/claim/cut.py" 500),(vI 114 0),(vI 0 0),(vI 0 0),(vI 0 0),(vI 0 0),(vR 218),(Value.bool Bool.false),(vI 181 0),(vR 219),vN,vN,vN,vN,(vI 501 0),(vI 114 0),(vS "/claim/cut.py" 502)]
abbrev o283:Obj:=(Obj.mk (vT "frame") none Data.plain #[(some (vR 220)),(some (vR 3)),(some (vR 217)),none,(some (vS "h2.errors" 494)),none,(some (vR 0))])
abbrev o285:Obj:=oD #[(e41 P),(dE P "__firstlineno__" 507 (vI 114 506)),(dE P "NO_ERROR" 509 (vI 0 508)),(dE P "PROTOCOL_ERROR" 511 (vI 1 510)),(dE P "INTERNAL_ERROR" 513 (vI 2 512)),(dE P "FLOW_CONTROL_ERROR" 515 (vI 3 514)),(dE P "SETTINGS_TIMEOUT" 517 (vI 4 516)),(dE P "STREAM_CLOSED" 519 (vI 5 518)),(dE P "FRAME_SIZE_ERROR" 521 (vI 6 520)),(dE P "REFUSED_STREAM" 523 (vI 7 522)),(dE P "CANCEL" 525 (vI 8 524)),(dE P "COMPRESSION_ERROR" 527 (vI 9 526)),(dE P "CONNECT_ERROR" 529 (vI 10 528)),(dE P "ENHANCE_YOUR_CALM" 531 (vI 11 530)),(e44 P),(dE P "HTTP_1_1_REQUIRED" 535 (vI 13 534)),(dE P "__static_attributes__" 536 (vR 222)),(dE P "__dict__" 538 (vR 225)),(dE P "__weakref__" 540 (vR 226)),(dE P "__doc__" 541 vN)] 4
abbrev o286:Obj:=(Obj.mk (vT "type") none (Data.cls (ClassData.mk (Str.ofString "ErrorCodes") [(vT "object")] [(vR 224),(vT "object")] 223 (Str.ofString "ErrorCodes") Bool.true [] [] Bool.false none Bool.false)) #[none,none,(some (vS "ErrorCodes" 496)),(some (vS "ErrorCodes" 504)),(some (vB "object.__new__")),(some (Value.bool Bool.true))])
abbrev o287:Obj:=oF (vT "getset_descriptor") #[(vS "__dict__" 537),(vR 224),(vB "function.__dict__"),(vB "function.__dict__#set")]
abbrev o288:Obj:=oF (vT "getset_descriptor") #[(vS "__weakref__" 539),(vR 224),(vB "ExceptionGroup.__weakref__"),vN]
abbrev o289:Obj:=oF (vT "super") #[(vR 224),(vR 224),(vR 224)]
abbrev o290:Obj:=oF (vT "builtin_function_or_method") #[(vB "object.__init_subclass__"),(vR 224)]
abbrev T290:BT:=upd (T274 P) [(3,o275 P),(12,o276),(215,o43),(216,o53),(217,o279 P),(218,o43),(219,o44),(220,o282),(221,o283),(222,o43),(223,o285 P),(224,o286),(225,o287),(226,o288),(227,o289),(228,o290)]
abbrev o291:Obj:=(Obj.mk vN none (Data.dict #[(e23 P),(dE P "type.__subclasses__.Exception.n" 206 (vI 3 0)),(e42 P),(dE P "type.__subclasses__.Exception.2" 562 (vI 238 0))] 4) #[])
abbrev o292:Obj:=oD #[(e19 P),(e10 P),(e6 P),(e0 P),(e9 P),(e3 P),(e5 P),(e1 P),(e7 P),(e2 P),(e4 P),(e14 P),(e11 P),(e12 P),(e13 P),(e15 P),(e16 P),(e17 P),(e18 P),(e20 P)] 20
abbrev o293:Obj:=oF vN #[(vI 2 0),(vI 0 0),(vR 20),(vI 4 0),(vI 0 0),(vR 33),(vI 6 0),(vI 0 0),(vR 46),(vI 56 0),(vI 0 0),(vR 92),(vI 68 0),(vI 0 0),(vR 122),(vI 79 0),(vI 0 0),(vR 146),(vI 87 0),(vI 0 0),(vR 165),(vI 100 0),(vI 0 0),(vR 187),(vI 110 0),(vI 0 0),(vR 206),(vI 114 0),(vI 0 0),(vR 220),(vI 130 0),(vI 0 0),(vR 234)]
abbrev o296:Obj:=oD #[(e27 P),(dE P "__qualname__" 555 (vS "H2Error" 554)),(dE P "__firstlineno__" 557 (vI 130 556)),(dE P "__static_attributes__" 558 (vR 236))] 4
abbrev o299:Obj:=oF (vT "code") #[(vS "H2Error" 548),(vS "H2Error" 549),(vS "/claim/cut.py" 550),(vI 130 0),(vI 0 0),(vI 0 0),(vI 0 0),(vI 0 0),(vR 232),(Value.bool Bool.false),(vI 181 0),(vR 233),vN,vN,vN,vN,(vI 551 0),(vI 130 0),(vS "/claim/cut.py" 552)]
abbrev o300:Obj:=(Obj.mk (vT "frame") none Data.plain #[(some (vR 234)),(some (vR 3)),(some (vR 231)),none,(some (vS "h2.exceptions" 544)),none,(some (vR 0))])
abbrev o302:Obj:=oD #[(e27 P),(dE P "__firstlineno__" 557 (vI 130 556)),(dE P "__static_attributes__" 558 (vR 236)),(dE P "__weakref__" 560 (vR 239)),(dE P "__doc__" 561 vN)] 3
abbrev o303:Obj:=(Obj.mk (vT "type") none (Data.cls (ClassData.mk (Str.ofString "H2Error") [(vT "Exception")] [(vR 238),(vT "Exception"),(vT "BaseException"),(vT "object")] 237 (Str.ofString "H2Error") Bool.true [] [] Bool.false none Bool.false)) #[(some (vR 229)),none,(some (vS "H2Error" 546)),(some (vS "H2Error" 554)),(some (vB "Exception.__new__")),(some (Value.bool Bool.true))])
abbrev o304:Obj:=oF (vT "getset_descriptor") #[(vS "__weakref__" 559),(vR 238),(vB "ExceptionGroup.__weakref__"),vN]
abbrev o305:Obj:=oF (vT "super") #[(vR 238),(vR 238),(vR 238)]
abbrev o306:Obj:=oF (vT "builtin_function_or_method") #[(vB "object.__init_subclass__"),(vR 238)]
abbrev T306:BT:=upd (T290 P) [(2,o291 P),(3,o292 P),(12,o293),(229,o52),(230,o53),(231,o296 P),(232,o43),(233,o44),(234,o299),(235,o300),(236,o43),(237,o302 P),(238,o303),(239,o304),(240,o305),(241,o306)]
abbrev o307:Obj:=oD #[(e19 P),(e10 P),(e6 P),(e0 P),(e9 P),(e3 P),(e5 P),(e1 P),(e7 P),(e2 P),(e4 P),(e14 P),(e11 P),(e12 P),(e13 P),(e15 P),(e16 P),(e17 P),(e18 P),(e20 P),(e21 P)] 21
abbrev o308:Obj:=oF vN #[(vI 2 0),(vI 0 0),(vR 20),(vI 4 0),(vI 0 0),(vR 33),(vI 6 0),(vI 0 0),(vR 46),(vI 56 0),(vI 0 0),(vR 92),(vI 68 0),(vI 0 0),(vR 122),(vI 79 0),(vI 0 0),(vR 146),(vI 87 0),(vI 0 0),(vR 165),(vI 100 0),(vI 0 0),(vR 187),(vI 110 0),(vI 0 0),(vR 206),(vI 114 0),(vI 0 0),(vR 220),(vI 130 0),(vI 0 0),(vR 234),(vI 132 0),(vI 0 0),(vR 247)]
abbrev o309:Obj:=(Obj.mk (vT "type") none (Data.cls (ClassData.mk (Str.ofString "H2Error") [(vT "Exception")] [(vR 238),(vT "Exception"),(vT "BaseException"),(vT "object")] 237 (Str.ofString "H2Error") Bool.true [] [(vR 251)] Bool.false none Bool.false)) #[(some (vR 229)),none,(some (vS "H2Error" 546)),(some (vS "H2Error" 554)),(some (vB "Exception.__new__")),(some (Value.bool Bool.true))])
abbrev o310:Obj:=oQ "tuple" #[(vR 238)]
abbrev o312:Obj:=oD #[(e28 P),(dE P "__qualname__" 575 (vS "ProtocolError" 574)),(dE P "__firstlineno__" 577 (vI 132 576)),(dE P "error_code" 579 (vI 1 510)),(dE P "__static_attributes__" 580 (vR 249))] 5
abbrev o315:Obj:=oF (vT "code") #[(vS "ProtocolError" 568),(vS "ProtocolError" 569),(vS "/claim/cut.py" 570),(vI 132 0),(vI 0 0),(vI 0 0),(vI 0 0),(vI 0 0),(vR 245),(Value.bool Bool.false),(vI 181 0),(vR 246),vN,vN,vN,vN,(vI 571 0),(vI 132 0),(vS "/claim/cut.py" 572)]
abbrev o316:Obj:=(Obj.mk (vT "frame") none Data.plain #[(some (vR 247)),(some (vR 3)),(some (vR 244)),none,(some (vS "h2.exceptions" 544)),none,(some (vR 0))])
abbrev o318:Obj:=oD #[(e28 P),(dE P "__firstlineno__" 577 (vI 132 576)),(dE P "error_code" 579 (vI 1 510)),(dE P "__static_attributes__" 580 (vR 249)),(dE P "__doc__" 581 vN)] 2
abbrev o319:Obj:=(Obj.mk (vT "type") none (Data.cls (ClassData.mk (Str.ofString "ProtocolError") [(vR 238)] [(vR 251),(vR 238),(vT "Exception"),(vT "BaseException"),(vT "object")] 250 (Str.ofString "ProtocolError") Bool.true [] [] Bool.false none Bool.false)) #[(some (vR 242)),none,(some (vS "ProtocolError" 566)),(some (vS "ProtocolError" 574)),(some (vB "Exception.__new__")),(some (Value.bool Bool.true))])
abbrev o320:Obj:=oF (vT "super") #[(vR 251),(vR 251),(vR 251)]
abbrev o321:Obj:=oF (vT "builtin_function_or_method") #[(vB "object.__init_subclass__"),(vR 251)]
abbrev T321:BT:=upd (T306 P) [(3,o307 P),(12,o308),(238,o309),(242,o310),(243,o53),(244,o312 P),(245,o43),(246,o44),(247,o315),(248,o316),(249,o43),(250,o318 P),(251,o319),(252,o320),(253,o321)]
abbrev o322:Obj:=oD #[(e19 P),(e10 P),(e6 P),(e0 P),(e9 P),(e3 P),(e5 P),(e1 P),(e7 P),(e2 P),(e4 P),(e14 P),(e11 P),(e12 P),(e13 P),(e15 P),(e16 P),(e17 P),(e18 P),(e20 P),(e21 P),(e22 P)] 22
abbrev o323:Obj:=oF vN #[(vI 2 0),(vI 0 0),(vR 20),(vI 4 0),(vI 0 0),(vR 33),(vI 6 0),(vI 0 0),(vR 46),(vI 56 0),(vI 0 0),(vR 92),(vI 68 0),(vI 0 0),(vR 122),(vI 79 0),(vI 0 0),(vR 146),(vI 87 0),(vI 0 0),(vR 165),(vI 100 0),(vI 0 0),(vR 187),(vI 110 0),(vI 0 0),(vR 206),(vI 114 0),(vI 0 0),(vR 220),(vI 130 0),(vI 0 0),(vR 234),(vI 132 0),(vI 0 0),(vR 247),(vI 134 0),(vI 0 0),(vR 259)]
abbrev o324:Obj:=(Obj.mk (vT "type") none (Data.cls (ClassData.mk (Str.ofString "ProtocolError") [(vR 238)] [(vR 251),(vR 238),(vT "Exception"),(vT "BaseException"),(vT "object")] 250 (Str.ofString "ProtocolError") Bool.true [] [(vR 263)] Bool.false none Bool.false)) #[(some (vR 242)),none,(some (vS "ProtocolError" 566)),(some (vS "ProtocolError" 574)),(some (vB "Exception.__new__")),(some (Value.bool Bool.true))])
abbrev o325:Obj:=oQ "tuple" #[(vR 251)]
abbrev o327:Obj:=oD #[(e29 P),(dE P "__qualname__" 593 (vS "FrameTooLargeError" 592)),(dE P "__firstlineno__" 595 (vI 134 594)),(dE P "error_code" 597 (vI 6 520)),(dE P "__static_attributes__" 598 (vR 261))] 5
abbrev o330:Obj:=oF (vT "code") #[(vS "FrameTooLargeError" 586),(vS "FrameTooLargeError" 587),(vS "/claim/cut.py" 588),(vI 134 0),(vI 0 0),(vI 0 0),(vI 0 0),(vI 0 0),(vR 257),(Value.bool Bool.false),(vI 181 0),(vR 258),vN,vN,vN,vN,(vI 589 0),(vI 134 0),(vS "/claim/cut.py" 590)]
abbrev o331:Obj:=(Obj.mk (vT "frame") none Data.plain #[(some (vR 259)),(some (vR 3)),(some (vR 256)),none,(some (vS "h2.exceptions" 544)),none,(some (vR 0))])
abbrev o333:Obj:=oD #[(e29 P),(dE P "__firstlineno__" 595 (vI 134 594)),(dE P "error_code" 597 (vI 6 520)),(dE P "__static_attributes__" 598 (vR 261)),(dE P "__doc__" 599 vN)] 2
abbrev o334:Obj:=(Obj.mk (vT "type") none (Data.cls (ClassData.mk (Str.ofString "FrameTooLargeError") [(vR 251)] [(vR 263),(vR 251),(vR 238),(vT "Exception"),(vT "BaseException"),(vT "object")] 262 (Str.ofString "FrameTooLargeError") Bool.true [] [] Bool.false none Bool.false)) #[(some (vR 254)),none,(some (vS "FrameTooLargeError" 584)),(some (vS "FrameTooLargeError" 592)),(some (vB "Exception.__new__")),(some (Value.bool Bool.true))])
abbrev o335:Obj:=oF (vT "super") #[(vR 263),(vR 263),(vR 263)]
abbrev o336:Obj:=oF (vT "builtin_function_or_method") #[(vB "object.__init_subclass__"),(vR 263)]
abbrev T336:BT:=upd (T321 P) [(3,o322 P),(12,o323),(251,o324),(254,o325),(255,o53),(256,o327 P),(257,o43),(258,o44),(259,o330),(260,o331),(261,o43),(262,o333 P),(263,o334),(264,o335),(265,o336)]
abbrev o337:Obj:=oD #[(e30 P),(e10 P),(e6 P),(e0 P),(e9 P),(e3 P),(e5 P),(e1 P),(e7 P),(e2 P),(e4 P),(e14 P),(e11 P),(e12 P),(e13 P),(e15 P),(e16 P),(e17 P),(e18 P),(e20 P),(e21 P),(e22 P),(e25 P),(e24 P)] 24
abbrev o338:Obj:=oF vN #[(vI 2 0),(vI 0 0),(vR 20),(vI 4 0),(vI 0 0),(vR 33),(vI 6 0),(vI 0 0),(vR 46),(vI 56 0),(vI 0 0),(vR 92),(vI 68 0),(vI 0 0),(vR 122),(vI 79 0),(vI 0 0),(vR 146),(vI 87 0),(vI 0 0),(vR 165),(vI 100 0),(vI 0 0),(vR 187),(vI 110 0),(vI 0 0),(vR 206),(vI 114 0),(vI 0 0),(vR 220),(vI 130 0),(vI 0 0),(vR 234),(vI 132 0),(vI 0 0),(vR 247),(vI 134 0),(vI 0 0),(vR 259),(vI 136 0),(vI 0 0),(vR 271)]
abbrev o339:Obj:=(Obj.mk (vT "type") none (Data.cls (ClassData.mk (Str.ofString "ProtocolError") [(vR 238)] [(vR 251),(vR 238),(vT "Exception"),(vT "BaseException"),(vT "object")] 250 (Str.ofString "ProtocolError") Bool.true [] [(vR 263),(vR 275)] Bool.false none Bool.false)) #[(some (vR 242)),none,(some (vS "ProtocolError" 566)),(some (vS "ProtocolError" 574)),(some (vB "Exception.__new__")),(some (Value.bool Bool.true))])
abbrev o342:Obj:=oD #[(e31 P),(dE P "__qualname__" 611 (vS "FrameDataMissingError" 610)),(dE P "__firstlineno__" 613 (vI 136 612)),(dE P "error_code" 615 (vI 6 520)),(dE P "__static_attributes__" 616 (vR 273))] 5
abbrev o345:Obj:=oF (vT "code") #[(vS "FrameDataMissingError" 604),(vS "FrameDataMissingError" 605),(vS "/claim/cut.py" 606),(vI 136 0),(vI 0 0),(vI 0 0),(vI 0 0),(vI 0 0),(vR 269),(Value.bool Bool.false),(vI 181 0),(vR 270),vN,vN,vN,vN,(vI 607 0),(vI 136 0),(vS "/claim/cut.py" 608)]
abbrev o346:Obj:=(Obj.mk (vT "frame") none Data.plain #[(some (vR 271)),(some (vR 3)),(some (vR 268)),none,(some (vS "h2.exceptions" 544)),none,(some (vR 0))])
abbrev o348:Obj:=oD #[(e31 P),(dE P "__firstlineno__" 613 (vI 136 612)),(dE P "error_code" 615 (vI 6 520)),(dE P "__static_attributes__" 616 (vR 273)),(dE P "__doc__" 617 vN)] 2
abbrev o349:Obj:=(Obj.mk (vT "type") none (Data.cls (ClassData.mk (Str.ofString "FrameDataMissingError") [(vR 251)] [(vR 275),(vR 251),(vR 238),(vT "Exception"),(vT "BaseException"),(vT "object")] 274 (Str.ofString "FrameDataMissingError") Bool.true [] [] Bool.false none Bool.false)) #[(some (vR 266)),none,(some (vS "FrameDataMissingError" 602)),(some (vS "FrameDataMissingError" 610)),(some (vB "Exception.__new__")),(some (Value.bool Bool.true))])
abbrev o350:Obj:=oF (vT "super") #[(vR 275),(vR 275),(vR 275)]
abbrev o351:Obj:=oF (vT "builtin_function_or_method") #[(vB "object.__init_subclass__"),(vR 275)]
abbrev T351:BT:=upd (T336 P) [(3,o337 P),(12,o338),(251,o339),(266,o325),(267,o53),(268,o342 P),(269,o43),(270,o44),(271,o345),(272,o346),(273,o43),(274,o348 P),(275,o349),(276,o350),(277,o351)]
abbrev o352:Obj:=oD #[(e30 P),(e10 P),(e6 P),(e0 P),(e9 P),(e3 P),(e5 P),(e1 P),(e7 P),(e2 P),(e4 P),(e14 P),(e11 P),(e12 P),(e13 P),(e15 P),(e16 P),(e17 P),(e18 P),(e20 P),(e21 P),(e22 P),(e25 P),(e24 P),(dE P "FrameBuffer" 709 (vR 330))] 25
abbrev o353:Obj:=oF vN #[(vI 2 0),(vI 0 0),(vR 20),(vI 4 0),(vI 0 0),(vR 33),(vI 6 0),(vI 0 0),(vR 46),(vI 56 0),(vI 0 0),(vR 92),(vI 68 0),(vI 0 0),(vR 122),(vI 79 0),(vI 0 0),(vR 146),(vI 87 0),(vI 0 0),(vR 165),(vI 100 0),(vI 0 0),(vR 187),(vI 110 0),(vI 0 0),(vR 206),(vI 114 0),(vI 0 0),(vR 220),(vI 130 0),(vI 0 0),(vR 234),(vI 132 0),(vI 0 0),(vR 247),(vI 134 0),(vI 0 0),(vR 259),(vI 136 0),(vI 0 0),(vR 271),(vI 140 0),(vI 0 0),(vR 283)]
abbrev o356:Obj:=oD #[(e26 P),(dE P "__qualname__" 633 (vS "FrameBuffer" 632)),(dE P "__firstlineno__" 635 (vI 140 634)),(dE P "__init__" 643 (vR 292)),(dE P "add_data" 655 (vR 299)),(e45 P),(dE P "_update_header_buffer" 675 (vR 313)),(dE P "__iter__" 684 (vR 320)),(dE P "take_frame" 696 (vR 327)),(dE P "__static_attributes__" 702 (vR 328))] 10
abbrev o358:Obj:=oF vN #[(vI 142 0),(vI 4 0),(vR 291),(vI 149 0),(vI 4 0),(vR 298),(vI 162 0),(vI 4 0),(vR 305),(vI 167 0),(vI 4 0),(vR 312),(vI 191 0),(vI 4 0),(vR 319),(vI 198 0),(vI 4 0),(vR 326)]
abbrev o359:Obj:=oF (vT "code") #[(vS "FrameBuffer" 626),(vS "FrameBuffer" 627),(vS "/claim/cut.py" 628),(vI 140 0),(vI 0 0),(vI 0 0),(vI 0 0),(vI 0 0),(vR 281),(Value.bool Bool.false),(vI 181 0),(vR 282),vN,vN,vN,vN,(vI 629 0),(vI 140 0),(vS "/claim/cut.py" 630)]
abbrev o360:Obj:=(Obj.mk (vT "frame") none Data.plain #[(some (vR 283)),(some (vR 3)),(some (vR 280)),none,(some (vS "h2.frame_buffer" 620)),none,(some (vR 0))])
abbrev o361:Obj:=oQ "tuple" #[(Value.bool Bool.false)]
abbrev o364:Obj:=oQ "tuple" #[(vS "self" 639),(vS "server" 640)]
abbrev o366:Obj:=(Obj.mk vN none (Data.func (FuncData.mk (Str.ofString "__init__") (Str.ofString "FrameBuffer.__init__") (fP (kd 19 0)) (.stmts (fB (kd 19 0))) (fS (kd 19 0)) 0 [] vN vN vN vN none vN vN 0)) #[])
abbrev o367:Obj:=oF (vT "code") #[(vS "__init__" 636),(vS "FrameBuffer.__init__" 637),(vS "/claim/cut.py" 638),(vI 142 0),(vI 2 0),(vI 0 0),(vI 0 0),(vI 3 0),(vR 286),(Value.bool Bool.true),(vI 181 0),(vR 287),vN,(vR 288),(vR 289),(vR 290),(vI 641 0),(vI 142 0),(vS "/claim/cut.py" 642)]
abbrev o368:Obj:=(Obj.mk (vT "function") none (Data.func (FuncData.mk (Str.ofString "__init__") (Str.ofString "FrameBuffer.__init__") (fP (kd 19 0)) (.stmts (fB (kd 19 0))) (fS (kd 19 0)) 3 [] (vR 285) vN vN (vS "h2.frame_buffer" 620) none (vR 291) vN 0)) #[])
abbrev o371:Obj:=oQ "tuple" #[(vS "self" 647),(vS "data" 648),(vS "data_view" 649),(vS "data_len" 650),(vS "of_which_preamble" 651),(vS "msg" 652)]
abbrev o373:Obj:=(Obj.mk vN none (Data.func (FuncData.mk (Str.ofString "add_data") (Str.ofString "FrameBuffer.add_data") (fP (kd 19 1)) (.stmts (fB (kd 19 1))) (fS (kd 19 1)) 0 [] vN vN vN vN none vN vN 0)) #[])
abbrev o374:Obj:=oF (vT "code") #[(vS "add_data" 644),(vS "FrameBuffer.add_data" 645),(vS "/claim/cut.py" 646),(vI 149 0),(vI 2 0),(vI 0 0),(vI 0 0),(vI 3 0),(vR 293),(Value.bool Bool.true),(vI 181 0),(vR 294),vN,(vR 295),(vR 296),(vR 297),(vI 653 0),(vI 149 0),(vS "/claim/cut.py" 654)]
abbrev o375:Obj:=(Obj.mk (vT "function") none (Data.func (FuncData.mk (Str.ofString "add_data") (Str.ofString "FrameBuffer.add_data") (fP (kd 19 1)) (.stmts (fB (kd 19 1))) (fS (kd 19 1)) 3 [] vN vN vN (vS "h2.frame_buffer" 620) none (vR 298) vN 0)) #[])
abbrev o378:Obj:=oQ "tuple" #[(vS "self" 659),(vS "length" 660),(vS "msg" 661)]
abbrev o380:Obj:=(Obj.mk vN none (Data.func (FuncData.mk (Str.ofString "_validate_frame_length") (Str.ofString "FrameBuffer._validate_frame_length") (fP (kd 19 2)) (.stmts (fB (kd 19 2))) (fS (kd 19 2)) 0 [] vN vN vN vN none vN vN 0)) #[])
abbrev o381:Obj:=oF (vT "code") #[(vS "_validate_frame_length" 656),(vS "FrameBuffer._validate_frame_length" 657),(vS "/claim/cut.py" 658),(vI 162 0),(vI 2 0),(vI 0 0),(vI 0 0),(vI 3 0),(vR 300),(Value.bool Bool.true),(vI 181 0),(vR 301),vN,(vR 302),(vR 303),(vR 304),(vI 662 0),(vI 162 0),(vS "/claim/cut.py" 663)]
abbrev o382:Obj:=(Obj.mk (vT "function") none (Data.func (FuncData.mk (Str.ofString "_validate_frame_length") (Str.ofString "FrameBuffer._validate_frame_length") (fP (kd 19 2)) (.stmts (fB (kd 19 2))) (fS (kd 19 2)) 3 [] vN vN vN (vS "h2.frame_buffer" 620) none (vR 305) vN 0)) #[])
abbrev o384 (P:Params):Obj:=oF vN #[]
abbrev o385:Obj:=oQ "tuple" #[(vS "self" 668),(vS "f" 669),(vS "stream_id" 670),(vS "valid_frame" 671),(vS "msg" 672)]
abbrev o387:Obj:=(Obj.mk vN none (Data.func (FuncData.mk (Str.ofString "_update_header_buffer") (Str.ofString "FrameBuffer._update_header_buffer") (fP (kd 19 3)) (.stmts (fB (kd 19 3))) (fS (kd 19 3)) 0 [] vN vN vN vN none vN vN 0)) #[])
abbrev o388 (P:Params):Obj:=oF (vT "code") #[(vS "_update_header_buffer" 665),(vS "FrameBuffer._update_header_buffer" 666),(vS "/claim/cut.py" 667),(vI 167 0),(vI 2 0),(vI 0 0),(vI 0 0),(vI 3 0),(vR 307),(Value.bool Bool.true),(vI 181 0),(vR 308),vN,(vR 309),(vR 310),(vR 311),(vI 673 0),(vI 167 0),(vS "/claim/cut.py" 674)]
abbrev o389:Obj:=(Obj.mk (vT "function") none (Data.func (FuncData.mk (Str.ofString "_update_header_buffer") (Str.ofString "FrameBuffer._update_header_buffer") (fP (kd 19 3)) (.stmts (fB (kd 19 3))) (fS (kd 19 3)) 3 [] vN vN vN (vS "h2.frame_buffer" 620) none (vR 312) vN 0)) #[])
abbrev o392:Obj:=oQ "tuple" #[(vS "self" 679),(vS "whole" 680),(vS "frame" 681)]
abbrev o394:Obj:=(Obj.mk vN none (Data.func (FuncData.mk (Str.ofString "__iter__") (Str.ofString "FrameBuffer.__iter__") (fP (kd 19 4)) (.stmts (fB (kd 19 4))) (fS (kd 19 4)) 0 [] vN vN vN vN none vN vN 0)) #[])
abbrev o395:Obj:=oF (vT "code") #[(vS "__iter__" 676),(vS "FrameBuffer.__iter__" 677),(vS "/claim/cut.py" 678),(vI 191 0),(vI 1 0),(vI 0 0),(vI 0 0),(vI 35 0),(vR 314),(Value.bool Bool.true),(vI 181 0),(vR 315),vN,(vR 316),(vR 317),(vR 318),(vI 682 0),(vI 191 0),(vS "/claim/cut.py" 683)]
abbrev o396:Obj:=(Obj.mk (vT "function") none (Data.func (FuncData.mk (Str.ofString "__iter__") (Str.ofString "FrameBuffer.__iter__") (fP (kd 19 4)) (.stmts (fB (kd 19 4))) (fS (kd 19 4)) 3 [] vN vN vN (vS "h2.frame_buffer" 620) none (vR 319) vN 0)) #[])
abbrev o399:Obj:=oQ "tuple" #[(vS "self" 688),(vS "f" 689),(vS "length" 690),(vS "err" 691),(vS "msg" 692),(vS "new_frame" 693)]
abbrev o401:Obj:=(Obj.mk vN none (Data.func (FuncData.mk (Str.ofString "take_frame") (Str.ofString "FrameBuffer.take_frame") (fP (kd 19 5)) (.stmts (fB (kd 19 5))) (fS (kd 19 5)) 0 [] vN vN vN vN none vN vN 0)) #[])
abbrev o402:Obj:=oF (vT "code") #[(vS "take_frame" 685),(vS "FrameBuffer.take_frame" 686),(vS "/claim/cut.py" 687),(vI 198 0),(vI 1 0),(vI 0 0),(vI 0 0),(vI 3 0),(vR 321),(Value.bool Bool.true),(vI 181 0),(vR 322),vN,(vR 323),(vR 324),(vR 325),(vI 694 0),(vI 198 0),(vS "/claim/cut.py" 695)]
abbrev o403:Obj:=(Obj.mk (vT "function") none (Data.func (FuncData.mk (Str.ofString "take_frame") (Str.ofString "FrameBuffer.take_frame") (fP (kd 19 5)) (.stmts (fB (kd 19 5))) (fS (kd 19 5)) 3 [] vN vN vN (vS "h2.frame_buffer" 620) none (vR 326) vN 0)) #[])
abbrev o404:Obj:=oQ "tuple" #[(vS "_data" 697),(vS "_headers_buffer" 698),(vS "_preamble" 699),(vS "_preamble_len" 700),(vS "max_frame_size" 701)]
abbrev o405:Obj:=oD #[(e26 P),(dE P "__firstlineno__" 635 (vI 140 634)),(dE P "__init__" 643 (vR 292)),(dE P "add_data" 655 (vR 299)),(e45 P),(dE P "_update_header_buffer" 675 (vR 313)),(dE P "__iter__" 684 (vR 320)),(dE P "take_frame" 696 (vR 327)),(dE P "__static_attributes__" 702 (vR 328)),(dE P "__dict__" 704 (vR 331)),(dE P "__weakref__" 706 (vR 332)),(dE P "__doc__" 707 vN)] 4
abbrev o406:Obj:=(Obj.mk (vT "type") none (Data.cls (ClassData.mk (Str.ofString "FrameBuffer") [(vT "object")] [(vR 330),(vT "object")] 329 (Str.ofString "FrameBuffer") Bool.true [] [] Bool.false none Bool.false)) #[none,none,(some (vS "FrameBuffer" 624)),(some (vS "FrameBuffer" 632)),(some (vB "object.__new__")),(some (Value.bool Bool.true))])
abbrev o407:Obj:=oF (vT "getset_descriptor") #[(vS "__dict__" 703),(vR 330),(vB "function.__dict__"),(vB "function.__dict__#set")]
abbrev o408:Obj:=oF (vT "getset_descriptor") #[(vS "__weakref__" 705),(vR 330),(vB "ExceptionGroup.__weakref__"),vN]
abbrev o409:Obj:=oF (vT "super") #[(vR 330),(vR 330),(vR 330)]
abbrev o410:Obj:=oF (vT "builtin_function_or_method") #[(vB "object.__init_subclass__"),(vR 330)]
abbrev T410:BT:=upd (T351 P) [(3,o352 P),(12,o353),(278,o43),(279,o53),(280,o356 P),(281,o43),(282,o358),(283,o359),(284,o360),(285,o361),(286,o43),(287,o44),(288,o364),(289,o43),(290,o366),(291,o367),(292,o368),(293,o43),(294,o44),(295,o371),(296,o43),(297,o373),(298,o374),(299,o375),(300,o43),(301,o44),(302,o378),(303,o43),(304,o380),(305,o381),(306,o382),(307,o43),(308,o384 P),(309,o385),(310,o43),(311,o387),(312,o388 P),(313,o389),(314,o43),(315,o44),(316,o392),(317,o43),(318,o394),(319,o395),(320,o396),(321,o43),(322,o44),(323,o399),(324,o43),(325,o401),(326,o402),(327,o403),(328,o404),(329,o405 P),(330,o406),(331,o407),(332,o408),(333,o409),(334,o410)]
abbrev o411:Obj:=oD #[(dE P "__name__" 165 (vS "law_ix0030_01" 710)),(e10 P),(e6 P),(e0 P),(e9 P),(e3 P),(e5 P),(e1 P),(e7 P),(e2 P),(e4 P),(e14 P),(e11 P),(e12 P),(e13 P),(e15 P),(e16 P),(e17 P),(e18 P),(e20 P),(e21 P),(e22 P),(e25 P),(e24 P),(dE P "FrameBuffer" 709 (vR 330)),(dE P "_law_preface" 713 (Value.bytes #[80,82,73,32,42,32,72,84,84,80,47,50,46,48,13,10,13,10,83,77,13,10,13,10] 712)),(dE P "_law_kinds" 719 (vR 341)),(dE P "_law_bits" 725 (vR 348)),(dE P "_law_big" 731 (vR 353)),(dE P "_law_small" 740 (vR 360)),(dE P "_law_drawn" 746 (vR 365)),(dE P "_law_laid" 757 (vR 372)),(dE P "_law_due" 774 (vR 379)),(dE P "_law_reads" 780 (vR 384)),(dE P "_law_row" 790 (vR 391)),(dE P "_law_fed" 800 (vR 398)),(dE P "law" 806 (vR 403))] 37
abbrev o412:Obj:=oF vN #[(vI 2 0),(vI 0 0),(vR 20),(vI 4 0),(vI 0 0),(vR 33),(vI 6 0),(vI 0 0),(vR 46),(vI 56 0),(vI 0 0),(vR 92),(vI 68 0),(vI 0 0),(vR 122),(vI 79 0),(vI 0 0),(vR 146),(vI 87 0),(vI 0 0),(vR 165),(vI 100 0),(vI 0 0),(vR 187),(vI 110 0),(vI 0 0),(vR 206),(vI 114 0),(vI 0 0),(vR 220),(vI 130 0),(vI 0 0),(vR 234),(vI 132 0),(vI 0 0),(vR 247),(vI 134 0),(vI 0 0),(vR 259),(vI 136 0),(vI 0 0),(vR 271),(vI 140 0),(vI 0 0),(vR 283),(vI 222 0),(vI 0 0),(vR 340),(vI 224 0),(vI 0 0),(vR 347),(vI 226 0),(vI 0 0),(vR 352),(vI 228 0),(vI 0 0),(vR 359),(vI 233 0),(vI 0 0),(vR 364),(vI 249 0),(vI 0 0),(vR 371),(vI 252 0),(vI 0 0),(vR 378),(vI 285 0),(vI 0 0),(vR 383),(vI 305 0),(vI 0 0),(vR 390),(vI 327 0),(vI 0 0),(vR 397),(vI 339 0),(vI 0 0),(vR 402)]
abbrev o417:Obj:=(Obj.mk vN none (Data.func (FuncData.mk (Str.ofString "_law_kinds") (Str.ofString "_law_kinds") (Arguments.mk [] [] none [] [] none []) (.stmts (fB (tp 22))) (fS (tp 22)) 0 [] vN vN vN vN none vN vN 0)) #[])
abbrev o418:Obj:=oF (vT "code") #[(vS "_law_kinds" 714),(vS "_law_kinds" 715),(vS "/claim/cut.py" 716),(vI 222 0),(vI 0 0),(vI 0 0),(vI 0 0),(vI 3 0),(vR 335),(Value.bool Bool.true),(vI 181 0),(vR 336),vN,(vR 337),(vR 338),(vR 339),(vI 717 0),(vI 222 0),(vS "/claim/cut.py" 718)]
abbrev o419:Obj:=(Obj.mk (vT "function") none (Data.func (FuncData.mk (Str.ofString "_law_kinds") (Str.ofString "_law_kinds") (Arguments.mk [] [] none [] [] none []) (.stmts (fB (tp 22))) (fS (tp 22)) 3 [] vN vN vN (vS "law_ix0030_01" 710) none (vR 340) vN 0)) #[])
abbrev o424:Obj:=(Obj.mk vN none (Data.func (FuncData.mk (Str.ofString "_law_bits") (Str.ofString "_law_bits") (Arguments.mk [] [] none [] [] none []) (.stmts (fB (tp 23))) (fS (tp 23)) 0 [] vN vN vN vN none vN vN 0)) #[])
abbrev o425:Obj:=oF (vT "code") #[(vS "_law_bits" 720),(vS "_law_bits" 721),(vS "/claim/cut.py" 722),(vI 224 0),(vI 0 0),(vI 0 0),(vI 0 0),(vI 3 0),(vR 342),(Value.bool Bool.true),(vI 181 0),(vR 343),vN,(vR 344),(vR 345),(vR 346),(vI 723 0),(vI 224 0),(vS "/claim/cut.py" 724)]
abbrev o426:Obj:=(Obj.mk (vT "function") none (Data.func (FuncData.mk (Str.ofString "_law_bits") (Str.ofString "_law_bits") (Arguments.mk [] [] none [] [] none []) (.stmts (fB (tp 23))) (fS (tp 23)) 3 [] vN vN vN (vS "law_ix0030_01" 710) none (vR 347) vN 0)) #[])
abbrev o429:Obj:=(Obj.mk vN none (Data.func (FuncData.mk (Str.ofString "_law_big") (Str.ofString "_law_big") (fP (tp 24)) (.stmts (fB (tp 24))) (fS (tp 24)) 0 [] vN vN vN vN none vN vN 0)) #[])
abbrev o430:Obj:=oF (vT "code") #[(vS "_law_big" 726),(vS "_law_big" 727),(vS "/claim/cut.py" 728),(vI 226 0),(vI 2 0),(vI 0 0),(vI 0 0),(vI 3 0),(vR 349),(Value.bool Bool.true),(vI 181 0),(vR 350),vN,vN,vN,(vR 351),(vI 729 0),(vI 226 0),(vS "/claim/cut.py" 730)]
abbrev o431:Obj:=(Obj.mk (vT "function") none (Data.func (FuncData.mk (Str.ofString "_law_big") (Str.ofString "_law_big") (fP (tp 24)) (.stmts (fB (tp 24))) (fS (tp 24)) 3 [] vN vN vN (vS "law_ix0030_01" 710) none (vR 352) vN 0)) #[])
abbrev o434:Obj:=oQ "tuple" #[(vS "octets" 735),(vS "number" 736),(vS "octet" 737)]
abbrev o436:Obj:=(Obj.mk vN none (Data.func (FuncData.mk (Str.ofString "_law_small") (Str.ofString "_law_small") (fP (tp 25)) (.stmts (fB (tp 25))) (fS (tp 25)) 0 [] vN vN vN vN none vN vN 0)) #[])
abbrev o437:Obj:=oF (vT "code") #[(vS "_law_small" 732),(vS "_law_small" 733),(vS "/claim/cut.py" 734),(vI 228 0),(vI 1 0),(vI 0 0),(vI 0 0),(vI 3 0),(vR 354),(Value.bool Bool.true),(vI 181 0),(vR 355),vN,(vR 356),(vR 357),(vR 358),(vI 738 0),(vI 228 0),(vS "/claim/cut.py" 739)]
abbrev o438:Obj:=(Obj.mk (vT "function") none (Data.func (FuncData.mk (Str.ofString "_law_small") (Str.ofString "_law_small") (fP (tp 25)) (.stmts (fB (tp 25))) (fS (tp 25)) 3 [] vN vN vN (vS "law_ix0030_01" 710) none (vR 359) vN 0)) #[])
abbrev o441:Obj:=(Obj.mk vN none (Data.func (FuncData.mk (Str.ofString "_law_drawn") (Str.ofString "_law_drawn") (fP (tp 26)) (.stmts (fB (tp 26))) (fS (tp 26)) 0 [] vN vN vN vN none vN vN 0)) #[])
abbrev o442:Obj:=oF (vT "code") #[(vS "_law_drawn" 741),(vS "_law_drawn" 742),(vS "/claim/cut.py" 743),(vI 233 0),(vI 2 0),(vI 0 0),(vI 0 0),(vI 3 0),(vR 361),(Value.bool Bool.true),(vI 181 0),(vR 362),vN,vN,vN,(vR 363),(vI 744 0),(vI 233 0),(vS "/claim/cut.py" 745)]
abbrev o443:Obj:=(Obj.mk (vT "function") none (Data.func (FuncData.mk (Str.ofString "_law_drawn") (Str.ofString "_law_drawn") (fP (tp 26)) (.stmts (fB (tp 26))) (fS (tp 26)) 3 [] vN vN vN (vS "law_ix0030_01" 710) none (vR 364) vN 0)) #[])
abbrev o446:Obj:=oQ "tuple" #[(vS "kind" 750),(vS "bits" 751),(vS "stream" 752),(vS "body" 753),(vS "reserved" 754)]
abbrev o448:Obj:=(Obj.mk vN none (Data.func (FuncData.mk (Str.ofString "_law_laid") (Str.ofString "_law_laid") (fP (tp 27)) (.stmts (fB (tp 27))) (fS (tp 27)) 0 [] vN vN vN vN none vN vN 0)) #[])
abbrev o449:Obj:=oF (vT "code") #[(vS "_law_laid" 747),(vS "_law_laid" 748),(vS "/claim/cut.py" 749),(vI 249 0),(vI 4 0),(vI 0 0),(vI 0 0),(vI 3 0),(vR 366),(Value.bool Bool.true),(vI 181 0),(vR 367),vN,(vR 368),(vR 369),(vR 370),(vI 755 0),(vI 249 0),(vS "/claim/cut.py" 756)]
abbrev o450:Obj:=(Obj.mk (vT "function") none (Data.func (FuncData.mk (Str.ofString "_law_laid") (Str.ofString "_law_laid") (fP (tp 27)) (.stmts (fB (tp 27))) (fS (tp 27)) 3 [] vN vN vN (vS "law_ix0030_01" 710) none (vR 371) vN 0)) #[])
abbrev o453:Obj:=oQ "tuple" #[(vS "kind" 761),(vS "bits" 762),(vS "stream" 763),(vS "body" 764),(vS "bound" 765),(vS "padded" 766),(vS "weighed" 767),(vS "data" 768),(vS "more" 769),(vS "size" 770),(vS "ends" 771)]
abbrev o455:Obj:=(Obj.mk vN none (Data.func (FuncData.mk (Str.ofString "_law_due") (Str.ofString "_law_due") (fP (tp 28)) (.stmts (fB (tp 28))) (fS (tp 28)) 0 [] vN vN vN vN none vN vN 0)) #[])
abbrev o456:Obj:=oF (vT "code") #[(vS "_law_due" 758),(vS "_law_due" 759),(vS "/claim/cut.py" 760),(vI 252 0),(vI 5 0),(vI 0 0),(vI 0 0),(vI 3 0),(vR 373),(Value.bool Bool.true),(vI 181 0),(vR 374),vN,(vR 375),(vR 376),(vR 377),(vI 772 0),(vI 252 0),(vS "/claim/cut.py" 773)]
abbrev o457:Obj:=(Obj.mk (vT "function") none (Data.func (FuncData.mk (Str.ofString "_law_due") (Str.ofString "_law_due") (fP (tp 28)) (.stmts (fB (tp 28))) (fS (tp 28)) 3 [] vN vN vN (vS "law_ix0030_01" 710) none (vR 378) vN 0)) #[])
abbrev o460:Obj:=(Obj.mk vN none (Data.func (FuncData.mk (Str.ofString "_law_reads") (Str.ofString "_law_reads") (fP (tp 29)) (.stmts (fB (tp 29))) (fS (tp 29)) 0 [] vN vN vN vN none vN vN 0)) #[])
abbrev o461:Obj:=oF (vT "code") #[(vS "_law_reads" 775),(vS "_law_reads" 776),(vS "/claim/cut.py" 777),(vI 285 0),(vI 3 0),(vI 0 0),(vI 0 0),(vI 3 0),(vR 380),(Value.bool Bool.true),(vI 181 0),(vR 381),vN,vN,vN,(vR 382),(vI 778 0),(vI 285 0),(vS "/claim/cut.py" 779)]
abbrev o462:Obj:=(Obj.mk (vT "function") none (Data.func (FuncData.mk (Str.ofString "_law_reads") (Str.ofString "_law_reads") (fP (tp 29)) (.stmts (fB (tp 29))) (fS (tp 29)) 3 [] vN vN vN (vS "law_ix0030_01" 710) none (vR 383) vN 0)) #[])
abbrev o465:Obj:=oQ "tuple" #[(vS "frame" 784),(vS "kind" 785),(vS "more" 786),(vS "flags" 787)]
abbrev o467:Obj:=(Obj.mk vN none (Data.func (FuncData.mk (Str.ofString "_law_row") (Str.ofString "_law_row") (fP (tp 30)) (.stmts (fB (tp 30))) (fS (tp 30)) 0 [] vN vN vN vN none vN vN 0)) #[])
abbrev o468:Obj:=oF (vT "code") #[(vS "_law_row" 781),(vS "_law_row" 782),(vS "/claim/cut.py" 783),(vI 305 0),(vI 1 0),(vI 0 0),(vI 0 0),(vI 3 0),(vR 385),(Value.bool Bool.true),(vI 181 0),(vR 386),vN,(vR 387),(vR 388),(vR 389),(vI 788 0),(vI 305 0),(vS "/claim/cut.py" 789)]
abbrev o469:Obj:=(Obj.mk (vT "function") none (Data.func (FuncData.mk (Str.ofString "_law_row") (Str.ofString "_law_row") (fP (tp 30)) (.stmts (fB (tp 30))) (fS (tp 30)) 3 [] vN vN vN (vS "law_ix0030_01" 710) none (vR 390) vN 0)) #[])
abbrev o472:Obj:=oQ "tuple" #[(vS "buffer" 794),(vS "part" 795),(vS "seen" 796),(vS "frame" 797)]
abbrev o474:Obj:=(Obj.mk vN none (Data.func (FuncData.mk (Str.ofString "_law_fed") (Str.ofString "_law_fed") (fP (tp 31)) (.stmts (fB (tp 31))) (fS (tp 31)) 0 [] vN vN vN vN none vN vN 0)) #[])
abbrev o475:Obj:=oF (vT "code") #[(vS "_law_fed" 791),(vS "_law_fed" 792),(vS "/claim/cut.py" 793),(vI 327 0),(vI 3 0),(vI 0 0),(vI 0 0),(vI 3 0),(vR 392),(Value.bool Bool.true),(vI 181 0),(vR 393),vN,(vR 394),(vR 395),(vR 396),(vI 798 0),(vI 327 0),(vS "/claim/cut.py" 799)]
abbrev o476:Obj:=(Obj.mk (vT "function") none (Data.func (FuncData.mk (Str.ofString "_law_fed") (Str.ofString "_law_fed") (fP (tp 31)) (.stmts (fB (tp 31))) (fS (tp 31)) 3 [] vN vN vN (vS "law_ix0030_01" 710) none (vR 397) vN 0)) #[])
abbrev o479:Obj:=(Obj.mk vN none (Data.func (FuncData.mk (Str.ofString "law") (Str.ofString "law") (fP (tp 32)) (.stmts (fB (tp 32))) (fS (tp 32)) 0 [] vN vN vN vN none vN vN 0)) #[])
abbrev o480:Obj:=oF (vT "code") #[(vS "law" 801),(vS "law" 802),(vS "/claim/cut.py" 803),(vI 339 0),(vI 1 0),(vI 0 0),(vI 0 0),(vI 3 0),(vR 399),(Value.bool Bool.true),(vI 181 0),(vR 400),vN,vN,vN,(vR 401),(vI 804 0),(vI 339 0),(vS "/claim/cut.py" 805)]
abbrev o481:Obj:=(Obj.mk (vT "function") none (Data.func (FuncData.mk (Str.ofString "law") (Str.ofString "law") (fP (tp 32)) (.stmts (fB (tp 32))) (fS (tp 32)) 3 [] vN vN vN (vS "law_ix0030_01" 710) none (vR 402) vN 0)) #[])
abbrev T481:BT:=upd (T410 P) [(3,o411 P),(12,o412),(335,o43),(336,o44),(337,o43),(338,o43),(339,o417),(340,o418),(341,o419),(342,o43),(343,o44),(344,o43),(345,o43),(346,o424),(347,o425),(348,o426),(349,o43),(350,o44),(351,o429),(352,o430),(353,o431),(354,o43),(355,o44),(356,o434),(357,o43),(358,o436),(359,o437),(360,o438),(361,o43),(362,o44),(363,o441),(364,o442),(365,o443),(366,o43),(367,o44),(368,o446),(369,o43),(370,o448),(371,o449),(372,o450),(373,o43),(374,o44),(375,o453),(376,o43),(377,o455),(378,o456),(379,o457),(380,o43),(381,o44),(382,o460),(383,o461),(384,o462),(385,o43),(386,o44),(387,o465),(388,o43),(389,o467),(390,o468),(391,o469),(392,o43),(393,o44),(394,o472),(395,o43),(396,o474),(397,o475),(398,o476),(399,o43),(400,o44),(401,o479),(402,o480),(403,o481)]
noncomputable abbrev H482:Heap:=⟨⟨[PySem.W.boot_o_0 P,PySem.W.boot_o_1 P,o291 P,o411 P,PySem.W.boot_o_4 P,PySem.W.boot_o_5 P,PySem.W.boot_o_6 P,PySem.W.boot_o_7 P,PySem.W.boot_o_8 P,PySem.W.boot_o_9 P,PySem.W.boot_o_10 P,o43,o412,o45,o46,o52,o53,o54 P,o43,o44,o57,o58,o43,o60 P,o61,o62,o63,o64,o52,o53,o70 P,o43,o44,o73,o74,o43,o76 P,o77,o78,o79,o80,o43,o53,o85 P,o43,o87,o88,o89,o90,o43,o44,o93,o43,o95,o96,o97,o43,o44,o100,o43,o102,o103,o104,o105 P,o106,o107,o43,o44,o110,o43,o112,o113,o114,o43,o44,o117,o43,o119,o120,o121,o122,o123 P,o260,o125,o126,o127,o128,o132,o53,o134 P,o43,o136,o137,o138,o139,o140,o141,o43,o44,o144,o43,o146,o147,o148,o43,o44,o151,o43,o153,o154,o155,o156,o157,o158 P,o159,o160,o161,o132,o53,o167 P,o43,o169,o170,o171,o172,o173,o174,o175,o176,o43,o44,o179,o43,o181,o182,o183,o184,o185 P,o186,o187,o188,o132,o53,o194 P,o43,o196,o197,o198,o43,o44,o201,o43,o203,o204,o205,o206,o207 P,o208,o209,o210,o132,o53,o216 P,o43,o218,o219,o220,o221,o222,o223,o43,o44,o226,o43,o228,o229,o230,o231,o232 P,o233,o234,o235,o132,o53,o241 P,o43,o243,o244,o245,o43,o44,o248,o43,o250,o251,o252,o253,o254 P,o255,o256,o257,o132,o53,o263 P,o43,o44,o266,o267,o268,o269,o43,o271 P,o272,o273,o274,o43,o53,o279 P,o43,o44,o282,o283,o43,o285 P,o286,o287,o288,o289,o290,o52,o53,o296 P,o43,o44,o299,o300,o43,o302 P,o309,o304,o305,o306,o310,o53,o312 P,o43,o44,o315,o316,o43,o318 P,o339,o320,o321,o325,o53,o327 P,o43,o44,o330,o331,o43,o333 P,o334,o335,o336,o325,o53,o342 P,o43,o44,o345,o346,o43,o348 P,o349,o350,o351,o43,o53,o356 P,o43,o358,o359,o360,o361,o43,o44,o364,o43,o366,o367,o368,o43,o44,o371,o43,o373,o374,o375,o43,o44,o378,o43,o380,o381,o382,o43,o384 P,o385,o43,o387,o388 P,o389,o43,o44,o392,o43,o394,o395,o396,o43,o44,o399,o43,o401,o402,o403,o404,o405 P,o406,o407,o408,o409,o410,o43,o44,o43,o43,o417,o418,o419,o43,o44,o43,o43,o424,o425,o426,o43,o44,o429,o430,o431,o43,o44,o434,o43,o436,o437,o438,o43,o44,o441,o442,o443,o43,o44,o446,o43,o448,o449,o450,o43,o44,o453,o43,o455,o456,o457,o43,o44,o460,o461,o462,o43,o44,o465,o43,o467,o468,o469,o43,o44,o472,o43,o474,o475,o476,o43,o44,o479,o480,o481]⟩,{}⟩
noncomputable abbrev kAs:List Addr:=[2,3,4,15,22,23,24,25,28,35,36,37,38,48,49,51,52,54,55,56,58,59,61,62,63,64,65,66,68,69,71,72,73,75,76,78,79,80,81,82,83,84,87,94,95,96,97,99,100,102,103,104,106,107,109,110,111,112,113,114,117,124,125,126,127,128,129,131,132,134,135,136,137,138,141,148,150,151,153,154,155,156,157,160,167,168,169,170,172,173,175,176,177,178,179,182,189,191,192,194,195,196,197,198,201,208,209,210,211,212,229,236,237,238,239,242,249,250,251,254,261,262,263,266,273,274,275,285,286,288,289,291,292,293,295,296,298,299,300,302,303,305,306,307,309,310,312,313,314,316,317,319,320,321,323,324,326,327,328,329,330,331,332,335,337,338,340,341,342,344,345,347,348,349,352,353,354,356,357,359,360,361,364,365,366,368,369,371,372,373,375,376,378,379,380,383,384,385,387,388,390,391,392,394,395,397,398,399,402,403]
noncomputable abbrev K39:Frag:=[(2,o291 P),(3,o411 P),(4,PySem.W.boot_o_4 P),(15,o52),(22,o43),(23,o60 P),(24,o61),(25,o62),(28,o52),(35,o43),(36,o76 P),(37,o77),(38,o78),(48,o90),(49,o43),(51,o93),(52,o43),(54,o96),(55,o97),(56,o43),(58,o100),(59,o43),(61,o103),(62,o104),(63,o105 P),(64,o106),(65,o107),(66,o43),(68,o110),(69,o43),(71,o113),(72,o114),(73,o43),(75,o117),(76,o43),(78,o120),(79,o121),(80,o122),(81,o123 P),(82,o260),(83,o125),(84,o126),(87,o132),(94,o139),(95,o140),(96,o141),(97,o43),(99,o144),(100,o43),(102,o147),(103,o148),(104,o43),(106,o151),(107,o43),(109,o154),(110,o155),(111,o156),(112,o157),(113,o158 P),(114,o159),(117,o132),(124,o172),(125,o173),(126,o174),(127,o175),(128,o176),(129,o43),(131,o179),(132,o43),(134,o182),(135,o183),(136,o184),(137,o185 P),(138,o186),(141,o132),(148,o43),(150,o201),(151,o43),(153,o204),(154,o205),(155,o206),(156,o207 P),(157,o208),(160,o132),(167,o221),(168,o222),(169,o223),(170,o43),(172,o226),(173,o43),(175,o229),(176,o230),(177,o231),(178,o232 P),(179,o233),(182,o132),(189,o43),(191,o248),(192,o43),(194,o251),(195,o252),(196,o253),(197,o254 P),(198,o255),(201,o132),(208,o268),(209,o269),(210,o43),(211,o271 P),(212,o272),(229,o52),(236,o43),(237,o302 P),(238,o309),(239,o304),(242,o310),(249,o43),(250,o318 P),(251,o339),(254,o325),(261,o43),(262,o333 P),(263,o334),(266,o325),(273,o43),(274,o348 P),(275,o349),(285,o361),(286,o43),(288,o364),(289,o43),(291,o367),(292,o368),(293,o43),(295,o371),(296,o43),(298,o374),(299,o375),(300,o43),(302,o378),(303,o43),(305,o381),(306,o382),(307,o43),(309,o385),(310,o43),(312,o388 P),(313,o389),(314,o43),(316,o392),(317,o43),(319,o395),(320,o396),(321,o43),(323,o399),(324,o43),(326,o402),(327,o403),(328,o404),(329,o405 P),(330,o406),(331,o407),(332,o408),(335,o43),(337,o43),(338,o43),(340,o418),(341,o419),(342,o43),(344,o43),(345,o43),(347,o425),(348,o426),(349,o43),(352,o430),(353,o431),(354,o43),(356,o434),(357,o43),(359,o437),(360,o438),(361,o43),(364,o442),(365,o443),(366,o43),(368,o446),(369,o43),(371,o449),(372,o450),(373,o43),(375,o453),(376,o43),(378,o456),(379,o457),(380,o43),(383,o461),(384,o462),(385,o43),(387,o465),(388,o43),(390,o468),(391,o469),(392,o43),(394,o472),(395,o43),(397,o475),(398,o476),(399,o43),(402,o480),(403,o481)]
noncomputable abbrev env0:Env:={ scope:=prog.main.scope,locals:=mainNs,globals:=mainNs,cells:=[],code:=.ref 13,frame:=some 14 }
noncomputable abbrev cE:Code:=.body (behindTheImports prog) env0
noncomputable abbrev p0:Pos:=⟨0,0,0,0⟩
noncomputable abbrev stT (T:Params→BT) (n tk:Nat) (w:World) (os:OsState):SharedT:={ tree:=T w.params,n:=n,life:={},gens:=#[],drawn:={},toks:=tk,os:=os }
noncomputable abbrev qcl (a k:Nat):List Stmt:=((behindTheImports prog).drop a).take k
def seg (n:Nat) (T T':Params→BT) (m m' tk tk' a k:Nat) (p p':Pos):Prop :=
 ∀ w os,segRun treeTable prog w 11 (some (.ref 6)) 1 n (stT T m tk w os).abs (piecesOf (qcl a k) env0 cE p [topFrame p0])=some (.next,(stT T' m' tk' w os).abs,cE,p')
theorem qbi {n:Nat}{T T':Params→BT}{m m' tk tk' a k:Nat}{p p':Pos}
 (h:∀ w os,PySem.W.Fast.tw10110043849684766642 PySem.W.Fast.tw14364793385576792824 prog w 11 (some (.ref 6)) 1 n (stT T m tk w os) (piecesOf (qcl a k) env0 cE p [topFrame p0])=some (.next,stT T' m' tk' w os,cE,p')) :
 seg n T T' m m' tk tk' a k p p':=fun w os=>segRun_of (by rw [PySem.W.Fast.te10110043849684766642,PySem.W.Fast.te14364793385576792824];exact h w os)
theorem g64:seg 206 T47 T64 15 28 187 209 0 2 (Pos.mk 0 0 0 0) (Pos.mk 2 0 3 8):=qbi fun w os=>by kernel_rfl
theorem g80:seg 197 T64 T80 28 41 209 229 2 1 (Pos.mk 2 0 3 8) (Pos.mk 4 0 5 8):=qbi fun w os=>by kernel_rfl
theorem g128:seg 480 T80 T128 41 87 229 304 3 1 (Pos.mk 4 0 5 8) (Pos.mk 6 0 55 50):=qbi fun w os=>by kernel_rfl
theorem g161:seg 365 T128 T161 87 117 304 344 4 1 (Pos.mk 6 0 55 50) (Pos.mk 56 0 67 29):=qbi fun w os=>by kernel_rfl
theorem g188:seg 284 T161 T188 117 141 344 380 5 1 (Pos.mk 56 0 67 29) (Pos.mk 68 0 78 24):=qbi fun w os=>by kernel_rfl
theorem g210:seg 266 T188 T210 141 160 380 409 6 1 (Pos.mk 68 0 78 24) (Pos.mk 79 0 86 53):=qbi fun w os=>by kernel_rfl
theorem g235:seg 287 T210 T235 160 182 409 444 7 1 (Pos.mk 79 0 86 53) (Pos.mk 87 0 99 28):=qbi fun w os=>by kernel_rfl
theorem g257:seg 266 T235 T257 182 201 444 473 8 1 (Pos.mk 87 0 99 28) (Pos.mk 100 0 109 71):=qbi fun w os=>by kernel_rfl
theorem g274:seg 248 T257 T274 201 215 473 496 9 2 (Pos.mk 100 0 109 71) (Pos.mk 113 0 113 8):=qbi fun w os=>by kernel_rfl
theorem g290:seg 339 T274 T290 215 229 496 546 11 2 (Pos.mk 113 0 113 8) (Pos.mk 129 0 129 8):=qbi fun w os=>by kernel_rfl
theorem g306:seg 197 T290 T306 229 242 546 566 13 1 (Pos.mk 129 0 129 8) (Pos.mk 130 0 131 8):=qbi fun w os=>by kernel_rfl
theorem g321:seg 238 T306 T321 242 254 566 584 14 1 (Pos.mk 130 0 131 8) (Pos.mk 132 0 133 42):=qbi fun w os=>by kernel_rfl
theorem g336:seg 252 T321 T336 254 266 584 602 15 1 (Pos.mk 132 0 133 42) (Pos.mk 134 0 135 44):=qbi fun w os=>by kernel_rfl
theorem g351:seg 270 T336 T351 266 278 602 624 16 3 (Pos.mk 134 0 135 44) (Pos.mk 139 0 139 20):=qbi fun w os=>by kernel_rfl
theorem g410:seg 401 T351 T410 278 335 624 710 19 1 (Pos.mk 139 0 139 20) (Pos.mk 140 0 219 32):=qbi fun w os=>by kernel_rfl
theorem g481:seg 346 T410 T481 335 404 710 807 20 13 (Pos.mk 140 0 219 32) (Pos.mk 339 0 379 15):=qbi fun w os=>by kernel_rfl
noncomputable abbrev steps:Nat:=Nat.add 12 (Nat.add 1 (Nat.add 206 (Nat.add 197 (Nat.add 480 (Nat.add 365 (Nat.add 284 (Nat.add 266 (Nat.add 287 (Nat.add 266 (Nat.add 248 (Nat.add 339 (Nat.add 197 (Nat.add 238 (Nat.add 252 (Nat.add 270 (Nat.add 401 (Nat.add 346 2)))))))))))))))))
noncomputable abbrev S0 (w:World) (os:OsState):Shared:=⟨boot_heap w.params,#[],boot_drawn,boot_toks,os⟩
noncomputable abbrev Sz (w:World) (os:OsState):Shared:=⟨H482 w.params,#[],{},807,os⟩
noncomputable abbrev thB:Thread:=⟨denote treeTable cE,cE,p0,[topFrame p0]⟩
end
theorem g_pre (w:World) (os:OsState):topGo treeTable prog w 11 (some (.ref 6)) 12 (S0 w os) (topStub prog)=some (⟨absHeap (T47 w.params) 15 {},#[],{},187,os⟩,thB):=by
 unfold thB
 rw [PySem.W.Fast.te15667345088766844465,PySem.W.Fast.te14364793385576792824,PySem.W.Fast.te11892475500146522536]
 kernel_rfl
theorem g_block (w:World) (os:OsState):segRun treeTable prog w 11 (some (.ref 6)) 1 1 ⟨absHeap (T47 w.params) 15 {},#[],{},187,os⟩ (blockOf (behindTheImports prog) env0 cE p0 [topFrame p0])=some (.next,(stT T47 15 187 w os).abs,cE,p0):=by
 rw [PySem.W.Fast.te14374325043358763698,PySem.W.Fast.te14364793385576792824]
 kernel_rfl
theorem g_fin (w:World) (os:OsState):topRun treeTable prog w 11 (some (.ref 6)) 2 (stT T481 404 807 w os).abs ⟨doneF .next,cE,(Pos.mk 339 0 379 15),[topFrame p0]⟩=some (Sz w os):=by
 rw [PySem.W.Fast.te14082659384304107361,PySem.W.Fast.te14364793385576792824]
 kernel_rfl
theorem g_body:behindTheImports prog=qcl 0 2++(qcl 2 1++(qcl 3 1++(qcl 4 1++(qcl 5 1++(qcl 6 1++(qcl 7 1++(qcl 8 1++(qcl 9 2++(qcl 11 2++(qcl 13 1++(qcl 14 1++(qcl 15 1++(qcl 16 3++(qcl 19 1++(qcl 20 13++[]))))))))))))))):=by kernel_rfl
theorem g_rest (w:World) (os:OsState):topRun treeTable prog w 11 (some (.ref 6)) (Nat.add 206 (Nat.add 197 (Nat.add 480 (Nat.add 365 (Nat.add 284 (Nat.add 266 (Nat.add 287 (Nat.add 266 (Nat.add 248 (Nat.add 339 (Nat.add 197 (Nat.add 238 (Nat.add 252 (Nat.add 270 (Nat.add 401 (Nat.add 346 2)))))))))))))))) (stT T47 15 187 w os).abs (restOf (behindTheImports prog) env0 cE p0 [topFrame p0])=some (Sz w os) :=
 g_body ▸ (piece_app (g64 w os) (piece_app (g80 w os) (piece_app (g128 w os) (piece_app (g161 w os) (piece_app (g188 w os) (piece_app (g210 w os) (piece_app (g235 w os) (piece_app (g257 w os) (piece_app (g274 w os) (piece_app (g290 w os) (piece_app (g306 w os) (piece_app (g321 w os) (piece_app (g336 w os) (piece_app (g351 w os) (piece_app (g410 w os) (piece_app (g481 w os) (piece_nil (g_fin w os))))))))))))))))))
theorem g_run (w:World) (os:OsState):topRun treeTable prog w 11 (some (.ref 6)) steps (S0 w os) (topStub prog)=some (Sz w os) :=
 go_top (g_pre w os) (piece_block (g_block w os) (g_rest w os))
end
section
open PySem.W.X
set_option maxHeartbeats 0
noncomputable abbrev vw:Program:={ prog with main:={ prog.main with body:=[tp 32] } }
noncomputable abbrev qbr:List Str:=["InvalidFrameError","InvalidDataError","Frame","DataFrame","HeadersFrame","RstStreamFrame","PushPromiseFrame","WindowUpdateFrame","ContinuationFrame","ErrorCodes","H2Error","ProtocolError","FrameTooLargeError","FrameDataMissingError","CONTINUATION_BACKLOG","FrameBuffer","_law_preface","_law_kinds","_law_bits","_law_big","_law_small","_law_drawn","_law_laid","_law_due","_law_reads","_law_row","_law_fed"].map Str.ofString
noncomputable abbrev K39x (P:Params):Frag:=(308,o384 P)::K39 P
noncomputable abbrev kAx:List Addr:=308::kAs
noncomputable def hook:Hook:=kHook K39x kAx (fun P=>by kernel_rfl)
noncomputable abbrev xt:Shared→Bool:=fun s=>PySem.W.xlAt vw [] s && PySem.W.recOk PySem.Challenge.rw_ix0030_01.row.records s
theorem k_size (w:World):((boot_heap w.params).isNs mainGlobals && (#[]:Array GenState).size == 0,(boot_heap w.params).objs.size,(boot_heap w.params).nsMap mainGlobals "__annotations__")=(true,11,some (.ref 6)):=by
 rw [PySem.W.Fast.te8920871248978507458]
 kernel_rfl
theorem k1 (w:World) (os:OsState):(staticsOk (importedModules prog.main.body) (boot_heap w.params) (H482 w.params) && namesBound prog (H482 w.params) && gensDone (Sz w os) && laidKept (boot_heap w.params) (H482 w.params))=true:=by
 rw [PySem.W.Fast.te5923862056798008813]
 kernel_rfl
theorem k2 (w:World) (os:OsState):seen ((recsOf vw).map (·.name)) (ownsOf vw) [] { Sz w os with gens:=#[] }=expectedOf vw:=by
 rw [PySem.W.Fast.te5160383126252970620,PySem.W.Fast.te3399658132070893891,PySem.W.Fast.te5991557255702980513]
 kernel_rfl
theorem k3 (w:World) (os:OsState):(Sz w os).heap.bltView=bltViewBooted:=by
 kernel_rfl
theorem k4 (w:World) (os:OsState):((Sz w os).heap.keysOk (looseW vw qbr) ((recsOf vw).map (·.name)) ((litsOf vw).map (·.1)) ((clssOf vw (looseW vw qbr)).map (·.name)) && (Sz w os).heap.accountedOkI (importedModules prog.main.body) && (Sz w os).heap.isNs mainGlobals && (Sz w os).heap.isNs builtinsNs && tablesOk vw (Sz w os).heap && xt (Sz w os) && (if true then (Sz w os).gens.size == 0 else !leftWithCleanup (Sz w os).gens))=true:=by
 rw [PySem.W.Fast.te10880121769531294198,PySem.W.Fast.te821141287760084731,PySem.W.Fast.te3399658132070893891,PySem.W.Fast.te7409074990110511671,PySem.W.Fast.te13664370479719496447,PySem.W.Fast.te14722251495701143533,PySem.W.Fast.te5923862056798008813,PySem.W.Fast.te10994771534591457954]
 kernel_rfl
theorem k5 (w:World) (os:OsState):(tabsOk vw (Sz w os),pinSeenD vw (drecsOf vw) (Sz w os))=(true,pinGoodD (drecsOf vw)):=by
 rw [PySem.W.Fast.te479339242167458305,PySem.W.Fast.te16090120013241838585,PySem.W.Fast.te3247288618530077131]
 kernel_rfl
theorem k6 (w:World) (os:OsState):plainSeenE vw (looseW vw qbr) (Sz w os)=plainGoodE vw (looseW vw qbr):=by
 rw [PySem.W.Fast.te2386780881361962483,PySem.W.Fast.te821141287760084731]
 kernel_rfl
theorem k7 (w:World) (os:OsState):plainSeenD vw qbr (Sz w os)=plainGoodD vw qbr:=by
 rw [PySem.W.Fast.te11698064438423848299]
 kernel_rfl
theorem k8 (w:World) (os:OsState):wideSeen vw (Sz w os)=wideGood vw:=by
 rw [PySem.W.Fast.te7317090234206586261]
 kernel_rfl
theorem k9 (w:World) (os:OsState):clsSeenW vw qbr (Sz w os)=clsGoodW vw qbr:=by
 rw [PySem.W.Fast.te7369524293546568484]
 kernel_rfl
theorem k10 (w:World) (os:OsState):hook.obs (Sz w os)=hook.val w:=by
 kernel_rfl
theorem k_open:opening prog=plainProg prog.main.scope.names:=by kernel_rfl
theorem k_fence (s:Shared):fenceModules? prog s=some s:=by kernel_rfl
theorem k_ok:(chainsOk vw && opensWell PySem.Challenge.rw_ix0030_01.row.prog && (frees PySem.Challenge.rw_ix0030_01.row.toRowW && PySem.Challenge.rw_ix0030_01.row.within.isEmpty))=true:=by decide +kernel
theorem k_tw:PySem.Challenge.rw_ix0030_01.row.prog.tablesWhole=true:=by decide +kernel
end
section
open PySem.W.X
theorem bg {G:Prop} (h:∀ G':Prop,(G→G')→G'):G:=h G id
noncomputable abbrev cal:PySem.Ctx:=⟨.builtin "claim.caller" {},none,none,[],none⟩
def qgm {α:Type} (M:Model) (t:Sem α) (Q:α→Shared→Prop) (E:Value→Shared→Prop) (s:Shared):Prop:=∀ p,Sem.wp M cal t (fun a V s'=>Q a s') (fun e V s'=>E e s') p s
section
variable {α β:Type}{M:Model}{E E':Value→Shared→Prop}{s:Shared}
theorem qfp {t:Sem α}{Q Q':α→Shared→Prop} (h:qgm M t Q E s) (hQ:∀ a s,Q a s→Q' a s) (hE:∀ e s,E e s→E' e s):qgm M t Q' E' s :=
 fun p=>Sem.wp_mono M cal t (fun a V s=>hQ a s) (fun e V s=>hE e s) p s (h p)
theorem qfq {t:Sem α}{f:α→Sem β}{Q:β→Shared→Prop} (h:qgm M t (fun a s'=>qgm M (f a) Q E s') E s):qgm M (t >>= f) Q E s:=fun p=>by
 rw [Sem.wp_bind']
 exact Sem.wp_mono M cal t (fun a p' s' h'=>h' p') (fun V V V h'=>h') p s (h p)
theorem atCal_of {t:Sem α}{Q:α→Shared→Prop} (h:wpAny M callerA t Q E s):qgm M t Q E s:=fun p=>h cal p caller_in
end
theorem ends_at {prog:Program}{w:World}{t:Sem Fin}{s:Shared}{R:Result→Shared→Prop} (hreg:s.asleep)
 (h:qgm (model prog w) t (fun fin s'=>∃ f,fin=.done f∧(R (.ok f) s'∧leftWithCleanup s'.gens=false)) (fun e s'=>R (.error e) s'∧leftWithCleanup s'.gens=false) s) :
 ∃ n r s' s'',runN (denote table) prog w n s ⟨t,.builtin "claim.caller" {},default,[]⟩=.halted (outcomeOf r) s' ∧
  schedN (denote table) prog w n (.single s ⟨t,.builtin "claim.caller" {},default,[]⟩)=.halted (outcomeOf r) s'∧s'.forget=s''.forget∧R r s'':=by
 have key:Sem.wp (model prog w) cal t (Sem.finPost (model prog w) cal fun r s'=>R r s'∧leftWithCleanup s'.gens=false) (fun e V s'=>R (.error e) s'∧leftWithCleanup s'.gens=false) default s :=
  Sem.wp_mono (model prog w) cal t (fun fin p' s' (hf:∃ f,fin=.done f∧(R (.ok f) s'∧leftWithCleanup s'.gens=false))=>by obtain ⟨f,rfl,hf⟩:=hf;exact hf) (fun V V V h=>h) default s (h default)
 obtain ⟨n,r,s₁,s₂,a,b,c,d⟩:=wp_halts_full (M:=model prog w) (R:=R) hreg key
 exact ⟨n,r,s₂,s₁,b,a,c,d⟩
theorem callFrom_at {c:ClaimW}{tree:List Value→Sem Fin}{w:World}{s:Shared}{free:Addr→Prop}{gens:Prop}{kept:Heap→Prop} (hz:s.asleep) (hgens:s.gens=#[])
 (spec:∀ args,c.pre args=true→WData.layableAll args=true→∀ ord:List DictEntry→List DictEntry,(∀ l,(ord l).Perm l) →
  ∃ vs s₁,layAllW c.records (classAt s.heap) w.params ord args s=some (vs,s₁) ∧
   qgm (model c.prog w) (tree vs) (fun fin s'=>∃ f,fin=.done f∧(c.Ends s args vs s₁ (.ok f) s'∧s'.os=s.os∧AllBare s'.gens∧kept s'.heap))
    (fun e s'=>c.Ends s args vs s₁ (.error e) s'∧s'.os=s.os∧AllBare s'.gens∧kept s'.heap) s₁) :
 c.CallFrom (fun vs=>⟨tree vs,.builtin "claim.caller" {},default,[]⟩) w free gens kept s:=fun args hpre hlay ord hord=>by
 refine bg fun G' K=>?_
 obtain ⟨vs,s₁,laid,body⟩:=spec args hpre hlay ord hord
 have rest:=layAllW_rest _ _ _ laid
 have body':=qfp body (Q':=fun fin s'=>∃ f,fin=.done f∧((c.Ends s args vs s₁ (.ok f) s'∧s'.os=s.os∧kept s'.heap)∧leftWithCleanup s'.gens=false)) (E':=fun e s'=>(c.Ends s args vs s₁ (.error e) s'∧s'.os=s.os∧kept s'.heap)∧leftWithCleanup s'.gens=false)
  (fun fin s' h=>by obtain ⟨f,e,h1,h2,h3,h4⟩:=h;exact ⟨f,e,⟨h1,h2,h4⟩,leftWithCleanup_false_of_bare h3⟩) (fun e s' h=>by obtain ⟨h1,h2,h3,h4⟩:=h;exact ⟨⟨h1,h2,h4⟩,leftWithCleanup_false_of_bare h3⟩)
 obtain ⟨k,r,sE,sF,hrun,hsch,hfo,hend,hos,hkp⟩:=ends_at (prog:=c.prog) (w:=w) (R:=fun r s'=>c.Ends s args vs s₁ r s'∧s'.os=s.os∧kept s'.heap) (Shared.asleep_of_life rest.2.2.2 hz) body'
 obtain ⟨eh,_,_,eo,_⟩:=Shared.forget_eq hfo
 have hend:=hend.congr eh
 rw [← eh] at hkp
 rw [← eo] at hos
 have life:sE.heap.life=s.heap.life:=(runN_life _ _ _ hrun).trans rest.2.2.2
 refine K ⟨vs,s₁,laid,k,_,sE,hsch,?_,(fun V i x hx=>by rw [hgens] at hx;simp at hx),hkp,by rw [life],Shared.rest_eq hos⟩
 rcases hend with h | h
 ·obtain ⟨v,rfl,d1,d2,d3,d4,d5⟩:=h
  exact .inl ⟨v,rfl,d1,d2,d3,fun b o y V=>d4 b o y,d5⟩
 ·obtain ⟨e,ob,cls,rfl,d1,d2,d3,d4,d5⟩:=h
  exact .inr ⟨e,ob,cls,rfl,d1,d2,d3,d4,fun b o y V=>d5 b o y⟩
abbrev WalkAt (q:Program) (loose:List Str) (XP:(Str→Option Value)→Heap→Prop) (YP:World→Heap→Prop) (r:RowW) (d:DefRec) (kwd:List (Str×Expr)):Prop :=
 ∀ (w:World) (s₀ s₁:Shared) (mg mb:Str→Option Value),Ground q loose r.records XP w s₀ mg mb s₁.heap→YP w s₁.heap→∀ (a:Addr) (o:Obj) (pm cd doc dV kV:Value),s₁.heap.get? a=some o →
  o.data=.func { docDef d.name d.params d.body d.scope pm cd doc with defaults:=dV,kwdefaults:=kV }→s₁.heap.CodeRec cd d.name→Dflts mg s₁.heap d.params kwd dV kV→mg d.name=some (.ref a)→s₁.gens=#[] →
  ∀ (args:List WData) (vals:List Value) (as:List Addr),r.claim.pre args=true→WData.layableAll args=true→ReadsAllW r.records (classAt s₀.heap) s₁.heap vals args as→WellAll w.params s₁.heap vals args→(∀ a∈as,(a == sysModules)=false)→(YP w s₀.heap∧∀ a∈as,s₀.heap.objs.size≤a) →
   qgm (model r.prog w) (PySem.call (.ref a) vals) (fun v s'=>GoodWG r.claim (classAt s₀.heap) (ExcName.means s₀.heap) args s₁ (.ok (.ret v)) s')
    (fun e s'=>GoodWG r.claim (classAt s₀.heap) (ExcName.means s₀.heap) args s₁ (.error e) s') s₁
theorem holds_at {r:OpenRow}{q:Program}{loose:List Str}{Xt:Shared→Bool}{XP:(Str→Option Value)→Heap→Prop}{α:Type}{Yf:Shared→α}{Ya:World→α}{YP:World→Heap→Prop}{d:DefRec}{kwd:List (Str×Expr)}{N:Nat}
 (left:LeftO r.prog q loose Xt Yf Ya N) (hY:∀ w s,Yf s=Ya w→YP w s.heap) (hYk:∀ w h h',YP w h→(∀ b o,h.get? b=some o→h'.get? b=some o)→YP w h')
 (hX:∀ s,Xt s=true→XP (s.heap.nsMap mainGlobals) s.heap) (hXk:∀ mg h h',XP mg h→(∀ b o,h.get? b=some o→h'.get? b=some o)→XP mg h')
 (hdef:defOf q r.name=some (d,kwd)) (hp:r.prog.theDef r.name=some (d.params,d.body,d.scope)) (hk:kwWritten? d.params.kwonlyargs d.params.kw_defaults=some kwd) (hRf:∀ s,Xt s=true→RecFacts r.records s.heap) (hwr:(!r.writes || r.records.isEmpty)=true)
 (k1:r.wellSaid=true) (ok:(chainsOk q && opensWell r.prog && (frees r.toRowW && r.within.isEmpty))=true) (hb:r.prog.bare) (hw:r.toRowW.promised)
 (walk:WalkAt q loose XP YP r.toRowW d kwd):r.Holds:=by
 obtain ⟨ok1,ok2⟩:=Bool.and_eq_true_iff.mp ok
 obtain ⟨hch,o1⟩:=Bool.and_eq_true_iff.mp ok1
 obtain ⟨fr,wi⟩:=Bool.and_eq_true_iff.mp ok2
 obtain ⟨hsame,hu,ha,hap,hm⟩:=frees_parts fr
 refine ⟨k1,hw,⟨hb,o1,by show r.makers.map _=[];rw [hm];rfl⟩,hw.witness,fun w=>⟨(left.behind hX hch w).1,fun s' hs'=>?_⟩⟩
 obtain ⟨s₀,hf,hg0,s,hT,hz,hgens,hg,G0',y⟩:=(left.behind (XP:=fun mg h=>XP mg h∧RecFacts r.records h) (fun s hs=>⟨hX s hs,hRf s hs⟩) hch w).2 s' hs'
 have G0:Ground q loose [] XP w s (s.heap.nsMap mainGlobals) (s.heap.nsMap builtinsNs) s.heap:=⟨G0'.T,G0'.B,G0'.D,G0'.TE,G0'.TD,G0'.W,G0'.X.1,G0'.cls,G0'.has,G0'.apart,G0'.once,G0'.K⟩
 have RF:=G0'.X.2
 have gens0:s.gens=#[]:=Array.eq_empty_of_size_eq_zero (beq_iff_eq.mp hgens)
 have G:Ground q loose r.records XP w s _ _ s.heap:=RF.ground G0
 refine ⟨s₀,hf,hg0,s,hT,(fun n hn=>?_),RF.1,RF.2.1,callFrom_at (c:=r.toRowW.claim) hz gens0 fun args hpre hlay ord hord=>?_⟩
 ·obtain rfl:n=r.name:=by split at hn <;> simp_all
  exact pinned_of_view hg G0 hdef hp hk
 ·refine bg fun G' KK=>?_
  obtain ⟨⟨vs,s₁⟩,laid⟩:=Option.isSome_iff_exists.mp (layAllW_isSome (P:=w.params) (ord:=ord) G.has args r.args s (pre_splitW hpre).1)
  have keeps:=layAllW_keeps _ _ _ laid
  have rest:=layAllW_rest _ _ _ laid
  obtain ⟨as,reads,hin,hold⟩:=reads_layAllW hord _ _ _ laid hlay s₁.heap (fun V V e=>e)
  have L:Laid r.records w s s₁ args vs as:=⟨⟨ord,hord,laid⟩,reads,hin,hold,keeps,rest.1.trans gens0,rest.2.2.1⟩
  have G1:=G.keeps hXk keeps
  obtain ⟨a,o,pm,cd,doc,dV,kV,h1,h2,h3,h4,h5⟩:=G1.fn hdef
  have run:=walk w s s₁ _ _ G1 (hYk _ _ _ (hY w s y) keeps) a o pm cd doc dV kV h2 h3 h4 h5 (defOf_name hdef ▸ h1) L.gens args vs as hpre hlay L.reads L.well (L.low G.low) ⟨hY w s y,fun a h=>(L.within.2.2 a h).1⟩
  have free:=ident_freeW hu ha hap
  have none_in:r.toRowW.claim.within=[]:=List.isEmpty_iff.mp wi
  have fin:∀ {rr:Result}{sE:Shared},GoodWG r.toRowW.claim (classAt s.heap) (ExcName.means s.heap) args s₁ rr sE→r.toRowW.claim.Ends s args vs s₁ rr sE∧sE.os=s.os∧AllBare sE.gens∧(r.writes=true →
   namesKept r.toRowW.claim.prog r.keeps s.heap sE.heap∧∀ x∈r.toRowW.claim.records,∀ a,classAt s.heap x.1=some a→recordClass sE.heap a x.1 (x.2.map (·.1))=true):=fun {rr sE} g=>by
   have z:=g.laid (c:=r.toRowW.claim) hsame none_in free L
   exact ⟨z.1,z.2.1,z.2.2,fun q=>⟨namesKept_of hT hg r.keeps keeps g.2.1.old,noTable hwr q⟩⟩
  refine KK ⟨vs,s₁,laid,qfq (atCal_of (wpAny_nsGet G1.T.g ?_))⟩
  rw [show s.heap.nsMap mainGlobals r.name=some (.ref a) from h1]
  exact qfq (qfp run (fun v sE g p=>⟨_,rfl,fin g⟩) fun e sE g=>fin g)
end
section
open PySem.W.X
theorem left_of:LeftO prog vw qbr xt hook.obs hook.val 9378 :=
 LeftO.of_pieces (boot_open k_open (by decide +kernel) k_fence) k_size (fun w os=>g_run w os) (by decide +kernel)
  fun w=>funext fun os=>looks_pair (k1 w os) (looks_pair (looks_pair (k2 w os) (looks_pair (k3 w os) (looks_pair (k4 w os) (by
   have h:=k5 w os
   obtain ⟨h1,h2⟩:=Prod.mk.inj h
   exact looks_pair h1 (looks_pair h2 (looks_pair (k6 w os) (looks_pair (k7 w os) (looks_pair (k8 w os) (k9 w os))))))))) (k10 w os))
theorem top {d:DefRec}{kwd:List (Str×Expr)} (hdef:defOf vw PySem.Challenge.rw_ix0030_01.row.toRowW.name=some (d,kwd)) (hp:PySem.Challenge.rw_ix0030_01.row.toRowW.prog.theDef PySem.Challenge.rw_ix0030_01.row.toRowW.name=some (d.params,d.body,d.scope)) (hk:kwWritten? d.params.kwonlyargs d.params.kw_defaults=some kwd)
 (walk:WalkAt vw qbr (XL vw []) hook.says PySem.Challenge.rw_ix0030_01.row.toRowW d kwd):PySem.Challenge.rw_ix0030_01.Holds :=
 holds_law (by decide +kernel) fun said=>holds_at left_of hook.of hook.keeps (fun s e=>PySem.W.xl_of s (Bool.and_eq_true_iff.mp e).left) PySem.W.XL.keeps hdef hp hk (fun s e=>PySem.W.recFacts_of (Bool.and_eq_true_iff.mp e).right) (by rfl) said k_ok ⟨rfl,⟨rfl,⟨rfl,⟨rfl,⟨rfl,k_tw⟩⟩⟩⟩⟩
  (Exists.intro [PySem.W.WData.list []] ⟨by decide +kernel,by decide +kernel⟩) walk
end
section
noncomputable abbrev Cell:=Addr×Obj
noncomputable abbrev lstO (vs:List Value) (n:Nat):Obj:={ cls:=.type "list",data:=.seq vs.toArray n }
noncomputable abbrev baO (b:Array UInt8):Obj:={ cls:=.type "bytearray",data:=.bytearray b }
noncomputable abbrev bI (b:Array UInt8):List Int:=KBw.bInts b
inductive D where
 | none
 | bool (b:Bool)
 | int (i:Int)
 | str (x:Str)
 | bytes (ks:List Int)
 | tup (ds:List D)
 | lst (ds:List D)
 | barr (ks:List Int)
 | val (v:Value)
mutual
inductive DIn (imm:List Cell):Value→D→Prop
 | none:DIn imm Value.none D.none
 | bool (b:Bool):DIn imm (Value.bool b) (D.bool b)
 | int (i:Int) (t:Tok):DIn imm (Value.int i t) (D.int i)
 | str (x:Str) (t:Tok):DIn imm (Value.str x t) (D.str x)
 | bytes {b:Array UInt8}{t:Tok}{ks:List Int}:bI b=ks→DIn imm (Value.bytes b t) (D.bytes ks)
 | tup {a:Addr}{o:Obj}{vs:List Value}{n:Nat}{ds:List D}:(a,o)∈imm→o.cls=.type "tuple"→o.data=.seq vs.toArray n→DAll imm vs ds→DIn imm (Value.ref a) (D.tup ds)
 | lst {a:Addr}{o:Obj}{vs:List Value}{n:Nat}{ds:List D}:(a,o)∈imm→o.cls=.type "list"→o.data=.seq vs.toArray n→DAll imm vs ds→DIn imm (Value.ref a) (D.lst ds)
 | barr {a:Addr}{b:Array UInt8}{ks:List Int}:(a,baO b)∈imm→bI b=ks→DIn imm (Value.ref a) (D.barr ks)
 | val (v:Value):DIn imm v (D.val v)
inductive DAll (imm:List Cell):List Value→List D→Prop
 | nil:DAll imm [] []
 | cons {v:Value}{vs:List Value}{d:D}{ds:List D}:DIn imm v d→DAll imm vs ds→DAll imm (v::vs) (d::ds)
end
theorem DIn.mono {imm imm':List Cell} (hs:imm⊆imm') {v:Value}{d:D} (h:DIn imm v d):DIn imm' v d :=
 DIn.rec (motive_1:=fun v d V=>DIn imm' v d) (motive_2:=fun vs ds V=>DAll imm' vs ds) .none .bool .int .str (fun h=>.bytes h) (fun a b c V i=>.tup (hs a) b c i) (fun a b c V i=>.lst (hs a) b c i) (fun a b=>.barr (hs a) b) .val .nil (fun V V a b=>.cons a b) h
theorem DAll.mono {imm imm':List Cell} (hs:imm⊆imm') {vs:List Value}{ds:List D} (h:DAll imm vs ds):DAll imm' vs ds :=
 DAll.rec (motive_1:=fun v d V=>DIn imm' v d) (motive_2:=fun vs ds V=>DAll imm' vs ds) .none .bool .int .str (fun h=>.bytes h) (fun a b c V i=>.tup (hs a) b c i) (fun a b c V i=>.lst (hs a) b c i) (fun a b=>.barr (hs a) b) .val .nil (fun V V a b=>.cons a b) h
theorem bnd0 {P:List Value→Prop} (k:P []) (vs:List Value) (h:vs.length=0):P vs:=List.length_eq_zero_iff.mp h ▸ k
theorem bndS {P:List Value→Prop}{n:Nat} (k:∀ a (t:List Value),t.length=n→P (a::t)) (vs:List Value) (h:vs.length=n+1):P vs:=by
 cases vs with
 | nil=>cases h
 | cons a t=>exact k a t (Nat.succ.inj h)
theorem dg (x:Int):x / 256 * 256+x % 256=x:=Int.ediv_mul_add_emod x 256
theorem d2 (x:Int):x / 65536=x / 256 / 256:=(Int.ediv_ediv_of_nonneg (x:=x) (y:=256) (z:=256) (by decide)).symm
theorem d3 (x:Int):x / 16777216=x / 256 / 256 / 256:=by rw [← d2];exact (Int.ediv_ediv_of_nonneg (x:=x) (y:=256) (z:=65536) (by decide)).symm
theorem dm {x:Int} (h:0≤x) (k:x<256):x % 256=x:=Int.emod_eq_of_lt h k
theorem dn {x:Int} (h:0≤x):0≤x / 256:=Int.ediv_nonneg h (by decide)
theorem dl {x k:Int} (h:x<k * 256):x / 256<k:=Int.ediv_lt_of_lt_mul (by decide) h
theorem byte4 {a x:Int}{m:Int} (ha:0≤a∧a<m) (hx:0≤x∧x<256):0≤a * 256+x∧a * 256+x<m * 256 :=
 ⟨Int.add_nonneg (Int.mul_nonneg ha.1 (by decide)) hx.1,Int.lt_of_lt_of_le (Int.add_lt_add_left hx.2 _) (by
  have:=Int.mul_le_mul_of_nonneg_right (Int.add_one_le_iff.mpr ha.2) (by decide:(0:Int)≤256)
  rwa [Int.add_mul,Int.one_mul] at this)⟩
theorem clX (n w:Nat):(max 0 (min (w:Int) n)).toNat=min w n:=by
 rw [Int.max_eq_right (Int.le_min.mpr ⟨Int.natCast_nonneg _,Int.natCast_nonneg _⟩)]
 rcases Nat.le_total w n with h | h
 ·rw [Nat.min_eq_left h,Int.min_eq_left (Int.ofNat_le.mpr h)];rfl
 ·rw [Nat.min_eq_right h,Int.min_eq_right (Int.ofNat_le.mpr h)];rfl
theorem qcy {a n k m:Nat} (h:n≤m):min a (n - k)≤m:=Nat.le_trans (Nat.min_le_right _ _) (Nat.le_trans (Nat.sub_le _ _) h)
theorem le_ms2 {a n k:Nat} (h:n≤1000000):min a (n - k)≤16777216:=qcy (Nat.le_trans h (by decide))
theorem sub_lt9 {n k:Nat} (h:0<n):n - (9+k)<n:=Nat.sub_lt h (Nat.lt_of_lt_of_le (by decide) (Nat.le_add_right 9 k))
theorem qg0 {n i:Nat} (h:i<n):n - (i+1)<n - i:=Nat.sub_lt_sub_left h (Nat.lt_succ_self i)
theorem t66 (x:Int):(60+x % 6).toNat≤66:=Int.toNat_le.mpr (Int.add_le_add_left (Int.le_of_lt (Int.emod_lt_of_pos _ (by decide))) 60)
theorem t12 (x:Int):(x % 13).toNat≤12:=Int.toNat_le.mpr (Int.le_of_lt_add_one (Int.emod_lt_of_pos _ (by decide)))
theorem sub_succ {n i:Nat} (h:i<n):n - i=(n - (i+1))+1:=(Nat.sub_add_cancel (Nat.sub_pos_of_lt h)).symm
theorem emod64 {x k:Int} (h:0<k) (hk:k≤4294967296):-(2 ^ 64)<x % k∧x % k<2 ^ 64:=⟨Int.lt_of_lt_of_le (by decide) (Int.emod_nonneg _ (Int.ne_of_gt h)),Int.lt_of_lt_of_le (Int.emod_lt_of_pos _ h) (Int.le_trans hk (by decide))⟩
theorem uf2 {n:Nat}{x:Int} (h:0≤x) (k:¬ ((n+1:Nat):Int)≤x):((n+1:Nat):Int) - x=((n+1 - x.toNat:Nat):Int):=by
 obtain ⟨j,rfl⟩:=Int.eq_ofNat_of_zero_le h
 exact (Int.ofNat_sub (Nat.le_of_lt (Int.ofNat_lt.mp (Int.not_le.mp k)))).symm
theorem uf4 {n:Nat}{x:Int} (h:0≤x) (k:¬ ((n+1:Nat):Int)≤x):((min (n+1 - x.toNat - 1) (n+1 - 1):Nat):Int)+x+1=((n+1:Nat):Int):=by
 obtain ⟨j,rfl⟩:=Int.eq_ofNat_of_zero_le h
 have hj:j≤n:=Nat.le_of_lt_succ (Int.ofNat_lt.mp (Int.not_le.mp k))
 show ((min (n+1 - j - 1) n:Nat):Int)+(j:Int)+1=_
 rw [show n+1 - j - 1=n - j from by rw [Nat.sub_right_comm];rfl,Nat.min_eq_left (Nat.sub_le _ _),← Int.natCast_add,Nat.sub_add_cancel hj];rfl
theorem mX {n:Nat} (h:(1:Int)<n):0<min (min 9 n - 1) (n-1)∧min (min 9 n - 1) (n-1)≤8:=by
 have h:1<n:=Int.ofNat_lt.mp (show ((1:Nat):Int)<n from h)
 exact ⟨Nat.lt_min.mpr ⟨Nat.sub_pos_of_lt (Nat.lt_min.mpr ⟨by decide,h⟩),Nat.sub_pos_of_lt h⟩,Nat.le_trans (Nat.min_le_left _ _) (Nat.sub_le_sub_right (Nat.min_le_left _ _) 1)⟩
theorem szX {n k:Nat} (h:k+9≤n):k+(n - (9+k)+1)≤n:=by
 rw [← Nat.add_assoc,Nat.add_right_comm,Nat.add_comm (k+1)]
 exact Nat.le_trans (Nat.add_le_add_left (by rw [Nat.add_comm];exact Nat.add_le_add_right (by decide) k) _) (Nat.le_of_eq (Nat.sub_add_cancel (Nat.add_comm 9 k ▸ h)))
theorem min_if {c s n:Nat} (h:c<n):((c+min s (n - c):Nat):Int)=if (n:Int)<(c:Int)+(s:Int) then (n:Int) else (c:Int)+(s:Int):=by
 by_cases k:(n:Int)<(c:Int)+(s:Int)
 ·rw [if_pos k,Nat.min_eq_right (Nat.sub_le_of_le_add (Nat.add_comm c s ▸ Nat.le_of_lt (Int.ofNat_lt.mp k))),Nat.add_sub_cancel' (Nat.le_of_lt h)]
 ·rw [if_neg k,Nat.min_eq_left (Nat.le_sub_of_add_le' (Int.ofNat_le.mp (Int.not_lt.mp k)))];rfl
theorem sumX {a b c e n s:Nat} (hc:c<n) (h:s+a+b≤c):s+a+(b+min e (n - c))≤n:=by
 rw [← Nat.add_assoc]
 exact Nat.le_trans (Nat.add_le_add h (Nat.min_le_right _ _)) (Nat.le_of_eq (Nat.add_sub_cancel' (Nat.le_of_lt hc)))
theorem ifF {α:Type}{c:Bool}{x y:α} (h:c=false):(if c=true then x else y)=y:=if_neg (by rw [h];exact bft)
theorem qe1 {α:Type}{l:List α}{n:Nat} (h:l.length=n+1):∃ a t,l=a::t∧t.length=n:=by
 cases l with
 | nil=>cases h
 | cons a t=>exact ⟨a,t,rfl,Nat.succ.inj h⟩
section
variable {imm:List Cell}{v:Value}{d:D}{vs ws:List Value}{ds es:List D}
theorem DAll.length (h:DAll imm vs ds):vs.length=ds.length:=by
 induction vs generalizing ds with
 | nil=>cases h;rfl
 | cons v vs ih=>cases h with | cons _ r=>rw [List.length_cons,List.length_cons,ih r]
theorem DAll.append (h:DAll imm vs ds) (k:DAll imm ws es):DAll imm (vs++ws) (ds++es):=by
 induction vs generalizing ds with
 | nil=>cases h;exact k
 | cons v vs ih=>cases h with | cons h r=>exact .cons h (ih r)
theorem DAll.get (h:DAll imm vs ds) {k:Nat}{d:D} (hk:ds[k]?=some d):∃ v,vs[k]?=some v∧DIn imm v d:=by
 induction vs generalizing ds k with
 | nil=>cases h;simp at hk
 | cons v vs ih =>
  cases h with
  | cons h r =>
   cases k with
   | zero=>simp at hk;subst hk;exact ⟨v,rfl,h⟩
   | succ k=>simp at hk;simpa using ih r hk
theorem DAll.getV (h:DAll imm vs ds) {k:Nat}{v:Value} (hk:vs[k]?=some v):∃ d,ds[k]?=some d∧DIn imm v d:=by
 induction vs generalizing ds k with
 | nil=>simp at hk
 | cons w vs ih =>
  cases h with
  | cons h r =>
   cases k with
   | zero=>simp at hk;subst hk;exact ⟨_,rfl,h⟩
   | succ k=>simp at hk;simpa using ih r hk
theorem DAll.take (h:DAll imm vs ds) (k:Nat):DAll imm (vs.take k) (ds.take k):=by
 induction vs generalizing ds k with
 | nil=>cases h;simp;exact .nil
 | cons v vs ih =>
  cases h with
  | cons h r =>
   cases k with
   | zero=>simp;exact .nil
   | succ k=>simp;exact .cons h (ih r k)
theorem DAll.drop (h:DAll imm vs ds) (k:Nat):DAll imm (vs.drop k) (ds.drop k):=by
 induction vs generalizing ds k with
 | nil=>cases h;simp;exact .nil
 | cons v vs ih =>
  cases h with
  | cons h r =>
   cases k with
   | zero=>simp;exact .cons h r
   | succ k=>simp;exact ih r k
end
section
variable {imm:List Cell}{v:Value}{d d':D}{vs:List Value}{ds:List D}
@[elab_as_elim] theorem DAll.one {motive:List Value→Prop} (h:DAll imm vs [d]) (k:∀ v,DIn imm v d→motive [v]):motive vs:=by
 cases h with | cons h r=>cases r;exact k _ h
@[elab_as_elim] theorem DAll.two {motive:List Value→Prop} (h:DAll imm vs [d,d']) (k:∀ v w,DIn imm v d→DIn imm w d'→motive [v,w]):motive vs:=by
 cases h with | cons h r=>cases r with | cons g r=>cases r;exact k _ _ h g
@[elab_as_elim] theorem DIn.eI {motive:Value→Prop}{i:Int} (h:DIn imm v (.int i)) (k:∀ t,motive (.int i t)):motive v:=by
 cases h;exact k _
@[elab_as_elim] theorem DIn.eS {motive:Value→Prop}{x:Str} (h:DIn imm v (.str x)) (k:∀ t,motive (.str x t)):motive v:=by
 cases h;exact k _
theorem DIn.vEq {w:Value} (h:DIn imm v (.val w)):v=w:=by cases h;rfl
@[elab_as_elim] theorem DIn.eO {motive:Value→Prop}{b:Bool} (h:DIn imm v (.bool b)) (k:motive (.bool b)):motive v:=by
 cases h;exact k
@[elab_as_elim] theorem DIn.eV {motive:Value→Prop}{w:Value} (h:DIn imm v (.val w)) (k:motive w):motive v:=by
 cases h;exact k
@[elab_as_elim] theorem DIn.eB {motive:Value→Prop}{ks:List Int} (h:DIn imm v (.bytes ks)) (k:∀ b t,bI b=ks→motive (.bytes b t)):motive v:=by
 cases h with | bytes e=>exact k _ _ e
@[elab_as_elim] theorem DIn.eL {motive:Value→Prop} (h:DIn imm v (.lst ds)) (k:∀ a o vs n,(a,o)∈imm→o.cls=.type "list"→o.data=.seq vs.toArray n→DAll imm vs ds→motive (.ref a)):motive v:=by
 cases h with | lst h1 h2 h3 h4=>exact k _ _ _ _ h1 h2 h3 h4
@[elab_as_elim] theorem DIn.eT {motive:Value→Prop} (h:DIn imm v (.tup ds)) (k:∀ a o vs n,(a,o)∈imm→o.cls=.type "tuple"→o.data=.seq vs.toArray n→DAll imm vs ds→motive (.ref a)):motive v:=by
 cases h with | tup h1 h2 h3 h4=>exact k _ _ _ _ h1 h2 h3 h4
@[elab_as_elim] theorem DIn.eA {motive:Value→Prop}{ks:List Int} (h:DIn imm v (.barr ks)) (k:∀ a b,(a,baO b)∈imm→bI b=ks→motive (.ref a)):motive v:=by
 cases h with | barr h e=>exact k _ _ h e
end
inductive AO where
 | inst (C dx:Addr)
 | dict (fs:List (Str×D))
 | lst (ds:List D)
 | set (S:List Str)
 | ba (ks:List Int)
 | raw (o:Obj)
inductive qaa (P:Params) (imm:List Cell):List DictEntry→List (Str×D)→Prop
 | nil:qaa P imm [] []
 | cons {x:Str}{t:Tok}{v:Value}{d:D}{es fs}:DIn imm v d→qaa P imm es fs→qaa P imm (⟨PyData.keyHash P x,.str x t,v⟩::es) ((x,d)::fs)
theorem qaa.mono {P:Params}{imm imm':List Cell} (hs:imm⊆imm') {es fs} (h:qaa P imm es fs):qaa P imm' es fs:=by
 induction h with
 | nil=>exact .nil
 | cons h _ ih=>exact .cons (h.mono hs) ih
inductive AOIs (prog:Program) (w:World) (imm:List Cell):Obj→AO→Prop
 | inst {C dx:Addr}:AOIs prog w imm (instObj C dx) (.inst C dx)
 | dict {es:List DictEntry}{n:Nat}{fs}:qaa w.params imm es fs→AOIs prog w imm (dictOf es n) (.dict fs)
 | lst {o:Obj}{vs:List Value}{n:Nat}{ds}:o.cls=.type "list"→o.dict=none→o.data=.seq vs.toArray n→DAll imm vs ds→AOIs prog w imm o (.lst ds)
 | set {o:Obj}{S:List Str}{n:Nat}:o.SetObjOf (strKind prog w) (fun x=>S.contains x) n→n≤S.length→AOIs prog w imm o (.set S)
 | ba {b:Array UInt8}{ks}:bI b=ks→AOIs prog w imm (baO b) (.ba ks)
 | raw {o:Obj}:AOIs prog w imm o (.raw o)
theorem AOIs.mono {prog w}{imm imm':List Cell} (hs:imm⊆imm') {o:Obj}{a:AO} (h:AOIs prog w imm o a):AOIs prog w imm' o a:=by
 cases h with
 | inst=>exact .inst
 | dict h=>exact .dict (h.mono hs)
 | lst h1 h2 h3 h=>exact .lst h1 h2 h3 (h.mono hs)
 | set h k=>exact .set h k
 | ba h=>exact .ba h
 | raw=>exact .raw
inductive Muts (prog:Program) (w:World) (imm:List Cell):List Cell→List (Addr×AO)→Prop
 | nil:Muts prog w imm [] []
 | cons {a:Addr}{o:Obj}{m:AO}{os ms}:AOIs prog w imm o m→Muts prog w imm os ms→Muts prog w imm ((a,o)::os) ((a,m)::ms)
theorem Muts.mono {prog w}{imm imm':List Cell} (hs:imm⊆imm') {os ms} (h:Muts prog w imm os ms):Muts prog w imm' os ms:=by
 induction h with
 | nil=>exact .nil
 | cons h _ ih=>exact .cons (h.mono hs) ih
theorem Muts.get {prog w}{imm:List Cell}{os ms} (h:Muts prog w imm os ms) {a:Addr}{m:AO} (hm:(a,m)∈ms):∃ o,(a,o)∈os∧AOIs prog w imm o m:=by
 induction h with
 | nil=>cases hm
 | cons h _ ih =>
  rcases mcj hm with e | hm
  ·cases e;exact ⟨_,.head _,h⟩
  ·obtain ⟨o,ho,r⟩:=ih hm;exact ⟨o,.tail _ ho,r⟩
structure Slot where
 name:Str
 kind:NameKind
 val:Option D
structure AS where
 ρ:List Slot
 ms:List (Addr×AO)
structure Cx where
 prog:Program
 w:World
 A:Around
 env:Env
 base:Heap
 hid:List Cell
 outs:List (Addr×(Str→Option Value))
 gens:Array GenState
 os:OsState
 /-- cells of the frame around a comprehension -/
 cap:List Cell
 capH:∀ p∈cap,p∈hid
noncomputable abbrev Cx.M (C:Cx):Model:=model C.prog C.w
inductive qf5 (env:Env) (cap:List Cell) (m:Str→Option Value) (imm kc:List Cell) (x:Str):NameKind→D→Prop
 | loc {v:Value}{d:D}:m x=some v→DIn imm v d→qf5 env cap m imm kc x .local d
 | cell {c:Addr}{o:Obj}{v:Value}{d:D}:env.cells.lookup x=some c→(c,o)∈kc→o.data=.cell (some v)→DIn imm v d→qf5 env cap m imm kc x .cell d
 | cap {c:Addr}{o:Obj}{v:Value}{d:D}:env.cells.lookup x=some c→(c,o)∈cap→o.data=.cell (some v)→DIn imm v d→qf5 env cap m imm kc x .cell d
 | free {c:Addr}{o:Obj}{v:Value}{d:D}:env.cells.lookup x=some c→(c,o)∈imm→o.data=.cell (some v)→DIn imm v d→qf5 env cap m imm kc x .free d
theorem qf5.mono {env cap m kc x k d}{imm imm':List Cell} (hs:imm⊆imm') (h:qf5 env cap m imm kc x k d):qf5 env cap m imm' kc x k d:=by
 cases h with
 | loc h r=>exact .loc h (r.mono hs)
 | cell h1 h2 h3 r=>exact .cell h1 h2 h3 (r.mono hs)
 | cap h1 h2 h3 r=>exact .cap h1 h2 h3 (r.mono hs)
 | free h1 h2 h3 r=>exact .free h1 (hs h2) h3 (r.mono hs)
inductive Outs:List Cell→List (Addr×(Str→Option Value))→Prop
 | nil:Outs [] []
 | cons {L:Addr}{o:Obj}{m:Str→Option Value}{os ms}:(∀ h:Heap,h.get? L=some o→h.Ns L m)→Outs os ms→Outs ((L,o)::os) ((L,m)::ms)
structure RelX (C:Cx) (σ:AS) (imm:List Cell) (s:Shared) (m:Str→Option Value) (os kc fs:List Cell):Prop where
 fr:Fr C.base C.env.locals s.heap m
 nw:News C.base C.env.locals s.heap (os++(kc++(imm++(fs++C.hid))))
 mu:Muts C.prog C.w imm os σ.ms
 kd:∀ p∈kc,∃ v,p.2.data=.cell v
 nd:((os++kc).map (·.1)).Nodup
 ap:∀ q∈imm++(fs++C.hid),q.1 ∉ (os++kc).map (·.1)
 ah:∀ q∈imm,q.1 ∉ (fs++C.hid).map (·.1)
 hn:((fs++C.hid).map (·.1)).Nodup
 ou:Outs fs C.outs
 nm:(σ.ρ.map (·.name)).Nodup
 kn:∀ p∈σ.ρ,C.env.kindOf p.name=some p.kind
 va:∀ p∈σ.ρ,∀ d,p.val=some d→qf5 C.env C.cap m imm kc p.name p.kind d
 cc:∀ p∈σ.ρ,p.kind=.cell→∃ c o,C.env.cells.lookup p.name=some c∧((c,o)∈kc∨(c,o)∈C.cap)
 gn:(∀ (i:Nat) (g:GenState),C.gens[i]?=some g→s.gens[i]?=some g)∧AllBare s.gens
 so:s.os=C.os
inductive Rel (C:Cx) (σ:AS) (imm:List Cell) (s:Shared):Prop
 | mk (m:Str→Option Value) (os kc fs:List Cell):RelX C σ imm s m os kc fs→Rel C σ imm s
theorem Rel.elim {C:Cx}{σ:AS}{imm:List Cell}{s:Shared}{P:Prop} (h:Rel C σ imm s) (k:∀ m os kc fs,RelX C σ imm s m os kc fs→P):P:=by obtain ⟨m,os,kc,fs,R⟩:=h;exact k m os kc fs R
inductive VPost (C:Cx) (imm:List Cell) (K:D→AS→Prop) (v:Value) (s':Shared):Prop
 | mk (d:D) (σ':AS) (imm':List Cell):imm⊆imm'→Rel C σ' imm' s'→DIn imm' v d→K d σ'→VPost C imm K v s'
end
section
variable {C:Cx}{σ:AS}{imm:List Cell}{s:Shared}{m:Str→Option Value}{os kc fs:List Cell}
theorem RelX.mem_os (R:RelX C σ imm s m os kc fs) {p:Cell} (h:p∈os):s.heap.get? p.1=some p.2∧p.1≠C.env.locals∧C.base.get? p.1=none:=R.nw p (mal _ h)
theorem RelX.mem_kc (R:RelX C σ imm s m os kc fs) {p:Cell} (h:p∈kc):s.heap.get? p.1=some p.2∧p.1≠C.env.locals∧C.base.get? p.1=none:=R.nw p (mar _ (mal _ h))
theorem RelX.mem_imm (R:RelX C σ imm s m os kc fs) {p:Cell} (h:p∈imm):s.heap.get? p.1=some p.2∧p.1≠C.env.locals∧C.base.get? p.1=none:=R.nw p (mar _ (mar _ (mal _ h)))
theorem RelX.mem_fs (R:RelX C σ imm s m os kc fs) {p:Cell} (h:p∈fs):s.heap.get? p.1=some p.2∧p.1≠C.env.locals∧C.base.get? p.1=none:=R.nw p (mar _ (mar _ (mar _ (mal _ h))))
theorem RelX.mem_hid (R:RelX C σ imm s m os kc fs) {p:Cell} (h:p∈C.hid):s.heap.get? p.1=some p.2∧p.1≠C.env.locals∧C.base.get? p.1=none:=R.nw p (mar _ (mar _ (mar _ (mar _ h))))
theorem Rel.at_imm (R:Rel C σ imm s) {a:Addr}{o:Obj} (h:(a,o)∈imm):s.heap.get? a=some o:=by
 obtain ⟨m,os,kc,fs,R⟩:=R;exact (R.mem_imm h).1
theorem Rel.at_ms (R:Rel C σ imm s) {a:Addr}{x:AO} (h:(a,x)∈σ.ms):∃ o,s.heap.get? a=some o∧AOIs C.prog C.w imm o x:=by
 refine Rel.elim R fun m os kc fs R=>?_
 obtain ⟨o,ho,r⟩:=R.mu.get h
 exact ⟨o,(R.mem_os ho).1,r⟩
theorem Rel.base_keep (R:Rel C σ imm s):∀ b o,C.base.get? b=some o→s.heap.get? b=some o:=by
 obtain ⟨m,os,kc,fs,R⟩:=R;exact R.fr.keep
theorem RelX.grow (R:RelX C σ imm s m os kc fs) {h':Heap} (hk:∀ b o,s.heap.get? b=some o→h'.get? b=some o) {d:Drawn}{tk:Nat} :
 RelX C σ imm ⟨h',s.gens,d,tk,s.os⟩ m os kc fs where
 fr:=⟨R.fr.ns.keeps hk,fun b o e=>hk _ _ (R.fr.keep b o e),R.fr.above⟩
 nw:=fun p hp=>⟨hk _ _ (R.nw p hp).1,(R.nw p hp).2⟩
 mu:=R.mu
 kd:=R.kd
 nd:=R.nd
 ap:=R.ap
 ah:=R.ah
 hn:=R.hn
 ou:=R.ou
 nm:=R.nm
 kn:=R.kn
 va:=R.va
 cc:=R.cc
 gn:=R.gn
 so:=R.so
theorem Rel.grow (R:Rel C σ imm s) {h':Heap} (hk:∀ b o,s.heap.get? b=some o→h'.get? b=some o) {d:Drawn}{tk:Nat}:Rel C σ imm ⟨h',s.gens,d,tk,s.os⟩:=by
 obtain ⟨m,os,kc,fs,R⟩:=R;exact ⟨m,os,kc,fs,R.grow hk⟩
theorem Rel.tok (R:Rel C σ imm s) (tk:Nat):Rel C σ imm { s with toks:=tk }:=R.grow fun V V e=>e
theorem RelX.learn (R:RelX C σ imm s m os kc fs) {new:List Cell} (hn:∀ p∈new,s.heap.get? p.1=some p.2∧p.1≠C.env.locals∧C.base.get? p.1=none∧p.1 ∉ (os++kc).map (·.1)∧p.1 ∉ (fs++C.hid).map (·.1)) :
 RelX C σ (new++imm) s m os kc fs where
 fr:=R.fr
 nw:=fun p hp=>by
  rcases maj hp with h | h
  ·exact R.mem_os h
  rcases maj h with h | h
  ·exact R.mem_kc h
  rcases maj h with h | h
  ·rcases maj h with h | h
   ·exact ⟨(hn p h).1,(hn p h).2.1,(hn p h).2.2.1⟩
   ·exact R.mem_imm h
  ·exact R.nw p (mar _ (mar _ (mar _ h)))
 mu:=R.mu.mono (List.subset_append_right _ _)
 kd:=R.kd
 nd:=R.nd
 ap:=fun q hq=>by
  rcases maj hq with h | h
  ·rcases maj h with h | h
   ·exact (hn q h).2.2.2.1
   ·exact R.ap q (mal _ h)
  ·exact R.ap q (mar _ h)
 ah:=fun q hq=>by
  rcases maj hq with h | h
  ·exact (hn q h).2.2.2.2
  ·exact R.ah q h
 hn:=R.hn
 ou:=R.ou
 nm:=R.nm
 kn:=R.kn
 va:=fun p hp d e=>(R.va p hp d e).mono (List.subset_append_right _ _)
 cc:=R.cc
 gn:=R.gn
 so:=R.so
theorem RelX.fresh (R:RelX C σ imm s m os kc fs) {a:Addr} (h:s.heap.get? a=none) :
 a≠C.env.locals∧C.base.get? a=none∧a ∉ (os++kc).map (·.1)∧a ∉ (fs++C.hid).map (·.1)∧a ∉ imm.map (·.1):=by
 refine ⟨fun e=>?_,?_,fun q=>?_,fun q=>?_,fun q=>?_⟩
 ·obtain ⟨o,_,_,ho,_⟩:=R.fr.ns
  rw [← e,h] at ho;cases ho
 ·cases hq:C.base.get? a with
  | none=>rfl
  | some o=>have:=R.fr.keep _ _ hq;rw [h] at this;cases this
 all_goals
  obtain ⟨p,hp,rfl⟩:=mmj q
 ·rcases maj hp with hp | hp
  ·have:=(R.mem_os hp).1;rw [h] at this;cases this
  ·have:=(R.mem_kc hp).1;rw [h] at this;cases this
 ·rcases maj hp with hp | hp
  ·have:=(R.mem_fs hp).1;rw [h] at this;cases this
  ·have:=(R.mem_hid hp).1;rw [h] at this;cases this
 ·have:=(R.mem_imm hp).1;rw [h] at this;cases this
theorem Rel.more (R:Rel C σ imm s) {h':Heap} (hk:∀ b o,s.heap.get? b=some o→h'.get? b=some o) {d:Drawn}{tk:Nat}{new:List Cell}
 (hn:∀ p∈new,h'.get? p.1=some p.2∧s.heap.get? p.1=none):Rel C σ (new++imm) ⟨h',s.gens,d,tk,s.os⟩:=by
 refine Rel.elim R fun m os kc fs R=>?_
 refine ⟨m,os,kc,fs,(R.grow hk).learn fun p hp=>?_⟩
 obtain ⟨h1,h2,h3,h4,_⟩:=R.fresh (hn p hp).2
 exact ⟨(hn p hp).1,h1,h2,h3,h4⟩
theorem Rel.push (R:Rel C σ imm s) (o:Obj) (hf:o.isFreed=false:=by rfl) {d:Drawn}{tk:Nat}:Rel C σ ((s.heap.objs.size,o)::imm) ⟨s.heap.push o,s.gens,d,tk,s.os⟩ :=
 R.more (new:=[(s.heap.objs.size,o)]) (fun V V e=>Heap.get?_push_of_some _ e) fun p hp=>by
  rw [msj hp]
  exact ⟨Heap.get?_push_size _ hf,Heap.get?_none_of_le (Nat.le_refl _)⟩
end
inductive Has (x:Str) (k:NameKind) (d:Option D):List Slot→Prop
 | here {r}:Has x k d (⟨x,k,d⟩::r)
 | there {p r}:Has x k d r→Has x k d (p::r)
theorem Has.mem {x k d ρ} (h:Has x k d ρ):(⟨x,k,d⟩:Slot)∈ρ:=by
 induction h with
 | here=>exact .head _
 | there _ ih=>exact .tail _ ih
inductive Put (x:Str) (k:NameKind) (d:D):List Slot→List Slot→Prop
 | here {o r}:Put x k d (⟨x,k,o⟩::r) (⟨x,k,some d⟩::r)
 | there {p r r'}:Put x k d r r'→Put x k d (p::r) (p::r')
theorem Put.names {x k d ρ ρ'} (h:Put x k d ρ ρ'):ρ'.map (·.name)=ρ.map (·.name):=by
 induction h with
 | here=>rfl
 | there _ ih=>simp [ih]
theorem Put.kind {x k d ρ ρ'} (h:Put x k d ρ ρ'):∃ o,(⟨x,k,o⟩:Slot)∈ρ:=by
 induction h with
 | here=>exact ⟨_,.head _⟩
 | there _ ih=>obtain ⟨o,ho⟩:=ih;exact ⟨o,.tail _ ho⟩
theorem Put.at {x k d ρ ρ'} (h:Put x k d ρ ρ') (nd:(ρ.map (·.name)).Nodup):∀ p∈ρ',(p=⟨x,k,some d⟩)∨(p∈ρ∧p.name≠x):=by
 induction h with
 | here =>
  intro p hp
  rcases mcj hp with e | hp
  ·exact .inl e
  ·refine .inr ⟨.tail _ hp,fun e=>?_⟩
   rw [lmc,List.nodup_cons] at nd
   exact nd.1 (List.mem_map.mpr ⟨p,hp,e⟩)
 | @there q r r' hP ih =>
  intro p hp
  rw [lmc,List.nodup_cons] at nd
  rcases mcj hp with e | hp
  ·subst e
   refine .inr ⟨.head _,fun e=>nd.1 ?_⟩
   obtain ⟨o,ho⟩:=hP.kind
   rw [e]
   exact List.mem_map.mpr ⟨_,ho,rfl⟩
  ·rcases ih nd.2 p hp with e | ⟨h1,h2⟩
   ·exact .inl e
   ·exact .inr ⟨.tail _ h1,h2⟩
section
variable {C:Cx}{σ:AS}{imm:List Cell}{s:Shared}{m:Str→Option Value}{os kc fs:List Cell}
theorem RelX.putLocal {ρ ρ':List Slot}{ms}{x:Str}{d:D}{v:Value} (R:RelX C ⟨ρ,ms⟩ imm s m os kc fs) (hP:Put x .local d ρ ρ') (hv:DIn imm v d) {h':Heap}
 (hn:h'.Ns C.env.locals (fun y=>if y=x then some v else m y)) (hs:Heap.SameBut C.env.locals s.heap h') {dr:Drawn}{tk:Nat} :
 RelX C ⟨ρ',ms⟩ imm ⟨h',s.gens,dr,tk,s.os⟩ (fun y=>if y=x then some v else m y) os kc fs where
 fr:=R.fr.set hn hs
 nw:=fun p hp=>⟨(hs.2 p.1 (R.nw p hp).2.1).trans (R.nw p hp).1,(R.nw p hp).2⟩
 mu:=R.mu
 kd:=R.kd
 nd:=R.nd
 ap:=R.ap
 ah:=R.ah
 hn:=R.hn
 ou:=R.ou
 nm:=by rw [hP.names];exact R.nm
 kn:=fun p hp=>by
  rcases hP.at R.nm p hp with e | ⟨h,_⟩
  ·subst e
   obtain ⟨o,ho⟩:=hP.kind
   exact R.kn ⟨x,.local,o⟩ ho
  ·exact R.kn p h
 va:=fun p hp d' e=>by
  rcases hP.at R.nm p hp with q | ⟨h,hx⟩
  ·subst q
   cases e
   exact .loc (by simp) hv
  ·have q:=R.va p h d' e
   obtain ⟨n,k,o⟩:=p
   cases q with
   | loc h1 r=>exact .loc (by simpa [hx] using h1) r
   | cell h1 h2 h3 r=>exact .cell h1 h2 h3 r
   | cap h1 h2 h3 r=>exact .cap h1 h2 h3 r
   | free h1 h2 h3 r=>exact .free h1 h2 h3 r
 cc:=fun p hp hk=>by
  rcases hP.at R.nm p hp with e | ⟨h,_⟩
  ·subst e;cases hk
  ·exact R.cc p h hk
 gn:=R.gn
 so:=R.so
theorem RelX.putCell {ρ ρ':List Slot}{ms}{x:Str}{d:D}{v:Value}{c:Addr}{o o':Obj}{k1 k2:List Cell} (R:RelX C ⟨ρ,ms⟩ imm s m os (k1++(c,o)::k2) fs) (hP:Put x .cell d ρ ρ') (hv:DIn imm v d)
 (hc:C.env.cells.lookup x=some c) (hinj:∀ y,y≠x→C.env.cells.lookup y≠some c) {h':Heap}
 (hd:o'.data=.cell (some v)) (ho:h'.get? c=some o') (hs:Heap.SameBut c s.heap h') {dr:Drawn}{tk:Nat} :
 RelX C ⟨ρ',ms⟩ imm ⟨h',s.gens,dr,tk,s.os⟩ m os (k1++(c,o')::k2) fs:=by
 have hcm:(c,o)∈k1++(c,o)::k2:=mar _ (.head _)
 have C0:s.heap.get? c=some o∧c≠C.env.locals∧C.base.get? c=none:=R.mem_kc hcm
 have em:(k1++(c,o')::k2).map (·.1)=(k1++(c,o)::k2).map (·.1):=by simp
 have nd:=R.nd
 have hne1:∀ p∈os,p.1≠c:=fun p hp e=>by
  rw [lma,List.nodup_append] at nd
  exact nd.2.2 p.1 (List.mem_map_of_mem hp) c (List.mem_map.mpr ⟨_,hcm,rfl⟩) e
 have nk:((k1++(c,o)::k2).map (·.1)).Nodup:=by
  rw [lma,List.nodup_append] at nd
  exact nd.2.1
 have hne2:∀ p∈k1,p.1≠c:=fun p hp e=>by
  rw [lma,List.nodup_append] at nk
  exact nk.2.2 p.1 (List.mem_map_of_mem hp) c (by simp) e
 have hne3:∀ p∈k2,p.1≠c:=fun p hp e=>by
  rw [lma,lmc,List.nodup_append,List.nodup_cons] at nk
  exact nk.2.1.1 (List.mem_map.mpr ⟨p,hp,e⟩)
 have hne4:∀ p∈imm++(fs++C.hid),p.1≠c:=fun p hp e=>R.ap p hp (by rw [e,lma];exact mar _ (List.mem_map.mpr ⟨_,hcm,rfl⟩))
 have mv:∀ p:Cell,(s.heap.get? p.1=some p.2∧p.1≠C.env.locals∧C.base.get? p.1=none)→p.1≠c→(h'.get? p.1=some p.2∧p.1≠C.env.locals∧C.base.get? p.1=none) :=
  fun p hp hc=>⟨(hs.2 p.1 hc).trans hp.1,hp.2⟩
 exact {
  fr:=⟨R.fr.ns.sameBut hs (Ne.symm C0.2.1),fun b ob e=>(hs.2 b (fun q=>by rw [q,C0.2.2] at e;cases e)).trans (R.fr.keep b ob e),R.fr.above⟩
  nw:=fun p hp=>by
   rcases maj hp with h | h
   ·exact mv p (R.mem_os h) (hne1 p h)
   rcases maj h with h | h
   ·rcases maj h with h | h
    ·exact mv p (R.mem_kc (mal _ h)) (hne2 p h)
    ·rcases mcj h with e | h
     ·subst e;exact ⟨ho,C0.2⟩
     ·exact mv p (R.mem_kc (mar _ (.tail _ h))) (hne3 p h)
   ·exact mv p (R.nw p (mar _ (mar _ h))) (hne4 p h)
  mu:=R.mu
  kd:=fun p hp=>by
   rcases maj hp with h | h
   ·exact R.kd p (mal _ h)
   ·rcases mcj h with e | h
    ·subst e;exact ⟨_,hd⟩
    ·exact R.kd p (mar _ (.tail _ h))
  nd:=by rw [lma,em,← lma];exact R.nd
  ap:=fun q hq=>by rw [lma,em,← lma];exact R.ap q hq
  ah:=R.ah
  hn:=R.hn
  ou:=R.ou
  nm:=by rw [hP.names];exact R.nm
  kn:=fun p hp=>by
   rcases hP.at R.nm p hp with e | ⟨h,_⟩
   ·subst e
    obtain ⟨o,ho⟩:=hP.kind
    exact R.kn ⟨x,.cell,o⟩ ho
   ·exact R.kn p h
  va:=fun p hp d' e=>by
   rcases hP.at R.nm p hp with q | ⟨h,hx⟩
   ·subst q
    cases e
    exact .cell hc (mar _ (.head _)) hd hv
   ·have q:=R.va p h d' e
    obtain ⟨n,k,oo⟩:=p
    cases q with
    | loc h1 r=>exact .loc h1 r
    | @cell c1 o1 v1 _ h1 h2 h3 r =>
     refine .cell h1 ?_ h3 r
     have hcc:c1≠c:=fun e=>hinj n hx (e ▸ h1)
     rcases maj h2 with h2 | h2
     ·exact mal _ h2
     ·rcases mcj h2 with e | h2
      ·cases e;exact absurd rfl hcc
      ·exact mar _ (.tail _ h2)
    | cap h1 h2 h3 r=>exact .cap h1 h2 h3 r
    | free h1 h2 h3 r=>exact .free h1 h2 h3 r
  cc:=fun p hp hk=>by
   have go:∀ p∈ρ,p.kind=.cell→∃ c1 o1,C.env.cells.lookup p.name=some c1∧((c1,o1)∈k1++(c,o')::k2∨(c1,o1)∈C.cap):=fun p hp hk=>by
    obtain ⟨c1,o1,h1,h2⟩:=R.cc p hp hk
    rcases h2 with h2 | h2
    ·rcases maj h2 with h2 | h2
     ·exact ⟨c1,o1,h1,.inl (mal _ h2)⟩
     ·rcases mcj h2 with e | h2
      ·cases e;exact ⟨c,o',h1,.inl (mar _ (.head _))⟩
      ·exact ⟨c1,o1,h1,.inl (mar _ (.tail _ h2))⟩
    ·exact ⟨c1,o1,h1,.inr h2⟩
   rcases hP.at R.nm p hp with e | ⟨h,_⟩
   ·subst e
    obtain ⟨oo,ho⟩:=hP.kind
    exact go ⟨x,.cell,oo⟩ ho rfl
   ·exact go p h hk
  gn:=R.gn
  so:=R.so }
theorem RelX.putMut {ρ:List Slot}{m1 m2}{a:Addr}{x x':AO} (R:RelX C ⟨ρ,m1++(a,x)::m2⟩ imm s m os kc fs) {o':Obj}{h':Heap} (hx:AOIs C.prog C.w imm o' x') (ho:h'.get? a=some o') (hs:Heap.SameBut a s.heap h') {dr:Drawn}{tk:Nat} :
 ∃ os',RelX C ⟨ρ,m1++(a,x')::m2⟩ imm ⟨h',s.gens,dr,tk,s.os⟩ m os' kc fs:=by
 have split:∀ {os:List Cell}{m1:List (Addr×AO)},Muts C.prog C.w imm os (m1++(a,x)::m2)→∃ o1 o o2,os=o1++(a,o)::o2∧Muts C.prog C.w imm (o1++(a,o')::o2) (m1++(a,x')::m2):=by
  intro os m1
  induction m1 generalizing os with
  | nil=>intro h;cases h with | cons h r=>exact ⟨[],_,_,rfl,.cons hx r⟩
  | cons q m1 ih =>
   intro h
   cases h with
   | cons h r =>
    obtain ⟨o1,o,o2,rfl,k⟩:=ih r
    exact ⟨_::o1,o,o2,rfl,.cons h k⟩
 obtain ⟨o1,o,o2,rfl,mu'⟩:=split R.mu
 have hcm:(a,o)∈o1++(a,o)::o2:=mar _ (.head _)
 have C0:s.heap.get? a=some o∧a≠C.env.locals∧C.base.get? a=none:=R.mem_os hcm
 have em:(o1++(a,o')::o2).map (·.1)=(o1++(a,o)::o2).map (·.1):=by simp
 have nd:=R.nd
 have nk:((o1++(a,o)::o2).map (·.1)).Nodup:=by
  rw [lma,List.nodup_append] at nd
  exact nd.1
 have hne1:∀ p∈kc,p.1≠a:=fun p hp e=>by
  rw [lma,List.nodup_append] at nd
  exact nd.2.2 a (List.mem_map.mpr ⟨_,hcm,rfl⟩) p.1 (List.mem_map_of_mem hp) e.symm
 have hne2:∀ p∈o1,p.1≠a:=fun p hp e=>by
  rw [lma,List.nodup_append] at nk
  exact nk.2.2 p.1 (List.mem_map_of_mem hp) a (by simp) e
 have hne3:∀ p∈o2,p.1≠a:=fun p hp e=>by
  rw [lma,lmc,List.nodup_append,List.nodup_cons] at nk
  exact nk.2.1.1 (List.mem_map.mpr ⟨p,hp,e⟩)
 have hne4:∀ p∈imm++(fs++C.hid),p.1≠a:=fun p hp e=>R.ap p hp (by rw [e,lma];exact mal _ (List.mem_map.mpr ⟨_,hcm,rfl⟩))
 have mv:∀ p:Cell,(s.heap.get? p.1=some p.2∧p.1≠C.env.locals∧C.base.get? p.1=none)→p.1≠a→(h'.get? p.1=some p.2∧p.1≠C.env.locals∧C.base.get? p.1=none) :=
  fun p hp hc=>⟨(hs.2 p.1 hc).trans hp.1,hp.2⟩
 exact ⟨_,{
  fr:=⟨R.fr.ns.sameBut hs (Ne.symm C0.2.1),fun b ob e=>(hs.2 b (fun q=>by rw [q,C0.2.2] at e;cases e)).trans (R.fr.keep b ob e),R.fr.above⟩
  nw:=fun p hp=>by
   rcases maj hp with h | h
   ·rcases maj h with h | h
    ·exact mv p (R.mem_os (mal _ h)) (hne2 p h)
    ·rcases mcj h with e | h
     ·subst e;exact ⟨ho,C0.2⟩
     ·exact mv p (R.mem_os (mar _ (.tail _ h))) (hne3 p h)
   rcases maj h with h | h
   ·exact mv p (R.mem_kc h) (hne1 p h)
   ·exact mv p (R.nw p (mar _ (mar _ h))) (hne4 p h)
  mu:=mu'
  kd:=R.kd
  nd:=by rw [lma,em,← lma];exact R.nd
  ap:=fun q hq=>by rw [lma,em,← lma];exact R.ap q hq
  ah:=R.ah
  hn:=R.hn
  ou:=R.ou
  nm:=R.nm
  kn:=R.kn
  va:=R.va
  cc:=R.cc
  gn:=R.gn
  so:=R.so }⟩
theorem Rel.putMut {ρ:List Slot}{m1 m2}{a:Addr}{x x':AO} (R:Rel C ⟨ρ,m1++(a,x)::m2⟩ imm s) {o':Obj}{h':Heap} (hx:AOIs C.prog C.w imm o' x') (ho:h'.get? a=some o') (hs:Heap.SameBut a s.heap h') {dr:Drawn}{tk:Nat} :
 Rel C ⟨ρ,m1++(a,x')::m2⟩ imm ⟨h',s.gens,dr,tk,s.os⟩:=by
 refine Rel.elim R fun m os kc fs R=>?_
 obtain ⟨os',R⟩:=R.putMut hx ho hs (dr:=dr) (tk:=tk)
 exact ⟨m,os',kc,fs,R⟩
theorem Rel.newMut {ρ:List Slot}{ms}{a:Addr}{x:AO}{o:Obj} (R:Rel C ⟨ρ,ms⟩ imm s) {h':Heap} (hk:∀ b o,s.heap.get? b=some o→h'.get? b=some o) (hx:AOIs C.prog C.w imm o x) (ho:h'.get? a=some o) (hn:s.heap.get? a=none) {dr:Drawn}{tk:Nat} :
 Rel C ⟨ρ,(a,x)::ms⟩ imm ⟨h',s.gens,dr,tk,s.os⟩:=by
 refine Rel.elim R fun m os kc fs R=>?_
 obtain ⟨f1,f2,f3,f4,f5⟩:=R.fresh hn
 have G:=R.grow hk (d:=dr) (tk:=tk)
 refine ⟨m,(a,o)::os,kc,fs,{
  fr:=G.fr
  nw:=fun p hp=>by
   rcases mcj hp with e | hp
   ·subst e;exact ⟨ho,f1,f2⟩
   ·exact G.nw p hp
  mu:=.cons hx R.mu
  kd:=R.kd
  nd:=by rw [lca,lmc,List.nodup_cons];exact ⟨f3,R.nd⟩
  ap:=fun q hq=>by
   rw [lca,lmc,List.mem_cons]
   rintro (e | h)
   ·rcases maj hq with h | h
    ·exact f5 (List.mem_map.mpr ⟨q,h,e⟩)
    ·exact f4 (List.mem_map.mpr ⟨q,h,e⟩)
   ·exact R.ap q hq h
  ah:=R.ah
  hn:=R.hn
  ou:=R.ou
  nm:=R.nm
  kn:=R.kn
  va:=R.va
  cc:=R.cc
  gn:=R.gn
  so:=R.so }⟩
theorem Rel.fewer {ρ:List Slot}{ms ms'} (R:Rel C ⟨ρ,ms⟩ imm s) (h:List.Sublist ms' ms):Rel C ⟨ρ,ms'⟩ imm s:=by
 refine Rel.elim R fun m os kc fs R=>?_
 have key:∀ {os:List Cell}{ms ms':List (Addr×AO)},List.Sublist ms' ms→Muts C.prog C.w imm os ms→∃ os',List.Sublist os' os∧Muts C.prog C.w imm os' ms':=by
  intro os ms ms' h
  induction h generalizing os with
  | slnil=>intro h;cases h;exact ⟨[],.slnil,.nil⟩
  | cons a _ ih=>intro h;cases h with | cons h r=>obtain ⟨os',s,k⟩:=ih r;exact ⟨os',.cons _ s,k⟩
  | cons_cons a _ ih=>intro h;cases h with | cons h r=>obtain ⟨os',s,k⟩:=ih r;exact ⟨_::os',.cons_cons _ s,.cons h k⟩
 obtain ⟨os',sl,mu'⟩:=key h R.mu
 have sub:(os'++kc).map (·.1) |>.Sublist ((os++kc).map (·.1)):=(sl.append_right kc).map _
 exact ⟨m,os',kc,fs,{
  fr:=R.fr
  nw:=fun p hp=>by
   rcases maj hp with h | h
   ·exact R.mem_os (sl.subset h)
   ·exact R.nw p (mar _ h)
  mu:=mu'
  kd:=R.kd
  nd:=sub.nodup R.nd
  ap:=fun q hq h=>R.ap q hq (sub.subset h)
  ah:=R.ah
  hn:=R.hn
  ou:=R.ou
  nm:=R.nm
  kn:=R.kn
  va:=R.va
  cc:=R.cc
  gn:=R.gn
  so:=R.so }⟩
theorem Rel.perm {ρ:List Slot}{ms ms'} (R:Rel C ⟨ρ,ms⟩ imm s) (h:ms.Perm ms'):Rel C ⟨ρ,ms'⟩ imm s:=by
 refine Rel.elim R fun m os kc fs R=>?_
 have key:∀ {os:List Cell}{ms ms':List (Addr×AO)},ms.Perm ms'→Muts C.prog C.w imm os ms→∃ os',os.Perm os'∧Muts C.prog C.w imm os' ms':=by
  intro os ms ms' h
  induction h generalizing os with
  | nil=>intro h;cases h;exact ⟨[],.nil,.nil⟩
  | cons a _ ih=>intro h;cases h with | cons h r=>obtain ⟨os',s,k⟩:=ih r;exact ⟨_::os',s.cons _,.cons h k⟩
  | swap a b l=>intro h;cases h with | cons h r=>cases r with | cons h' r=>exact ⟨_,.swap ..,.cons h' (.cons h r)⟩
  | trans _ _ ih1 ih2=>intro h;obtain ⟨o1,s1,k1⟩:=ih1 h;obtain ⟨o2,s2,k2⟩:=ih2 k1;exact ⟨o2,s1.trans s2,k2⟩
 obtain ⟨os',sl,mu'⟩:=key h R.mu
 have sub:((os++kc).map (·.1)).Perm ((os'++kc).map (·.1)):=(sl.append_right kc).map _
 exact ⟨m,os',kc,fs,{
  fr:=R.fr
  nw:=fun p hp=>by
   rcases maj hp with h | h
   ·exact R.mem_os (sl.mem_iff.mpr h)
   ·exact R.nw p (mar _ h)
  mu:=mu'
  kd:=R.kd
  nd:=sub.nodup_iff.mp R.nd
  ap:=fun q hq h=>R.ap q hq (sub.mem_iff.mpr h)
  ah:=R.ah
  hn:=R.hn
  ou:=R.ou
  nm:=R.nm
  kn:=R.kn
  va:=R.va
  cc:=R.cc
  gn:=R.gn
  so:=R.so }⟩
end
inductive TopAt (h:Heap):Prop
 | mk (p loose mg mb):TopRead p loose mg mb h→TopAt h
structure Ok (C:Cx) (n:Nat):Prop where
 fk:C.env.scope.kind=.function
 gl:C.env.globals=mainGlobals
 bi:C.env.builtins=builtinsNs
 dep:C.A.depth+n<recursionLimit
 un:C.A.units+20 * n+20<cLine
 hn:C.A.handled=none
 nb:∀ x k,C.env.kindOf x=some k→(x == ("__debug__":Str))=false∧(x == ("__classdict__":Str))=false
 ci:∀ x y c,C.env.cells.lookup x=some c→C.env.cells.lookup y=some c→x=y
 kin:(K39 C.w.params).In C.base
 top:TopAt C.base
theorem Ok.le {C n m} (O:Ok C n) (h:m≤n):Ok C m:={ O with dep:=by have:=O.dep;lia,un:=by have:=O.un;lia }
structure X (C:Cx) (σ:AS) (e:Expr) (d:D):Prop where
 go:∀ imm s,Rel C σ imm s→∀ (Q E:Value→Shared→Prop),(∀ v imm' s',imm⊆imm'→Rel C σ imm' s'→DIn imm' v d→Q v s')→wpAny C.M C.A (eval e C.env) Q E s
theorem X.goB {C:Cx}{σ:AS}{e:Expr}{b:Bool} (h:X C σ e (.bool b)) (imm:List Cell) (s:Shared) (R:Rel C σ imm s) (Q E:Value→Shared→Prop) (q:∀ imm' s',imm⊆imm'→Rel C σ imm' s'→Q (.bool b) s'):wpAny C.M C.A (eval e C.env) Q E s:=h.go imm s R Q E fun v i s' a b c=>by cases c;exact q i s' a b
theorem X.goI {C:Cx}{σ:AS}{e:Expr}{x:Int} (h:X C σ e (.int x)) (imm:List Cell) (s:Shared) (R:Rel C σ imm s) (Q E:Value→Shared→Prop) (q:∀ t imm' s',imm⊆imm'→Rel C σ imm' s'→Q (.int x t) s'):wpAny C.M C.A (eval e C.env) Q E s:=h.go imm s R Q E fun v i s' a b c=>by cases c;exact q _ i s' a b
theorem X.goV {C:Cx}{σ:AS}{e:Expr}{w:Value} (h:X C σ e (.val w)) (imm:List Cell) (s:Shared) (R:Rel C σ imm s) (Q E:Value→Shared→Prop) (q:∀ imm' s',imm⊆imm'→Rel C σ imm' s'→Q w s'):wpAny C.M C.A (eval e C.env) Q E s:=h.go imm s R Q E fun v i s' a b c=>by cases c;exact q i s' a b
structure T (C:Cx) (σ:AS) (e:Expr) (b:Bool):Prop where
 go:∀ imm s,Rel C σ imm s→∀ (Q:Bool→Shared→Prop) (E:Value→Shared→Prop),(∀ imm' s',imm⊆imm'→Rel C σ imm' s'→Q b s')→wpAny C.M C.A (PySem.isTrue e C.env (eval e C.env)) Q E s
structure Op (C:Cx) (op:Operator) (d1 d2 d:D):Prop where
 go:∀ σ imm v1 v2,DIn imm v1 d1→DIn imm v2 d2→∀ s,Rel C σ imm s→∀ (Q E:Value→Shared→Prop),(∀ v imm' s',imm⊆imm'→Rel C σ imm' s'→DIn imm' v d→Q v s')→wpAny C.M C.A (binaryOp op v1 v2) Q E s
structure Cmp (C:Cx) (σ:AS) (op:CmpOp) (d1 d2:D) (b:Bool):Prop where
 go:∀ imm v1 v2,DIn imm v1 d1→DIn imm v2 d2→∀ s,Rel C σ imm s→∀ (Q E:Value→Shared→Prop),(∀ imm' s',imm⊆imm'→Rel C σ imm' s'→Q (.bool b) s')→wpAny C.M C.A (compareOp op v1 v2) Q E s
structure Tr (C:Cx) (σ:AS) (d:D) (b:Bool):Prop where
 go:∀ imm v,DIn imm v d→∀ s,Rel C σ imm s→∀ (Q:Bool→Shared→Prop) (E:Value→Shared→Prop),(∀ imm' s',imm⊆imm'→Rel C σ imm' s'→Q b s')→wpAny C.M C.A (truthy v) Q E s
theorem qa2 {l:List Cell}:l⊆l:=fun V h=>h
theorem qa0 {a b c:List Cell} (h:a⊆b) (k:b⊆c):a⊆c:=fun V x=>k (h x)
section
variable {C:Cx}{σ:AS}{n:Nat}{imm:List Cell}
theorem X_name {x:Str}{k:NameKind}{d:D}{pos:Pos} (O:Ok C n) (h:Has x k (some d) σ.ρ):X C σ (.Name x pos) d:=by
 constructor
 intro imm s R Q E q
 have R':=R
 refine Rel.elim R' fun m os kc fs RX=>?_
 have hk:=RX.kn _ h.mem
 obtain ⟨n1,n2⟩:=O.nb _ _ hk
 have hv:=RX.va _ h.mem d rfl
 dsimp only at hk hv
 cases hv with
 | loc h1 r=>exact wpAny_Name (wpAny_loadName_local O.fk hk RX.fr.ns h1 (q _ _ _ qa2 R r)) n1
 | cell h1 h2 h3 r=>exact wpAny_Name (wpAny_loadName_cell O.fk hk h1 ⟨_,(RX.mem_kc h2).1,h3⟩ (q _ _ _ qa2 R r)) n1
 | cap h1 h2 h3 r=>exact wpAny_Name (wpAny_loadName_cell O.fk hk h1 ⟨_,(RX.mem_hid (C.capH _ h2)).1,h3⟩ (q _ _ _ qa2 R r)) n1
 | free h1 h2 h3 r=>exact wpAny_Name (wpAny_loadName_free O.fk hk h1 ⟨_,(RX.mem_imm h2).1,h3⟩ (q _ _ _ qa2 R r) n2) n1
def GV (P:Params) (x:Str) (v:Value):Prop:=nsIn (K39 P) mainGlobals x=some (some v)∨(nsIn (K39 P) mainGlobals x=some none∧bootBuiltins x=some v∧x≠"__name__")
theorem X_glob {x:Str}{v:Value}{pos:Pos} (O:Ok C n) (h:Has x .globalImplicit none σ.ρ) (g:GV C.w.params x v):X C σ (.Name x pos) (.val v):=by
 constructor
 intro imm s R Q E q
 have R':=R
 refine Rel.elim R' fun m os kc fs RX=>?_
 have hk:=RX.kn _ h.mem
 obtain ⟨n1,n2⟩:=O.nb _ _ hk
 obtain ⟨p,loose,mg,mb,TT⟩:=O.top
 have hg:s.heap.Ns C.env.globals mg:=by rw [O.gl];exact TT.g.keeps RX.fr.keep
 have hb:s.heap.Ns C.env.builtins mb:=by rw [O.bi];exact TT.b.keeps RX.fr.keep
 rcases g with g | ⟨g1,g2,g3⟩
 ·exact Name_function_global O.fk hk (loadGlobal_global (env:=C.env) hg (mg_of O.kin TT.g g) (q _ _ _ qa2 R (.val v))) n1
 ·exact Name_function_global O.fk hk (loadGlobal_builtin (env:=C.env) hg (mg_none_of O.kin TT.g g1) hb ((TT.builtins x g3).trans g2) (q _ _ _ qa2 R (.val v))) n1
theorem X.as {e:Expr}{v:Value}{d:D} (h:X C σ e (.val v)) (k:DIn [] v d):X C σ e d :=
 .mk fun imm s R Q E q=>h.go imm s R Q E fun v' imm' s' hs R' hv=>by cases hv;exact q _ imm' s' hs R' (k.mono (List.nil_subset _))
theorem X_int {i:Int}{k:Nat}{pos:Pos}:X C σ (.Constant (.int i) k pos) (.int i):=.mk fun imm s R Q E q=>wpAny_Constant_int (q _ _ _ qa2 (R.tok _) (.int i _))
theorem X_str {x:Str}{k:Nat}{pos:Pos}:X C σ (.Constant (.str x) k pos) (.str x):=.mk fun imm s R Q E q=>wpAny_Constant_str (q _ _ _ qa2 (R.tok _) (.str x _))
theorem qf4 {b:List UInt8}{k:Nat}{pos:Pos}{ks:List Int} (h:bI b.toArray=ks):X C σ (.Constant (.bytes b) k pos) (.bytes ks) :=
 .mk fun imm s R Q E q=>by
  show wpAny _ _ (mkTextBytes b.toArray) _ _ _
  exact wpAny_bind (m:=fresh) (fun Γ p hΓ=>(wpAny_pure (q _ _ _ qa2 (R.tok (s.toks+1)) (.bytes h)):wpAny C.M C.A (pure (Value.bytes b.toArray s.toks)) Q E { s with toks:=s.toks+1 }))
theorem X_bool {b:Bool}{k:Nat}{pos:Pos}:X C σ (.Constant (.bool b) k pos) (.bool b):=.mk fun imm s R Q E q=>wpAny_Constant_bool (q _ _ _ qa2 R (.bool b))
theorem X_none {k:Nat}{pos:Pos}:X C σ (.Constant .none k pos) .none:=.mk fun imm s R Q E q=>wpAny_Constant_none (q _ _ _ qa2 R .none)
theorem X_bin {l r:Expr}{op:Operator}{pos:Pos}{d1 d2 d:D} (h1:X C σ l d1) (h2:X C σ r d2) (o:Op C op d1 d2 d):X C σ (.BinOp l op r pos) d :=
 .mk fun imm s R Q E q=>wpAny_BinOp (h1.go imm s R _ _ fun v1 i1 s1 hs1 R1 hv1=>h2.go i1 s1 R1 _ _ fun v2 i2 s2 hs2 R2 hv2 =>
  o.go σ i2 v1 v2 (hv1.mono hs2) hv2 s2 R2 _ _ fun v i3 s3 hs3 R3 hv=>q v i3 s3 (qa0 hs1 (qa0 hs2 hs3)) R3 hv)
theorem X_cmp {l r:Expr}{op:CmpOp}{pos:Pos}{d1 d2:D}{b:Bool} (h1:X C σ l d1) (h2:X C σ r d2) (o:Cmp C σ op d1 d2 b) (hm:behindInMarks op r=false:=by rfl):X C σ (.Compare l [op] [r] pos) (.bool b) :=
 .mk fun imm s R Q E q=>wpAny_Compare1 (h1.go imm s R _ _ fun v1 i1 s1 hs1 R1 hv1=>h2.go i1 s1 R1 _ _ fun v2 i2 s2 hs2 R2 hv2 =>
  o.go i2 v1 v2 (hv1.mono hs2) hv2 s2 R2 _ _ fun i3 s3 hs3 R3=>q _ i3 s3 (qa0 hs1 (qa0 hs2 hs3)) R3 (.bool b)) hm
theorem T_cmp {l r:Expr}{op:CmpOp}{pos:Pos}{d1 d2:D}{b:Bool} (h1:X C σ l d1) (h2:X C σ r d2) (o:Cmp C σ op d1 d2 b) (hm:behindInMarks op r=false:=by rfl):T C σ (.Compare l [op] [r] pos) b :=
 .mk fun imm s R Q E q=>wpAny_isTrue_Compare1 (h1.go imm s R _ _ fun v1 i1 s1 hs1 R1 hv1=>h2.go i1 s1 R1 _ _ fun v2 i2 s2 hs2 R2 hv2 =>
  o.go i2 v1 v2 (hv1.mono hs2) hv2 s2 R2 _ _ fun i3 s3 hs3 R3=>wpAny_truthy_bool (q i3 s3 (qa0 hs1 (qa0 hs2 hs3)) R3)) hm
theorem T_not {x:Expr}{pos:Pos}{b:Bool} (h:T C σ x b):T C σ (.UnaryOp .Not x pos) (!b):=.mk fun imm s R Q E q=>wpAny_isTrue_Not (h.go imm s R _ _ q)
theorem T_val {e:Expr}{d:D}{b:Bool} (hT:∀ env w,PySem.isTrue e env w=(do let v ← w;standAt e.pos;holding [v] (truthy v))) (h:X C σ e d) (t:Tr C σ d b):T C σ e b :=
 .mk fun imm s R Q E q=>by
  rw [hT]
  exact wpAny_bind (h.go imm s R _ _ fun v i1 s1 hs1 R1 hv=>wpAny_bind (wpAny_standAt (wpAny_holding (t.go i1 v hv s1 R1 _ _ fun i2 s2 hs2 R2=>q i2 s2 (qa0 hs1 hs2) R2))))
theorem T_name {x:Str}{pos:Pos}{d:D}{b:Bool} (h:X C σ (.Name x pos) d) (t:Tr C σ d b):T C σ (.Name x pos) b:=T_val (fun V V=>rfl) h t
theorem Tr_bool {b:Bool}:Tr C σ (.bool b) b:=.mk fun imm v hv s R Q E q=>by cases hv;exact wpAny_truthy_bool (q _ _ qa2 R)
inductive Ts (C:Cx) (σ:AS):BoolOp→List Expr→Bool→Prop
 | nil {op}:Ts C σ op [] (op == .And)
 | and {e es b bs}:T C σ e b→(b=true→Ts C σ .And es bs)→Ts C σ .And (e::es) (b && bs)
 | or {e es b bs}:T C σ e b→(b=false→Ts C σ .Or es bs)→Ts C σ .Or (e::es) (b || bs)
theorem Ts.run {op es b} (h:Ts C σ op es b):∀ imm s,Rel C σ imm s→∀ (Q:Bool→Shared→Prop) (E:Value→Shared→Prop),(∀ imm' s',imm⊆imm'→Rel C σ imm' s'→Q b s')→wpAny C.M C.A (allTrue op es C.env) Q E s:=by
 induction h with
 | @nil op=>intro imm s R Q E q;cases op with
  | And=>exact wpAny_allTrue_And_nil (q _ _ qa2 R)
  | Or=>exact wpAny_allTrue_Or_nil (q _ _ qa2 R)
 | @and e es b bs h k ih =>
  intro imm s R Q E q
  refine wpAny_allTrue_And_cons (h.go imm s R _ _ fun i1 s1 hs1 R1=>?_)
  cases b with
  | false=>exact q i1 s1 hs1 R1
  | true=>exact ih rfl i1 s1 R1 _ _ fun i2 s2 hs2 R2=>q i2 s2 (qa0 hs1 hs2) R2
 | @or e es b bs h k ih =>
  intro imm s R Q E q
  refine wpAny_allTrue_Or_cons (h.go imm s R _ _ fun i1 s1 hs1 R1=>?_)
  cases b with
  | true=>exact q i1 s1 hs1 R1
  | false=>exact ih rfl i1 s1 R1 _ _ fun i2 s2 hs2 R2=>q i2 s2 (qa0 hs1 hs2) R2
theorem T_bool {op:BoolOp}{es:List Expr}{pos:Pos}{b:Bool} (h:Ts C σ op es b):T C σ (.BoolOp op es pos) b:=.mk fun imm s R Q E q=>wpAny_isTrue_BoolOp (h.run imm s R _ _ q)
theorem X_ite {t a b:Expr}{pos:Pos}{c:Bool}{d:D} (h:T C σ t c) (h1:c=true→X C σ a d) (h2:c=false→X C σ b d):X C σ (.IfExp t a b pos) d :=
 .mk fun imm s R Q E q=>wpAny_IfExp (h.go imm s R _ _ fun i1 s1 hs1 R1=>by
  cases c with
  | true=>exact (h1 rfl).go i1 s1 R1 _ _ fun v i2 s2 hs2 R2 hv=>q v i2 s2 (qa0 hs1 hs2) R2 hv
  | false=>exact (h2 rfl).go i1 s1 R1 _ _ fun v i2 s2 hs2 R2 hv=>q v i2 s2 (qa0 hs1 hs2) R2 hv)
end
theorem RelX.ofFN {C:Cx}{σ:AS}{imm:List Cell}{s:Shared}{m:Str→Option Value}{os kc fs:List Cell} (R:RelX C σ imm s m os kc fs) {h':Heap} (F:Fr C.base C.env.locals h' m)
 (N:News C.base C.env.locals h' (os++(kc++(imm++(fs++C.hid))))) {d:Drawn}{tk:Nat}:RelX C σ imm ⟨h',s.gens,d,tk,s.os⟩ m os kc fs :=
 { R with fr:=F,nw:=N }
theorem RelX.rel {C:Cx}{σ:AS}{imm:List Cell}{s:Shared}{m:Str→Option Value}{os kc fs:List Cell} (R:RelX C σ imm s m os kc fs):Rel C σ imm s:=⟨m,os,kc,fs,R⟩
section
variable {C:Cx}{σ:AS}{n:Nat}{imm:List Cell}{a b:Int}
theorem Op.ints {op:Operator}{d:D} (h:∀ σ imm t1 t2 s,Rel C σ imm s→∀ (Q E:Value→Shared→Prop),(∀ v imm' s',imm⊆imm'→Rel C σ imm' s'→DIn imm' v d→Q v s')→wpAny C.M C.A (binaryOp op (.int a t1) (.int b t2)) Q E s):Op C op (.int a) (.int b) d:=.mk fun σ imm v1 v2 h1 h2=>by cases h1;cases h2;exact h σ imm _ _
theorem Cmp.ints {op:CmpOp}{x:Bool} (h:∀ imm t1 t2 s,Rel C σ imm s→∀ (Q E:Value→Shared→Prop),(∀ imm' s',imm⊆imm'→Rel C σ imm' s'→Q (.bool x) s')→wpAny C.M C.A (compareOp op (.int a t1) (.int b t2)) Q E s):Cmp C σ op (.int a) (.int b) x:=.mk fun imm v1 v2 h1 h2=>by cases h1;cases h2;exact h imm _ _
theorem Op_add:Op C .Add (.int a) (.int b) (.int (a+b)):=.ints fun σ imm t1 t2 s R Q E q=>by
 with_reducible exact add_int (q _ _ _ qa2 (R.tok _) (.int _ _))
theorem Op_sub:Op C .Sub (.int a) (.int b) (.int (a - b)):=.ints fun σ imm t1 t2 s R Q E q=>by
 with_reducible exact sub_int (q _ _ _ qa2 (R.tok _) (.int _ _))
theorem Op_mulR (h:-(2 ^ 64)<b∧b<2 ^ 64):Op C .Mult (.int a) (.int b) (.int (a * b)):=.ints fun σ imm t1 t2 s R Q E q=>by
 with_reducible exact mul_int (q _ _ _ qa2 (R.tok _) (.int _ _)) (IntMulOk.of_right (intBits_le_64 h.1 h.2))
theorem qgz {b:Int} (h:0<b) (hb:b<1073741824):b.natAbs<1073741824:=Int.natAbs_lt_natAbs_of_nonneg_of_lt (Int.le_of_lt h) hb
theorem Op_div (h:0<b) (hb:b<1073741824):Op C .FloorDiv (.int a) (.int b) (.int (a / b)):=.ints fun σ imm t1 t2 s R Q E q=>by
 with_reducible refine floordiv_int (Int.ne_of_gt h) ?_ (.inl (PyProof.noPylong_small (qgz h hb)))
 rw [Int.fdiv_eq_ediv_of_nonneg _ (Int.le_of_lt h)]
 exact q _ _ _ qa2 (R.tok _) (.int _ _)
theorem Op_divL (h:0<b) (hb:b.natAbs.log2<9000):Op C .FloorDiv (.int a) (.int b) (.int (a / b)):=.ints fun σ imm t1 t2 s R Q E q=>by
 with_reducible refine floordiv_int (Int.ne_of_gt h) ?_ (.inl (PyProof.noPylong_of_log2 hb))
 rw [Int.fdiv_eq_ediv_of_nonneg _ (Int.le_of_lt h)]
 exact q _ _ _ qa2 (R.tok _) (.int _ _)
theorem Op_mod (h:0<b):Op C .Mod (.int a) (.int b) (.int (a % b)):=.ints fun σ imm t1 t2 s R Q E q=>by
 with_reducible refine mod_int' (Int.ne_of_gt h) ?_
 rw [Int.fmod_eq_emod_of_nonneg _ (Int.le_of_lt h)]
 exact q _ _ _ qa2 (R.tok _) (.int _ _)
theorem Op_and:Op C .BitAnd (.int a) (.int b) (.int (Builtin.bitAnd a b)):=.ints fun σ imm t1 t2 s R Q E q=>by
 with_reducible exact and_int (q _ _ _ qa2 (R.tok _) (.int _ _))
theorem Op_pow (h0:0≤b) (h1:(Builtin.Int.intBits a:Int) * b≤2 ^ 27):Op C .Pow (.int a) (.int b) (.int (a ^ b.toNat)):=.ints fun σ imm t1 t2 s R Q E q=>by
 with_reducible exact pow_int h0 (by assumption) (q _ _ _ qa2 (R.tok _) (.int _ _))
theorem Cmp_lt:Cmp C σ .Lt (.int a) (.int b) (decide (a<b)):=.ints fun imm t1 t2 s R Q E q=>by
 with_reducible exact lt_int (q _ _ qa2 R)
theorem Cmp_gt:Cmp C σ .Gt (.int a) (.int b) (decide (b<a)):=.ints fun imm t1 t2 s R Q E q=>by
 with_reducible exact gt_int (q _ _ qa2 R)
theorem Cmp_le:Cmp C σ .LtE (.int a) (.int b) (decide (a≤b)):=.ints fun imm t1 t2 s R Q E q=>by
 with_reducible exact PyProof.Rows.le_int (q _ _ qa2 R)
theorem Cmp_ge:Cmp C σ .GtE (.int a) (.int b) (decide (b≤a)):=.ints fun imm t1 t2 s R Q E q=>by
 with_reducible exact PyProof.Rows.ge_int (q _ _ qa2 R)
theorem Cmp_eq:Cmp C σ .Eq (.int a) (.int b) (a == b):=.ints fun imm t1 t2 s R Q E q=>by
 with_reducible exact eq_int (q _ _ qa2 R)
theorem Cmp_ne:Cmp C σ .NotEq (.int a) (.int b) (a != b):=.ints fun imm t1 t2 s R Q E q=>by
 with_reducible exact ne_int (q _ _ qa2 R)
theorem Cmp_eqS {x y:Str}:Cmp C σ .Eq (.str x) (.str y) (x == y):=.mk fun imm v1 v2 h1 h2 s R Q E q=>by
 refine DIn.eS h1 fun V=>DIn.eS h2 fun V=>?_
 with_reducible exact PyProof.Rows.eq_str (q _ _ qa2 R)
theorem Cmp_neS {x y:Str}:Cmp C σ .NotEq (.str x) (.str y) (x != y):=.mk fun imm v1 v2 h1 h2 s R Q E q=>by
 refine DIn.eS h1 fun V=>DIn.eS h2 fun V=>?_
 with_reducible exact PyProof.Rows.ne_str (q _ _ qa2 R)
theorem bI_inj {x y:Array UInt8} (h:bI x=bI y):x=y:=by
 obtain ⟨x⟩:=x
 obtain ⟨y⟩:=y
 have:x.map (fun c=>(c.toNat:Int))=y.map (fun c=>(c.toNat:Int)):=h
 rw [(List.map_inj_right (fun c d e=>UInt8.toNat_inj.mp (Int.ofNat_inj.mp e))).mp this]
theorem Cmp_eqB {ks ls:List Int}:Cmp C σ .Eq (.bytes ks) (.bytes ls) (ks == ls):=.mk fun imm v1 v2 h1 h2 s R Q E q=>by
 refine DIn.eB h1 fun b t e1=>DIn.eB h2 fun c u e2=>?_
 with_reducible refine eq_bytes ?_
 have:(b.toList == c.toList)=(ks == ls):=by
  rw [Bool.eq_iff_iff,beq_iff_eq,beq_iff_eq,← e1,← e2]
  exact ⟨fun h=>by rw [Array.ext' h],fun h=>congrArg Array.toList (bI_inj h)⟩
 rw [this]
 exact q _ _ qa2 R
theorem Cmp_neB {ks ls:List Int}:Cmp C σ .NotEq (.bytes ks) (.bytes ls) (ks != ls):=.mk fun imm v1 v2 h1 h2 s R Q E q=>by
 refine DIn.eB h1 fun b t e1=>DIn.eB h2 fun c u e2=>?_
 with_reducible refine ne_bytes ?_
 have:(b.toList == c.toList)=(ks == ls):=by
  rw [Bool.eq_iff_iff,beq_iff_eq,beq_iff_eq,← e1,← e2]
  exact ⟨fun h=>by rw [Array.ext' h],fun h=>congrArg Array.toList (bI_inj h)⟩
 unfold bne at q ⊢
 rw [this]
 exact q _ _ qa2 R
theorem Op_addB {ks ls:List Int} (hz:ks.length+ls.length≤16777216):Op C .Add (.bytes ks) (.bytes ls) (.bytes (ks++ls)):=.mk fun σ imm v1 v2 h1 h2 s R Q E q=>by
 refine DIn.eB h1 fun V V e1=>DIn.eB h2 fun V V e2=>?_
 with_reducible exact KBa.add_K e1 e2 hz fun t' k e=>q _ _ _ qa2 (R.tok k) (.bytes e)
end
inductive Fl where
 | next | brk | cont
 | ret (d:D)
inductive FlIs (imm:List Cell):Flow→Fl→Prop
 | next:FlIs imm .next .next
 | brk:FlIs imm .brk .brk
 | cont:FlIs imm .cont .cont
 | ret {v d}:DIn imm v d→FlIs imm (.ret v) (.ret d)
inductive qd2 (C:Cx) (imm:List Cell) (K:Fl→AS→Prop) (f:Flow) (s':Shared):Prop
 | mk (f':Fl) (σ':AS) (imm':List Cell):imm⊆imm'→Rel C σ' imm' s'→FlIs imm' f f'→K f' σ'→qd2 C imm K f s'
theorem qd2.up {C:Cx}{imm i1:List Cell}{K:Fl→AS→Prop}{f:Flow}{s':Shared} (hs:imm⊆i1) (h:qd2 C i1 K f s'):qd2 C imm K f s':=by
 cases h with | mk f' σ' i a b c d=>exact ⟨f',σ',i,qa0 hs a,b,c,d⟩
theorem qd2.of {C:Cx}{imm:List Cell}{K K':Fl→AS→Prop}{f:Flow}{s':Shared} (k:∀ f σ,K f σ→K' f σ) (h:qd2 C imm K f s'):qd2 C imm K' f s':=by
 cases h with | mk f' σ' i a b c d=>exact ⟨f',σ',i,a,b,c,k _ _ d⟩
structure S (C:Cx) (σ:AS) (t:Sem Flow) (K:Fl→AS→Prop) (E:Value→Shared→Prop):Prop where
 go:∀ imm s,Rel C σ imm s→wpAny C.M C.A t (qd2 C imm K) E s
abbrev SL (C:Cx) (σ:AS) (ss:List Stmt) (K:Fl→AS→Prop) (E:Value→Shared→Prop):Prop:=S C σ (execs ss C.env) K E
section
variable {C:Cx}{σ:AS}{n:Nat}{K:Fl→AS→Prop}{E:Value→Shared→Prop}{rest:List Stmt}
theorem qam (h:K .next σ):SL C σ [] K E:=.mk fun imm s R=>wpAny_execs_nil ⟨.next,σ,imm,qa2,R,.next,h⟩
theorem S.mono {t:Sem Flow}{K':Fl→AS→Prop} (h:S C σ t K E) (k:∀ f σ',K f σ'→K' f σ'):S C σ t K' E:=.mk fun imm s R =>
 wpAny_mono (h.go imm s R) (fun V V h=>h.of k) fun V V x=>x
theorem S_return {e:Expr}{pos:Pos}{d:D} (h:X C σ e d) (k:K (.ret d) σ):SL C σ (.Return (some e) pos::rest) K E:=.mk fun imm s R =>
 wpAny_execs_cons (wpAny_Return_some (h.go imm s R _ _ fun v i' s' hs R' hv=>⟨_,σ,i',hs,R',.ret hv,k⟩))
theorem qb7 {M:Model}{Γ:PySem.Ctx}{env:Env}{xs ys:List Stmt}{Q:Flow→Pos→Shared→Prop}{E:Value→Pos→Shared→Prop}{p:Pos}{s:Shared} :
 Sem.wp M Γ (execs (xs++ys) env) Q E p s=Sem.wp M Γ (execs xs env) (fun f p' s'=>Sem.wp M Γ (match f with | .next=>execs ys env | f=>pure f) Q E p' s') E p s:=by
 induction xs generalizing p s with
 | nil=>rw [lna,execs_nil,Sem.wp_pure']
 | cons x xs ih =>
  rw [lca,execs_cons,execs_cons,Sem.wp_bind',Sem.wp_bind']
  congr 1
  funext f p' s'
  cases f with
  | next=>exact ih
  | _=>rw [Sem.wp_pure',Sem.wp_pure',Sem.wp_pure']
theorem S_if {t:Expr}{body orelse:List Stmt}{pos:Pos}{b:Bool} (h:T C σ t b) (h1:b=true→SL C σ (body++rest) K E) (h2:b=false→SL C σ (orelse++rest) K E):SL C σ (.If t body orelse pos::rest) K E:=by
 constructor
 intro imm s R Γ p hΓ
 rw [execs_cons,Sem.wp_bind']
 simp only [exec_If,Sem.wp_bind',Sem.wp_cmd_standAt]
 have key:=h.go imm s R (fun b' s1=>∀ p',Sem.wp C.M Γ (if b'=true then execs body C.env else execs orelse C.env) (fun f p' s'=>Sem.wp C.M Γ (match f with | .next=>execs rest C.env | f=>pure f)
  (fun f V s'=>qd2 C imm K f s') (fun e V s'=>E e s') p' s') (fun e V s'=>E e s') p' s1) E (fun i1 s1 hs1 R1 p'=>?_) Γ pos hΓ
 ·exact Sem.wp_mono C.M Γ _ (fun b p2 s2 h2=>h2 p2) (fun V V V x=>x) _ _ key
 ·have lift:∀ ss,SL C σ (ss++rest) K E→Sem.wp C.M Γ (execs ss C.env) (fun f p' s'=>Sem.wp C.M Γ (match f with | .next=>execs rest C.env | f=>pure f)
   (fun f V s'=>qd2 C imm K f s') (fun e V s'=>E e s') p' s') (fun e V s'=>E e s') p' s1:=fun ss hS=>by
   rw [← qb7]
   exact Sem.wp_mono C.M Γ _ (fun V V V h=>h.up hs1) (fun V V V x=>x) _ _ (hS.go i1 s1 R1 Γ p' hΓ)
  cases b with
  | true=>exact lift _ (h1 rfl)
  | false=>exact lift _ (h2 rfl)
end
structure FnRec (P:Params) (f:Addr) (fd:FuncData) (body:List Stmt) (ps:List Str):Prop where
 lk:(K39 P).lookup f=some { cls:=.type "function",data:=.func fd }
 code:codeIn (K39 P) fd.code fd.qualname=true
 body:fd.body=.stmts body
 bind:∀ vs:List Value,vs.length=ps.length→bindArgs fd ⟨vs,[]⟩=pure (ps.zip vs)
 gl:fd.globals=mainGlobals
 bi:fd.builtins=builtinsNs
 clo:fd.closure=[]
 hk:fd.scope.kind=.function
 hg:fd.scope.isGenerator=false
 hc:fd.scope.isCoroutine=false
 nd:(fd.scope.names.map (·.1)).Nodup
 nb:(fd.scope.names.all fun x=>!(x.1 == ("__debug__":Str)) && !(x.1 == ("__classdict__":Str)))=true
 pk:(ps.all fun x=>fd.scope.names.lookup x == some .local || fd.scope.names.lookup x == some .cell)=true
 pn:ps.Nodup
noncomputable def qa7 (names:List (Str×NameKind)) (ps:List Str) (ds:List D):List Slot:=names.map fun x=>⟨x.1,x.2,(ps.zip ds).lookup x.1⟩
theorem qa5 {β:Type}{cs:List (Str×β)}{n:Str}{c:β} (hnd:(cs.map (·.1)).Nodup) (hm:(n,c)∈cs):cs.lookup n=some c:=by
 induction cs with
 | nil=>cases hm
 | cons p cs ih =>
  cases p with | mk n' c' =>
  rw [lmc,List.nodup_cons] at hnd
  rcases mcj hm with e | hm
  ·cases e;simp
  ·have hne:n≠n':=fun e=>hnd.1 (e ▸ List.mem_map.mpr ⟨(n,c),hm,rfl⟩)
   rw [List.lookup_cons,beq_eq_false_iff_ne.mpr hne]
   exact ih hnd.2 hm
theorem qan {β:Type}{cs:List (Str×β)}{n:Str}{c:β} (h:cs.lookup n=some c):(n,c)∈cs:=by
 induction cs with
 | nil=>cases h
 | cons p cs ih =>
  cases p with | mk n' c' =>
  rw [List.lookup_cons] at h
  split at h
  ·rename_i e;cases h;rw [eq_of_beq e];exact .head _
  ·exact .tail _ (ih h)
theorem qgj (kindOf:Str→Option NameKind):∀ (ps:List Str) (vs:List Value) (m:Str→Option Value) (x:Str) (v:Value),ps.Nodup→(ps.zip vs).lookup x=some v→kindOf x=some .local→bindL kindOf (ps.zip vs) m x=some v
 | [],vs,m,x,v,_,h,_=>by simp at h
 | p::ps,[],m,x,v,_,h,_=>by simp at h
 | p::ps,v'::vs,m,x,v,nd,h,hk=>by
  rw [List.nodup_cons] at nd
  rw [List.zip_cons_cons] at h ⊢
  rw [List.lookup_cons] at h
  unfold bindL
  by_cases e:x=p
  ·subst e
   simp only [beq_self_eq_true] at h
   cases h
   rw [if_pos hk]
   have key:∀ (qs:List Str) (ws:List Value) (m:Str→Option Value),x ∉ qs→bindL kindOf (qs.zip ws) m x=m x:=by
    intro qs
    induction qs with
    | nil=>intro ws m _;rfl
    | cons q qs ih =>
     intro ws m hq
     cases ws with
     | nil=>rfl
     | cons w ws =>
      rw [List.zip_cons_cons]
      unfold bindL
      rw [ih _ _ fun z=>hq (.tail _ z)]
      split
      ·have:x≠q:=fun z=>hq (z ▸ .head _)
       simp [this]
      ·rfl
   rw [key _ _ _ nd.1]
   simp
  ·have:(x == p)=false:=beq_eq_false_iff_ne.mpr e
   rw [this] at h
   exact qgj kindOf ps vs _ x v nd.2 h hk
theorem qgk (kindOf:Str→Option NameKind):∀ (ps:List Str) (vs:List Value) (m:Str→Option Value) (x:Str) (v:Value),ps.Nodup→(ps.zip vs).lookup x=some v→kindOf x=some .cell→bindC kindOf (ps.zip vs) m x=some v
 | [],vs,m,x,v,_,h,_=>by simp at h
 | p::ps,[],m,x,v,_,h,_=>by simp at h
 | p::ps,v'::vs,m,x,v,nd,h,hk=>by
  rw [List.nodup_cons] at nd
  rw [List.zip_cons_cons] at h ⊢
  rw [List.lookup_cons] at h
  unfold bindC
  by_cases e:x=p
  ·subst e
   simp only [beq_self_eq_true] at h
   cases h
   rw [if_neg (by rw [hk];decide)]
   have key:∀ (qs:List Str) (ws:List Value) (m:Str→Option Value),x ∉ qs→bindC kindOf (qs.zip ws) m x=m x:=by
    intro qs
    induction qs with
    | nil=>intro ws m _;rfl
    | cons q qs ih =>
     intro ws m hq
     cases ws with
     | nil=>rfl
     | cons w ws =>
      rw [List.zip_cons_cons]
      unfold bindC
      rw [ih _ _ fun z=>hq (.tail _ z)]
      split
      ·rfl
      ·have:x≠q:=fun z=>hq (z ▸ .head _)
       simp [this]
   rw [key _ _ _ nd.1]
   simp
  ·have:(x == p)=false:=beq_eq_false_iff_ne.mpr e
   rw [this] at h
   exact qgk kindOf ps vs _ x v nd.2 h hk
theorem qfc {ps:List Str}:∀ {vs:List Value}{ds:List D}{imm:List Cell}{x:Str}{d:D},DAll imm vs ds→(ps.zip ds).lookup x=some d→∃ v,(ps.zip vs).lookup x=some v∧DIn imm v d:=by
 induction ps with
 | nil=>intro vs ds imm x d _ h;simp at h
 | cons p ps ih =>
  intro vs ds imm x d hv h
  cases hv with
  | nil=>simp at h
  | cons h1 h2 =>
   rw [List.zip_cons_cons,List.lookup_cons] at h ⊢
   split at h
   ·cases h;exact ⟨_,rfl,h1⟩
   ·exact ih h2 h
theorem Muts.split {prog w imm}:∀ {os:List Cell}{m1 m2:List (Addr×AO)},Muts prog w imm os (m1++m2)→∃ o1 o2,os=o1++o2∧Muts prog w imm o1 m1∧Muts prog w imm o2 m2:=by
 intro os m1
 induction m1 generalizing os with
 | nil=>intro m2 h;exact ⟨[],os,rfl,.nil,h⟩
 | cons q m1 ih =>
  intro m2 h
  cases h with
  | cons h r =>
   obtain ⟨o1,o2,rfl,k1,k2⟩:=ih r
   exact ⟨_::o1,o2,rfl,.cons h k1,k2⟩
theorem Muts.join {prog w imm}{o1 o2:List Cell}{m1 m2:List (Addr×AO)} (h:Muts prog w imm o1 m1) (k:Muts prog w imm o2 m2):Muts prog w imm (o1++o2) (m1++m2):=by
 induction h with
 | nil=>exact k
 | cons h _ ih=>exact .cons h ih
noncomputable abbrev Cx.called (C:Cx) (fd:FuncData) (L f:Addr) (hid:List Cell):Cx:={ C with A:=C.A.deeper (callEnvC fd L f),env:=callEnvC fd L f,hid:=hid,outs:=[],cap:=[],capH:=fun V h=>(nomatch h) }
theorem cells_inj {cs:List (Str×Addr)} (h:cs.Pairwise fun x y=>x.2≠y.2) {x y:Str}{c:Addr} (h1:cs.lookup x=some c) (h2:cs.lookup y=some c):x=y :=
 name_of_addr h (qan h1) (qan h2)
theorem qby {cm:Str→Option Value}{cs:List (Str×Addr)}{cells:List Cell} (h:CellsAre cm cs cells) {x:Str}{c:Addr} (hm:(x,c)∈cs):∃ o,(c,o)∈cells∧o.data=.cell (cm x):=by
 induction h with
 | nil=>cases hm
 | cons h _ ih =>
  rcases mcj hm with e | hm
  ·cases e;exact ⟨_,.head _,h⟩
  ·obtain ⟨o,h1,h2⟩:=ih hm;exact ⟨o,.tail _ h1,h2⟩
theorem qf0 {cm:Str→Option Value}{cs:List (Str×Addr)}{cells:List Cell} (h:CellsAre cm cs cells):∀ p∈cells,∃ v,p.2.data=.cell v:=by
 induction h with
 | nil=>intro p hp;cases hp
 | cons h _ ih =>
  intro p hp
  rcases mcj hp with e | hp
  ·subst e;exact ⟨_,h⟩
  ·exact ih p hp
theorem qd5 {cm:Str→Option Value}{cs:List (Str×Addr)}{cells:List Cell} (h:CellsAre cm cs cells):cells.map (·.1)=cs.map (·.2):=by
 induction h with
 | nil=>rfl
 | cons _ _ ih=>simp [ih]
theorem qat {x:Str}:∀ (names:List (Str×NameKind)) (n:Nat) (acc:List (Str×Addr)),(x,.cell)∈names∨(∃ c,(x,c)∈acc)→∃ c,(x,c)∈cellsFrom n names acc
 | [],n,acc,h=>by
  rcases h with h | h
  ·cases h
  ·exact h
 | (y,k)::r,n,acc,h=>by
  unfold cellsFrom
  split
  ·refine qat r _ _ ?_
   rcases h with h | ⟨c,h⟩
   ·rcases mcj h with e | h
    ·cases e;exact .inr ⟨_,.head _⟩
    ·exact .inl h
   ·exact .inr ⟨c,.tail _ h⟩
  ·rename_i hk
   refine qat r _ _ ?_
   rcases h with h | h
   ·rcases mcj h with e | h
    ·cases e;exact absurd rfl hk
    ·exact .inl h
   ·exact .inr h
theorem qbs (names:List (Str×NameKind)) (n:Nat) (nd:(names.map (·.1)).Nodup):((cellsFrom n names []).map (·.1)).Nodup:=by
 have key:∀ (names:List (Str×NameKind)) (n:Nat) (acc:List (Str×Addr)),(names.map (·.1)).Nodup→(acc.map (·.1)).Nodup→(∀ p∈acc,p.1 ∉ names.map (·.1))→((cellsFrom n names acc).map (·.1)).Nodup:=by
  intro names
  induction names with
  | nil=>intro n acc _ h _;exact h
  | cons p r ih =>
   intro n acc nd ha hd
   obtain ⟨y,k⟩:=p
   rw [lmc,List.nodup_cons] at nd
   unfold cellsFrom
   split
   ·refine ih _ _ nd.2 ?_ ?_
    ·rw [lmc,List.nodup_cons]
     refine ⟨fun h=>?_,ha⟩
     obtain ⟨q,hq,e⟩:=mmj h
     exact hd q hq (by rw [lmc,e];exact .head _)
    ·intro q hq
     rcases mcj hq with e | hq
     ·subst e;exact nd.1
     ·exact fun h=>hd q hq (by rw [lmc];exact .tail _ h)
   ·exact ih _ _ nd.2 ha fun q hq h=>hd q hq (by rw [lmc];exact .tail _ h)
 exact key names n [] nd .nil fun p hp=>(nomatch hp)
structure qdn (P:Params) (f:Addr) (fd:FuncData) (body:List Stmt) (ps:List Str):Prop where
 lk:(K39 P).lookup f=some { cls:=.type "function",data:=.func fd }
 code:codeIn (K39 P) fd.code fd.qualname=true
 body:fd.body=.stmts body
 bind:∀ (s:Shared) (vs:List Value),vs.length=ps.length→(K39 P).In s.heap→BindsTo s fd ⟨vs,[]⟩ (ps.zip vs)
 gl:fd.globals=mainGlobals
 bi:fd.builtins=builtinsNs
 clo:fd.closure=[]
 hk:fd.scope.kind=.function
 hg:fd.scope.isGenerator=false
 hc:fd.scope.isCoroutine=false
 nd:(fd.scope.names.map (·.1)).Nodup
 nb:(fd.scope.names.all fun x=>!(x.1 == ("__debug__":Str)) && !(x.1 == ("__classdict__":Str)))=true
 pk:(ps.all fun x=>fd.scope.names.lookup x == some .local || fd.scope.names.lookup x == some .cell)=true
 pn:ps.Nodup
theorem FnRec.toD {P:Params}{f:Addr}{fd:FuncData}{body:List Stmt}{ps:List Str} (F:FnRec P f fd body ps):qdn P f fd body ps :=
 { lk:=F.lk,code:=F.code,body:=F.body,bind:=fun s vs h V=>BindsTo.of_eq (F.bind vs h),gl:=F.gl,bi:=F.bi,clo:=F.clo,hk:=F.hk,hg:=F.hg,hc:=F.hc,nd:=F.nd,nb:=F.nb,pk:=F.pk,pn:=F.pn }
section
variable {C:Cx}{n:Nat}{imm:List Cell}{s:Shared}{ρ:List Slot}{M1 M2:List (Addr×AO)}{f:Addr}{fd:FuncData}{body:List Stmt}{ps:List Str}{vs:List Value}{ds:List D}{m:Str→Option Value}{o1 o2 kc fs:List Cell}{oL:Obj}
theorem enterX (O:Ok C (n+1)) (FR:qdn C.w.params f fd body ps) (R:RelX C ⟨ρ,M1++M2⟩ imm s m (o1++o2) kc fs) (mu1:Muts C.prog C.w imm o1 M1) (hoL:s.heap.get? C.env.locals=some oL) (hv:DAll imm vs ds) {s₁:Shared}
 (x:InCallC s (callEnvC fd s.heap.objs.size f).locals (bindL (callEnvC fd s.heap.objs.size f).kindOf (ps.zip vs) fun V=>none) (callEnvC fd s.heap.objs.size f).cells
  (bindC (callEnvC fd s.heap.objs.size f).kindOf (ps.zip vs) fun V=>none) s₁) :
 Ok (C.called fd s.heap.objs.size f (o2++(kc++((C.env.locals,oL)::(fs++C.hid))))) n∧∃ m' kc',RelX (C.called fd s.heap.objs.size f (o2++(kc++((C.env.locals,oL)::(fs++C.hid))))) ⟨qa7 fd.scope.names ps ds,M1⟩ imm s₁ m' o1 kc' []:=by
 have pk:=List.all_eq_true.mp FR.pk
 obtain ⟨h₁,tk,rfl,hk₁⟩:=x.done
 have hLs:(callEnvC fd s.heap.objs.size f).locals=s.heap.objs.size:=rfl
 have hcells:(callEnvC fd s.heap.objs.size f).cells=cellsFrom (s.heap.objs.size+1) fd.scope.names []:=rfl
 have hkind:(callEnvC fd s.heap.objs.size f).kindOf=fun y=>fd.scope.names.lookup y:=rfl
 have cnd:=qbs fd.scope.names (s.heap.objs.size+1) FR.nd
 obtain ⟨kc',NC,Y⟩:=Cl.news (h₀:=s.heap) (L:=s.heap.objs.size) (Nat.le_refl _) (cs:=cellsFrom (s.heap.objs.size+1) fd.scope.names []) (h:=h₁)
  (cm:=bindC (callEnvC fd s.heap.objs.size f).kindOf (ps.zip vs) fun V=>none) fun y c hm=>⟨x.cell y c (qa5 cnd hm),x.above y c hm⟩
 have hidE:∀ q∈o2++(kc++((C.env.locals,oL)::(fs++C.hid))),s.heap.get? q.1=some q.2∧C.base.get? q.1=none:=by
  intro q hq
  rcases maj hq with h | h
  ·have:=R.mem_os (mar _ h);exact ⟨this.1,this.2.2⟩
  rcases maj h with h | h
  ·have:=R.mem_kc h;exact ⟨this.1,this.2.2⟩
  rcases mcj h with h | h
  ·subst h
   refine ⟨hoL,?_⟩
   cases hq:C.base.get? C.env.locals with
   | none=>rfl
   | some o=>exact absurd (Heap.lt_size hq) (Nat.not_lt.mpr R.fr.above)
  ·have:=R.nw q (mar _ (mar _ (mar _ h)));exact ⟨this.1,this.2.2⟩
 have lt:∀ {a:Addr}{o:Obj},s.heap.get? a=some o→a≠s.heap.objs.size:=fun e=>Nat.ne_of_lt (Heap.lt_size e)
 have kcF:∀ q∈kc',s.heap.get? q.1=none:=fun q hq=>(NC q hq).2.2
 have old:∀ {a:Addr}{o:Obj},s.heap.get? a=some o→a ∉ kc'.map (·.1):=fun e hm=>by
  obtain ⟨q,hq,rfl⟩:=mmj hm
  rw [kcF q hq] at e;cases e
 have nd:=R.nd
 rw [laa,lma,List.nodup_append] at nd
 have O':Ok (C.called fd s.heap.objs.size f (o2++(kc++((C.env.locals,oL)::(fs++C.hid))))) n:={
  fk:=FR.hk
  gl:=FR.gl
  bi:=FR.bi
  dep:=by show C.A.depth+1+n<recursionLimit;have:=O.dep;lia
  un:=by show C.A.units+3+20 * n+20<cLine;have:=O.un;lia
  hn:=O.hn
  nb:=fun y k hy=>by
   have:=List.all_eq_true.mp FR.nb (y,k) (qan hy)
   simpa using this
  ci:=fun y z c h1 h2=>cells_inj x.apart h1 h2
  kin:=O.kin
  top:=O.top }
 have hnd:(kc'.map (·.1)).Nodup:=by
  rw [qd5 Y]
  have:=x.apart
  rw [hcells] at this
  exact List.pairwise_map.mpr this
 have R':RelX (C.called fd s.heap.objs.size f (o2++(kc++((C.env.locals,oL)::(fs++C.hid))))) ⟨qa7 fd.scope.names ps ds,M1⟩ imm ⟨h₁,s.gens,s.drawn,tk,s.os⟩ (bindL (callEnvC fd s.heap.objs.size f).kindOf (ps.zip vs) fun V=>none) o1 kc' []:={
  fr:=⟨x.toInCall.ns,fun b o e=>hk₁ b o (R.fr.keep b o e),Nat.le_of_lt (Nat.lt_of_le_of_lt R.fr.above (Heap.lt_size hoL))⟩
  nw:=fun q hq=>by
   rcases maj hq with h | h
   ·have:=R.mem_os (mal _ h);exact ⟨hk₁ _ _ this.1,lt this.1,this.2.2⟩
   rcases maj h with h | h
   ·refine ⟨(NC q h).1,(NC q h).2.1,?_⟩
    cases hq:C.base.get? q.1 with
    | none=>rfl
    | some o=>have:=R.fr.keep _ _ hq;rw [kcF q h] at this;cases this
   rcases maj h with h | h
   ·have:=R.mem_imm h;exact ⟨hk₁ _ _ this.1,lt this.1,this.2.2⟩
   ·have:=hidE q h;exact ⟨hk₁ _ _ this.1,lt this.1,this.2⟩
  mu:=mu1
  kd:=qf0 Y
  nd:=by
   rw [lma,List.nodup_append]
   refine ⟨nd.1,hnd,fun a ha b hb e=>?_⟩
   obtain ⟨q,hq,rfl⟩:=mmj ha
   exact old (R.mem_os (mal _ hq)).1 (e ▸ hb)
  ap:=fun q hq h=>by
   rw [lma] at h
   have hs:s.heap.get? q.1=some q.2:=by
    rcases maj hq with h | h
    ·exact (R.mem_imm h).1
    ·exact (hidE q h).1
   rcases maj h with h | h
   ·rcases maj hq with hq | hq
    ·exact R.ap q (mal _ hq) (by rw [laa,lma];exact mal _ h)
    rw [lna] at hq
    rcases maj hq with hq | hq
    ·exact nd.2.2 q.1 h q.1 (by rw [lma];exact mal _ (List.mem_map_of_mem hq)) rfl
    rcases maj hq with hq | hq
    ·exact nd.2.2 q.1 h q.1 (by rw [lma];exact mar _ (List.mem_map_of_mem hq)) rfl
    rcases mcj hq with hq | hq
    ·subst hq
     obtain ⟨z,hz,e⟩:=mmj h
     exact (R.mem_os (mal _ hz)).2.1 e
    ·exact R.ap q (mar _ hq) (by rw [laa,lma];exact mal _ h)
   ·exact old hs h
  ah:=fun q hq h=>by
   rw [lna] at h
   obtain ⟨z,hz,e⟩:=mmj h
   rcases maj hz with h' | h'
   ·exact R.ap q (mal _ hq) (by rw [laa,lma,lma];exact mar _ (mal _ (e ▸ List.mem_map_of_mem h')))
   rcases maj h' with h' | h'
   ·exact R.ap q (mal _ hq) (by rw [laa,lma,lma];exact mar _ (mar _ (e ▸ List.mem_map_of_mem h')))
   rcases mcj h' with h' | h'
   ·subst h';exact (R.mem_imm hq).2.1 e.symm
   ·exact R.ah q hq (e ▸ List.mem_map_of_mem h')
  hn:=by
   show ((o2++(kc++((C.env.locals,oL)::(fs++C.hid)))).map (·.1)).Nodup
   rw [← laa,lma,List.nodup_append,lmc,List.nodup_cons]
   refine ⟨nd.2.1,⟨fun h=>?_,R.hn⟩,fun a ha b hb e=>?_⟩
   ·obtain ⟨q,hq,e⟩:=mmj h
    exact (R.nw q (mar _ (mar _ (mar _ hq)))).2.1 e
   ·obtain ⟨q,hq,rfl⟩:=mmj ha
    rcases mcj hb with h | h
    ·have hq':q∈(o1++o2)++kc:=by rw [laa];exact mar _ hq
     rcases maj hq' with z | z
     ·exact (R.mem_os z).2.1 (e.trans h)
     ·exact (R.mem_kc z).2.1 (e.trans h)
    ·obtain ⟨z,hz,e'⟩:=mmj h
     exact R.ap z (mar _ hz) (by rw [e',← e,laa];exact List.mem_map_of_mem (f:=(·.1)) (mar _ hq))
  ou:=.nil
  nm:=by
   show ((qa7 fd.scope.names ps ds).map (·.name)).Nodup
   unfold qa7
   rw [List.map_map]
   exact FR.nd
  kn:=fun p hp=>by
   obtain ⟨y,hy,rfl⟩:=mmj hp
   exact qa5 FR.nd hy
  va:=fun p hp d hd=>by
   obtain ⟨⟨y,k⟩,hy,rfl⟩:=mmj hp
   obtain ⟨v,h1,h2⟩:=qfc hv hd
   have hky:fd.scope.names.lookup y=some k:=qa5 FR.nd hy
   have hyp:y∈ps:=(List.of_mem_zip (qan h1)).1
   rcases Bool.or_eq_true_iff.mp (pk y hyp) with h | h
   ·have h:fd.scope.names.lookup y=some .local:=by simpa using h
    rw [hky] at h;cases h
    exact .loc (qgj _ ps vs _ y v FR.pn h1 hky) h2
   ·have h:fd.scope.names.lookup y=some .cell:=by simpa using h
    rw [hky] at h;cases h
    obtain ⟨c,hc⟩:=qat (x:=y) fd.scope.names (s.heap.objs.size+1) [] (.inl (qan hky))
    obtain ⟨o,ho,hod⟩:=qby Y hc
    exact .cell (qa5 cnd hc) ho (hod.trans (by rw [qgk _ ps vs _ y v FR.pn h1 hky])) h2
  cc:=fun p hp hk=>by
   obtain ⟨⟨y,k⟩,hy,rfl⟩:=mmj hp
   have hk:k=.cell:=hk
   subst hk
   obtain ⟨c,hc⟩:=qat (x:=y) fd.scope.names (s.heap.objs.size+1) [] (.inl hy)
   obtain ⟨o,ho,hod⟩:=qby Y hc
   exact ⟨c,o,qa5 cnd hc,.inl ho⟩
  gn:=R.gn
  so:=R.so }
 exact ⟨O',_,_,R'⟩
theorem backX (R:RelX C ⟨ρ,M1++M2⟩ imm s m (o1++o2) kc fs) (mu2:Muts C.prog C.w imm o2 M2) {oL':Obj}{fs':List Cell} (hN:∀ h:Heap,h.get? C.env.locals=some oL'→h.Ns C.env.locals m) (hfs:fs'.map (·.1)=fs.map (·.1)) (hou:Outs fs' C.outs)
 {C':Cx} (eb:C'.base=C.base) (eh:C'.hid=(o2++(kc++((C.env.locals,oL')::(fs'++C.hid))))) (eg:C'.gens=C.gens) (eo:C'.os=C.os) (ep:C'.prog=C.prog) (ew:C'.w=C.w)
 {σ':AS}{imm':List Cell}{s':Shared}{m':Str→Option Value}{os' kc'':List Cell} (hs:imm⊆imm') (RR:RelX C' σ' imm' s' m' os' kc'' []):RelX C ⟨ρ,σ'.ms++M2⟩ imm' s' m (os'++o2) kc fs':=by
 obtain ⟨cp,cw,cA,cenv,cb,ch,co,cg,cos,ccap,cH⟩:=C'
 dsimp only at eb eh eg eo ep ew
 subst eb eh eg eo ep ew
 have nd:=R.nd
 rw [laa,lma,List.nodup_append] at nd
 have old:∀ q∈fs'++C.hid,∃ q0∈fs++C.hid,q0.1=q.1:=fun q hq=>by
  have:q.1∈(fs++C.hid).map (·.1):=by rw [lma,← hfs,← lma];exact List.mem_map_of_mem hq
  obtain ⟨z,hz,e⟩:=mmj this
  exact ⟨z,hz,e⟩
 have hid':∀ q∈o2++(kc++((C.env.locals,oL')::(fs'++C.hid))),s'.heap.get? q.1=some q.2:=fun q hq=>(RR.mem_hid hq).1
 have hL':s'.heap.get? C.env.locals=some oL':=hid' _ (mar _ (mar _ (.head _)))
 have memL:(C.env.locals,oL')∈o2++(kc++((C.env.locals,oL')::(fs'++C.hid))):=mar _ (mar _ (.head _))
 have apL:∀ q∈os',q.1≠C.env.locals:=fun q hq e=>RR.ap _ (mar _ memL) (by rw [lma];exact mal _ (List.mem_map.mpr ⟨q,hq,e⟩))
 have ahL:∀ q∈imm',q.1≠C.env.locals:=fun q hq e=>RR.ah q hq (by rw [lna,e];exact List.mem_map_of_mem (f:=(·.1)) memL)
 have ndr:=RR.nd
 rw [lma,List.nodup_append] at ndr
 exact {
  fr:=⟨hN _ hL',RR.fr.keep,R.fr.above⟩
  nw:=fun q hq=>by
   rcases maj hq with h | h
   ·rcases maj h with h | h
    ·have:=RR.mem_os h;exact ⟨this.1,apL q h,this.2.2⟩
    ·have:=R.mem_os (mar _ h);exact ⟨hid' q (mal _ h),this.2⟩
   rcases maj h with h | h
   ·have:=R.mem_kc h;exact ⟨hid' q (mar _ (mal _ h)),this.2⟩
   rcases maj h with h | h
   ·have:=RR.mem_imm h;exact ⟨this.1,ahL q h,this.2.2⟩
   ·obtain ⟨q0,h0,e0⟩:=old q h
    have:=R.nw q0 (mar _ (mar _ (mar _ h0)))
    rw [e0] at this
    exact ⟨hid' q (mar _ (mar _ (.tail _ h))),this.2⟩
  mu:=RR.mu.join (mu2.mono hs)
  kd:=R.kd
  nd:=by
   rw [laa,lma,List.nodup_append]
   refine ⟨ndr.1,nd.2.1,fun a ha b hb e=>?_⟩
   obtain ⟨q,hq,rfl⟩:=mmj hb
   exact RR.ap q (mar _ (by
    dsimp only [lna]
    rcases maj hq with h | h
    ·exact mal _ h
    ·exact mar _ (mal _ h))) (by rw [lma];exact mal _ (e ▸ ha))
  ap:=fun q hq h=>by
   rw [laa,lma] at h
   rcases maj h with h | h
   ·rcases maj hq with hq | hq
    ·exact RR.ap q (mal _ hq) (by rw [lma];exact mal _ h)
    ·exact RR.ap q (mar _ (by rw [lna];exact mar _ (mar _ (.tail _ hq)))) (by rw [lma];exact mal _ h)
   ·rcases maj hq with hq | hq
    ·refine RR.ah q hq ?_
     rw [lna,lma]
     rw [lma] at h
     rcases maj h with h | h
     ·exact mal _ h
     ·rw [lma];exact mar _ (mal _ h)
    ·obtain ⟨q0,h0,e0⟩:=old q hq
     exact R.ap q0 (mar _ h0) (by rw [e0,laa,lma];exact mar _ h)
  ah:=fun q hq h=>RR.ah q hq (by
   rw [lna,lma,lma,lmc]
   exact mar _ (mar _ (.tail _ h)))
  hn:=by rw [lma,hfs,← lma];exact R.hn
  ou:=hou
  nm:=R.nm
  kn:=R.kn
  va:=fun p hp d e=>(R.va p hp d e).mono hs
  cc:=R.cc
  gn:=RR.gn
  so:=RR.so }
end
section
variable {C:Cx}{n:Nat}{imm:List Cell}{s:Shared}{ρ:List Slot}{M1 M2:List (Addr×AO)}{f:Addr}{fd:FuncData}{body:List Stmt}{ps:List Str}{vs:List Value}{ds:List D}
theorem qf2 {P:Params} (FR:qdn P f fd body ps) (L:Nat):∀ x∈ps.zip vs,fd.scope.names.lookup x.1=some .local∨(fd.scope.names.lookup x.1=some .cell∧((cellsFrom (L+1) fd.scope.names []).lookup x.1).isSome=true):=by
 intro x hx
 have:=List.all_eq_true.mp FR.pk x.1 (List.of_mem_zip hx).1
 rcases Bool.or_eq_true_iff.mp this with h | h
 ·exact .inl (by simpa using h)
 ·have h:fd.scope.names.lookup x.1=some .cell:=by simpa using h
  obtain ⟨c,hc⟩:=qat (x:=x.1) fd.scope.names (L+1) [] (.inl (qan h))
  exact .inr ⟨h,by rw [qa5 (qbs _ _ FR.nd) hc];rfl⟩
theorem qgh (O:Ok C (n+1)) (FR:FnRec C.w.params f fd body ps) (R:Rel C ⟨ρ,M1++M2⟩ imm s) (hv:DAll imm vs ds) (hl:ds.length=ps.length) {K:D→List (Addr×AO)→Prop}
 (hb:∀ L hid,Ok (C.called fd L f hid) n→SL (C.called fd L f hid) ⟨qa7 fd.scope.names ps ds,M1⟩ body (fun fl σ'=>match fl with | .ret d=>K d σ'.ms | .next=>K .none σ'.ms | _=>False) (fun V V=>False))
 {Q:Result→Shared→Prop} (q:∀ v d M1' imm' s',imm⊆imm'→Rel C ⟨ρ,M1'++M2⟩ imm' s'→DIn imm' v d→K d M1'→Q (.ok (.ret v)) s'):codeAny C.M C.A (.call (.ref f) ⟨vs,[]⟩) Q s:=by
 refine Rel.elim R fun m os kc fs R=>?_
 obtain ⟨o1,o2,rfl,mu1,mu2⟩:=Muts.split R.mu
 obtain ⟨p,loose,mg,mb,TT⟩:=O.top
 have kin:=O.kin.keeps R.fr.keep
 have hvl:vs.length=ps.length:=hv.length.trans hl
 obtain ⟨oL,esL,epL,hoL,hdL,hkL,hfL⟩:=R.fr.ns
 have hN:∀ h:Heap,h.get? C.env.locals=some oL→h.Ns C.env.locals m:=fun h e=>⟨oL,esL,epL,e,hdL,hkL,hfL⟩
 refine codeAny_call_cells (fd:=fd) (body:=body) (binds:=ps.zip vs) (Nat.lt_of_le_of_lt (Nat.le_add_right _ _) O.dep) (kin _ _ FR.lk) rfl (TT.nolimit.keeps R.fr.keep) (codeRec_of kin FR.code) FR.body (FR.bind vs hvl) FR.clo (qf2 FR.toD _) ?_ FR.hc FR.hg FR.hk
 intro s₁ x
 obtain ⟨O',m₁,kc₁,R₁⟩:=enterX O FR.toD R mu1 hoL hv x
 have back:∀ {σ':AS}{imm':List Cell}{s':Shared},imm⊆imm'→Rel (C.called fd s.heap.objs.size f (o2++(kc++((C.env.locals,oL)::(fs++C.hid))))) σ' imm' s'→Rel C ⟨ρ,σ'.ms++M2⟩ imm' s':=by
  rintro σ' imm' s' hs ⟨m',os',kc'',fs',RR⟩
  have ho:=RR.ou
  cases ho
  exact (backX R mu2 hN rfl R.ou (C':=C.called fd s.heap.objs.size f (o2++(kc++((C.env.locals,oL)::(fs++C.hid))))) rfl rfl rfl rfl rfl rfl hs RR).rel
 refine wpAny_mono ((hb _ _ O').go imm _ R₁.rel) (fun fl s' ⟨fl',σ',imm',hs,RR,hf,hK⟩=>?_) fun V V x=>x.elim
 cases hf with
 | ret hd=>exact q _ _ _ imm' s' hs (back hs RR) hd hK
 | next=>exact q _ _ _ imm' s' hs (back hs RR) .none hK
 | brk=>exact hK.elim
 | cont=>exact hK.elim
theorem call_go (O:Ok C (n+1)) (FR:FnRec C.w.params f fd body ps) (R:Rel C ⟨ρ,M1++M2⟩ imm s) (hv:DAll imm vs ds) (hl:ds.length=ps.length) {K:D→List (Addr×AO)→Prop}
 (hb:∀ L hid,Ok (C.called fd L f hid) n→SL (C.called fd L f hid) ⟨qa7 fd.scope.names ps ds,M1⟩ body (fun fl σ'=>match fl with | .ret d=>K d σ'.ms | .next=>K .none σ'.ms | _=>False) (fun V V=>False))
 {Q E:Value→Shared→Prop} (q:∀ v d M1' imm' s',imm⊆imm'→Rel C ⟨ρ,M1'++M2⟩ imm' s'→DIn imm' v d→K d M1'→Q v s'):wpAny C.M C.A (call (.ref f) vs []) Q E s :=
 wpAny_call (qgh O FR R hv hl hb q)
end
inductive Xs (C:Cx) (σ:AS):List Expr→List D→Prop
 | nil:Xs C σ [] []
 | cons {e es d ds}:X C σ e d→Xs C σ es ds→(∀ env rest,starEach (e::rest) env=(false,eval e env)::starEach rest env)→Xs C σ (e::es) (d::ds)
theorem Xs.run {C σ es ds} (h:Xs C σ es ds) (pos:Pos):∀ imm s,Rel C σ imm s→∀ (Q:List Value→Shared→Prop) (E:Value→Shared→Prop),(∀ vs imm' s',imm⊆imm'→Rel C σ imm' s'→DAll imm' vs ds→Q vs s') →
 wpAny C.M C.A (spliced (backTo pos (starEach es C.env))) Q E s:=by
 induction h with
 | nil=>intro imm s R Q E q;exact spliced_nil (q _ _ _ qa2 R .nil)
 | @cons e es d ds h1 h2 h3 ih =>
  intro imm s R Q E q
  rw [h3]
  show wpAny _ _ (spliced ((false,eval e C.env)::backTo pos (starEach es C.env))) _ _ _
  exact spliced_cons (h1.go imm s R _ _ fun v i1 s1 hs1 R1 hv=>ih i1 s1 R1 _ _ fun vs i2 s2 hs2 R2 hvs=>q _ i2 s2 (qa0 hs1 hs2) R2 (.cons (hv.mono hs2) hvs))
theorem Xs.plain {C σ es ds} (h:Xs C σ es ds) (pos:Pos):(backTo pos (starEach es C.env)).any (·.1)=false:=by
 induction h with
 | nil=>rfl
 | cons h1 h2 h3 ih=>rw [h3];exact ih
theorem Xs.length {C σ es ds} (h:Xs C σ es ds):ds.length=es.length:=by
 induction h with
 | nil=>rfl
 | cons _ _ _ ih=>simp [ih]
section
variable {C:Cx}{σ:AS}{n:Nat}{imm:List Cell}
theorem X_list {es:List Expr}{pos:Pos}{ds:List D} (h:Xs C σ es ds) (hz:es.length≤1000):X C σ (.List es pos) (.lst ds):=.mk fun imm s R Q E q=>by
 with_reducible refine List_ (h.run pos imm s R _ _ fun vs i1 s1 hs1 R1 hv=>?_)
 have hl:vs.length≤1000:=by rw [hv.length,h.length];exact hz
 exact wpAny_newObj_type (q _ _ _ (fun V hx=>.tail _ (hs1 hx)) (R1.push { cls:=.type "list",data:=.seq vs.toArray }) (.lst (n:=0) (.head _) rfl rfl (hv.mono (List.subset_cons_self _ _)))) (by show vs.toArray.size≤sizeLine;rw [List.size_toArray,sizeLine_eq];lia)
theorem X_tup {es:List Expr}{k:Nat}{pos:Pos}{ds:List D} (h:Xs C σ es ds) (hz:es.length≤1000):X C σ (.Tuple es k pos) (.tup ds):=.mk fun imm s R Q E q=>by
 with_reducible refine Tuple_ (h.run pos imm s R _ _ fun vs i1 s1 hs1 R1 hv=>?_)
 have hl:vs.length≤1000:=by rw [hv.length,h.length];exact hz
 exact wpAny_newObj_type (q _ _ _ (fun V hx=>.tail _ (hs1 hx)) (R1.push { cls:=.type "tuple",data:=.seq vs.toArray }) (.tup (n:=0) (.head _) rfl rfl (hv.mono (List.subset_cons_self _ _)))) (by show vs.toArray.size≤sizeLine;rw [List.size_toArray,sizeLine_eq];lia)
structure Fn (P:Params) (f:Addr) (k:Nat) (ds:List D) (d:D):Prop where
 go:∀ (C:Cx) (σ:AS) (imm:List Cell) (vs:List Value),C.w.params=P→Ok C k→DAll imm vs ds→∀ s,Rel C σ imm s→∀ (Q E:Value→Shared→Prop),(∀ v imm' s',imm⊆imm'→Rel C σ imm' s'→DIn imm' v d→Q v s')→wpAny C.M C.A (call (.ref f) vs []) Q E s
theorem Fn_of {P:Params}{f:Addr}{fd:FuncData}{body:List Stmt}{ps:List Str}{ds:List D}{d:D}{k:Nat} (FR:FnRec P f fd body ps) (hl:ds.length=ps.length)
 (hb:∀ C:Cx,C.w.params=P→C.cap=[]→Ok C k→SL C ⟨qa7 fd.scope.names ps ds,[]⟩ body (fun fl σ'=>fl=.ret d∨(fl=.next∧d=.none)) (fun V V=>False)):Fn P f (k+1) ds d:=.mk fun C σ imm vs hP O hv s R Q E q=>by
 subst hP
 refine call_go (M1:=[]) (M2:=σ.ms) (ρ:=σ.ρ) (K:=fun d' V=>d'=d) O FR R hv hl (fun L hid O'=>(hb (C.called fd L f hid) rfl rfl O').mono fun fl σ' h=>?_) fun v d' M1' imm' s' hs R' hv' e=>?_
 ·rcases h with rfl | ⟨rfl,rfl⟩ <;> rfl
 ·subst e
  exact q v imm' s' hs (R'.fewer (List.sublist_append_right _ _)) hv'
theorem X_call {x:Str}{p pos:Pos}{args:List Expr}{ds:List D}{d:D}{f:Addr}{k:Nat} (O:Ok C k) (hx:X C σ (.Name x p) (.val (.ref f))) (hk:keepIn (K39 C.w.params) (.ref f)=true) (ha:Xs C σ args ds) (F:Fn C.w.params f k ds d) :
 X C σ (.Call (.Name x p) args [] pos) d:=.mk fun imm s R Q E q=>by
 with_reducible refine Call_Name rfl (hx.goV imm s R _ _ fun i1 s1 hs1 R1=>?_)
 refine callWith_of (P:=fun h=>(K39 C.w.params).In h) (by rw [ha.plain pos];rfl) (keeps_K hk) ?_
 cases ha with
 | nil =>
  refine evalArgs_nil3 ⟨O.kin.keeps R1.base_keep,?_⟩
  exact F.go C σ i1 [] rfl O .nil s1 R1 _ _ fun v i2 s2 hs2 R2 hv=>q v i2 s2 (qa0 hs1 hs2) R2 hv
 | cons h1 h2 h3 =>
  have hh:=Xs.cons h1 h2 h3
  rw [h3]
  refine evalArgs_plain ?_
  have:=hh.run pos i1 s1 R1 (fun vs s2=>(K39 C.w.params).In s2.heap∧wpAny C.M C.A (call (.ref f) ([]++vs) []) Q E s2) E fun vs i2 s2 hs2 R2 hvs =>
   ⟨O.kin.keeps R2.base_keep,F.go C σ i2 vs rfl O hvs s2 R2 _ _ fun v i3 s3 hs3 R3 hv=>q v i3 s3 (qa0 hs1 (qa0 hs2 hs3)) R3 hv⟩
  rw [h3] at this
  exact this
end
noncomputable def fdAt (P:Params) (a:Addr):FuncData:=match (K39 P).lookup a with
 | some ⟨_,_,.func fd,_⟩=>fd
 | _=>default
noncomputable def qad (fd:FuncData):List Stmt:=match fd.body with | .stmts b=>b | _=>[]
section
variable {C:Cx}{σ:AS}{n:Nat}{imm:List Cell}
theorem dInts {vs:List Value}{ns:List Int} (h:DAll imm vs (ns.map D.int)):IntsAre vs ns:=by
 induction ns generalizing vs with
 | nil=>cases h;exact .nil
 | cons n ns ih=>cases h with | cons h r=>cases h;exact .cons _ _ (ih r)
theorem qbt {x:Str}{p pos:Pos}{e:Expr}{es:List Expr}{ds:List D}{d:D}{id:String} (hx:X C σ (.Name x p) (.val (.builtin id))) (ha:Xs C σ (e::es) ds)
 (F:∀ imm vs,DAll imm vs ds→∀ s,Rel C σ imm s→∀ (Q E:Value→Shared→Prop),(∀ v imm' s',imm⊆imm'→Rel C σ imm' s'→DIn imm' v d→Q v s')→wpAny C.M C.A (call (.builtin id) vs []) Q E s) :
 X C σ (.Call (.Name x p) (e::es) [] pos) d:=.mk fun imm s R Q E q=>by
 with_reducible refine Call_Name rfl (hx.goV imm s R _ _ fun i1 s1 hs1 R1=>?_)
 with_reducible refine Calls.callWith_builtin (ha.plain pos) ?_
 have key:=ha.run pos i1 s1 R1 (fun vs s2=>wpAny C.M C.A (call (.builtin id) vs []) Q E s2) E fun vs i2 s2 hs2 R2 hvs =>
  F i2 vs hvs s2 R2 _ _ fun v i3 s3 hs3 R3 hv=>q v i3 s3 (qa0 hs1 (qa0 hs2 hs3)) R3 hv
 cases ha with
 | cons h1 h2 h3 =>
  rw [h3] at key ⊢
  exact evalArgs_plain key
theorem X_type {x:Str}{p pos:Pos}{e:Expr}{es:List Expr}{ds:List D}{d:D}{T:String} (hx:X C σ (.Name x p) (.val (.type T))) (ha:Xs C σ (e::es) ds)
 (F:∀ imm vs,DAll imm vs ds→∀ s,Rel C σ imm s→∀ (Q E:Value→Shared→Prop),(∀ v imm' s',imm⊆imm'→Rel C σ imm' s'→DIn imm' v d→Q v s')→wpAny C.M C.A (call (.type T) vs []) Q E s) :
 X C σ (.Call (.Name x p) (e::es) [] pos) d:=.mk fun imm s R Q E q=>by
 with_reducible refine Call_Name rfl (hx.goV imm s R _ _ fun i1 s1 hs1 R1=>?_)
 with_reducible refine PyProof.Rows.callWith_type (ha.plain pos) ?_
 have key:=ha.run pos i1 s1 R1 (fun vs s2=>wpAny C.M C.A (call (.type T) vs []) Q E s2) E fun vs i2 s2 hs2 R2 hvs =>
  F i2 vs hvs s2 R2 _ _ fun v i3 s3 hs3 R3 hv=>q v i3 s3 (qa0 hs1 (qa0 hs2 hs3)) R3 hv
 cases ha with
 | cons h1 h2 h3 =>
  rw [h3] at key ⊢
  exact evalArgs_plain key
theorem X_lenB {x:Str}{p pos:Pos}{e:Expr}{ks:List Int} (hx:X C σ (.Name x p) (.val (.builtin "len"))) (h:Xs C σ [e] [.bytes ks]) (hz:ks.length≤1099511627776):X C σ (.Call (.Name x p) [e] [] pos) (.int ks.length) :=
 qbt hx h fun imm vs hv s R Q E q=>by
  refine DAll.one hv fun V h1=>DIn.eB h1 fun V V e=>?_
  with_reducible exact KBw.len_K e hz (q _ _ _ qa2 (R.tok _) (.int _ _))
theorem X_lenL {x:Str}{p pos:Pos}{e:Expr}{ds:List D} (hx:X C σ (.Name x p) (.val (.builtin "len"))) (h:Xs C σ [e] [.lst ds]) (hz:ds.length≤1099511627776):X C σ (.Call (.Name x p) [e] [] pos) (.int ds.length) :=
 qbt hx h fun imm vs hv s R Q E q=>by
  refine DAll.one hv fun V h1=>DIn.eL h1 fun V V V V hm hc hx hd=>?_
  have hl:s.heap.IsList _ _:=⟨_,R.at_imm hm,hc,_,hx⟩
  have hz':=hd.length
  with_reducible refine PySem.Calls.call_len_list hl (by simp;lia) ?_
  rw [List.size_toArray,hz']
  exact q _ _ _ qa2 (R.tok _) (.int _ _)
theorem qbz {x:Str}{p pos:Pos}{e:Expr}{ns:List Int} (O:Ok C n) (hx:X C σ (.Name x p) (.val (.type "bytes"))) (h:Xs C σ [e] [.lst (ns.map D.int)]) (hr:∀ k∈ns,0≤k∧k<256) (hz:ns.length≤16777216):X C σ (.Call (.Name x p) [e] [] pos) (.bytes ns) :=
 X_type hx h fun imm vs hv s R Q E q=>by
  refine DAll.one hv fun V h1=>DIn.eL h1 fun V V V V hm hc hx hd=>?_
  have hl:s.heap.IsList _ _:=⟨_,R.at_imm hm,hc,_,hx⟩
  refine Rel.elim R fun m os kc fs RX=>?_
  have hr':KBa.In ns:=hr
  with_reducible refine KBa.make_K RX.fr RX.nw O.hn hl (dInts hd) hr' hz fun h' t' k F N hi=>q _ _ _ qa2 (RX.ofFN F N).rel (.bytes ?_)
  exact KBa.ints_make hr'
theorem X_sub {value slice:Expr}{pos:Pos}{d1 d2 d:D} (h1:X C σ value d1) (h2:X C σ slice d2)
 (F:∀ imm v1 v2,DIn imm v1 d1→DIn imm v2 d2→∀ s,Rel C σ imm s→∀ (Q E:Value→Shared→Prop),(∀ v imm' s',imm⊆imm'→Rel C σ imm' s'→DIn imm' v d→Q v s')→wpAny C.M C.A (subscriptTail value slice v1 v2) Q E s) :
 X C σ (.Subscript value slice pos) d:=.mk fun imm s R Q E q=>by
 with_reducible exact Subscript_ (h1.go imm s R _ _ fun v1 i1 s1 hs1 R1 hv1=>h2.go i1 s1 R1 _ _ fun v2 i2 s2 hs2 R2 hv2 =>
  F i2 v1 v2 (hv1.mono hs2) hv2 s2 R2 _ _ fun v i3 s3 hs3 R3 hv=>q v i3 s3 (qa0 hs1 (qa0 hs2 hs3)) R3 hv)
theorem qh1 {value:Expr}{b:Array UInt8}{t:Tok}{r:Value}:letTemporaryGo value (.bytes b t) r=pure ():=by cases value <;> rfl
noncomputable def qg2 (e:Expr):Bool:=e.ctorIdx != 26
theorem qe8 {slice:Expr}{o i:Value} (h:qg2 slice=true):subscripted slice false o i=operate [o,i] (getItem o i):=by
 cases slice <;> first | rfl | exact absurd (show false=true from h) bft
theorem qbh {value slice:Expr}{pos:Pos}{ds:List D}{i:Int}{d:D} (h1:X C σ value (.lst ds)) (h2:X C σ slice (.int i)) (h0:0≤i) (hd:ds[i.toNat]?=some d) (hi:i<2 ^ 63) (hp:qg2 slice=true:=by rfl):X C σ (.Subscript value slice pos) d :=
 X_sub h1 h2 fun imm v1 v2 a1 a2 s R Q E q=>by
  refine DIn.eI a2 fun V=>DIn.eL a1 fun V V V V hm hc hx ha=>?_
  obtain ⟨v,hv,hvd⟩:=ha.get hd
  have hL:s.heap.IsList _ _:=⟨_,R.at_imm hm,hc,_,hx⟩
  exact tail_any hL.typeIs slot_list_getitem.lookup (wpAny_getItem_list hL h0 hi (by simpa using hv) (q v imm s qa2 R hvd)) (qe8 hp)
theorem X_itemB {value slice:Expr}{pos:Pos}{ks:List Int}{i:Int} (h1:X C σ value (.bytes ks)) (h2:X C σ slice (.int i)) (h0:0≤i) (hl:i<ks.length) (hz:ks.length≤1099511627776) (hp:qg2 slice=true:=by rfl):X C σ (.Subscript value slice pos) (.int (ks.getD i.toNat 0)) :=
 X_sub h1 h2 fun imm v1 v2 a1 a2 s R Q E q=>by
  refine DIn.eI a2 fun V=>DIn.eB a1 fun V V e=>?_
  with_reducible exact KBw.item_K e hz h0 hl (fun t' k V V=>q _ _ _ qa2 (R.tok k) (.int _ _)) (qe8 hp) (fun V=>qh1)
inductive Pt (C:Cx) (σ:AS):Option Expr→Option Int→Prop
 | none:Pt C σ none none
 | some {e i}:X C σ e (.int i)→Pt C σ (some e) (some i)
theorem Pt.run {e i} (h:Pt C σ e i):∀ imm s,Rel C σ imm s→∀ (Q E:Value→Shared→Prop),(∀ v imm' s',imm⊆imm'→Rel C σ imm' s'→IsPart v i→Q v s')→wpAny C.M C.A (evalPart e C.env) Q E s:=by
 intro imm s R Q E q
 cases h with
 | none=>exact wpAny_pure (q _ _ _ qa2 R .none)
 | some h=>exact h.go imm s R _ _ fun v i1 s1 hs1 R1 hv=>by cases hv;exact q _ i1 s1 hs1 R1 (.int _ _)
theorem X_sliceB {value:Expr}{lo hi:Option Expr}{p pos:Pos}{ks:List Int}{l u:Option Int} (h1:X C σ value (.bytes ks)) (h2:Pt C σ lo l) (h3:Pt C σ hi u) (hz:ks.length≤16777216) :
 X C σ (.Subscript value (.Slice lo hi none p) pos) (.bytes ((ks.drop (l.elim 0 (clipAt ks.length))).take (u.elim ks.length (clipAt ks.length) - l.elim 0 (clipAt ks.length)))):=.mk fun imm s R Q E q=>by
 with_reducible refine Subscript_ (h1.go imm s R _ _ fun v1 i1 s1 hs1 R1 hv1=>?_)
 with_reducible refine wpAny_Slice (h2.run i1 s1 R1 _ _ fun vl i2 s2 hs2 R2 hl=>h3.run i2 s2 R2 _ _ fun vu i3 s3 hs3 R3 hu=>?_)
 refine wpAny_pure ?_
 refine DIn.eB hv1 fun V V e=>?_
 refine Rel.elim R3 fun m os kc fs RX=>?_
 exact KBc.slice_K RX.fr RX.nw e hl hu hz (fun h' t' k F N e'=>q _ i3 _ (qa0 hs1 (qa0 hs2 hs3)) (RX.ofFN F N).rel (.bytes e')) rfl (fun V=>qh1)
end
noncomputable abbrev Cx.hide (C:Cx) (c:Cell):Cx:={ C with hid:=c::C.hid,capH:=fun p h=>.tail _ (C.capH p h) }
theorem Ok.hide {C n} (O:Ok C n) (c:Cell):Ok (C.hide c) n:={ O with }
section
variable {C:Cx}{σ:AS}{n:Nat}{imm:List Cell}{s:Shared}
theorem RelX.unhide {c:Cell}{m os kc fs} (R:RelX (C.hide c) σ imm s m os kc fs):RelX C σ imm s m os kc fs∧s.heap.get? c.1=some c.2:=by
 have hsl:(fs++C.hid).map (·.1) |>.Sublist ((fs++(C.hide c).hid).map (·.1)):=((List.Sublist.refl fs).append (List.sublist_cons_self _ _)).map _
 have sub:∀ q,q∈fs++C.hid→q∈fs++(C.hide c).hid:=fun q h=>by
  rcases maj h with h | h
  ·exact mal _ h
  ·exact mar _ (.tail _ h)
 refine ⟨{ R with
  nw:=fun p hp=>by
   rcases maj hp with h | h
   ·exact R.mem_os h
   rcases maj h with h | h
   ·exact R.mem_kc h
   rcases maj h with h | h
   ·exact R.mem_imm h
   ·exact R.nw p (mar _ (mar _ (mar _ (sub p h))))
  ap:=fun q hq=>R.ap q (by
   rcases maj hq with h | h
   ·exact mal _ h
   ·exact mar _ (sub q h))
  ah:=fun q hq h=>R.ah q hq (by
   obtain ⟨z,hz,e⟩:=mmj h
   exact List.mem_map.mpr ⟨z,sub z hz,e⟩)
  hn:=hsl.nodup R.hn },(R.mem_hid (.head _)).1⟩
theorem Rel.unhide {c:Cell} (R:Rel (C.hide c) σ imm s):Rel C σ imm s∧s.heap.get? c.1=some c.2:=by
 refine Rel.elim R fun m os kc fs R=>?_
 exact ⟨⟨m,os,kc,fs,R.unhide.1⟩,R.unhide.2⟩
theorem RelX.hide' {m os kc fs} (R:RelX C σ imm s m os kc fs) {c:Cell} (h1:s.heap.get? c.1=some c.2) (h2:c.1≠C.env.locals) (h3:C.base.get? c.1=none) (h4:c.1 ∉ (os++kc).map (·.1)) (h5:c.1 ∉ imm.map (·.1)) (h6:c.1 ∉ (fs++C.hid).map (·.1)):RelX (C.hide c) σ imm s m os kc fs:={ R with
 hn:=by
  have:=R.hn
  rw [lma,List.nodup_append] at this ⊢
  rw [lma,List.mem_append,not_or] at h6
  refine ⟨this.1,List.nodup_cons.mpr ⟨h6.2,this.2.1⟩,fun a ha b hb e=>?_⟩
  rcases mcj hb with h | h
  ·have h':b=c.1:=h;exact h6.1 (by rw [← h',← e];exact ha)
  ·exact this.2.2 a ha b h e
 nw:=fun p hp=>by
  rcases maj hp with h | h
  ·exact R.mem_os h
  rcases maj h with h | h
  ·exact R.mem_kc h
  rcases maj h with h | h
  ·exact R.mem_imm h
  rcases maj h with h | h
  ·exact R.mem_fs h
  rcases mcj h with h | h
  ·subst h;exact ⟨h1,h2,h3⟩
  ·exact R.mem_hid h
 ap:=fun q hq=>by
  rcases maj hq with h | h
  ·exact R.ap q (mal _ h)
  rcases maj h with h | h
  ·exact R.ap q (mar _ (mal _ h))
  rcases mcj h with h | h
  ·subst h;exact h4
  ·exact R.ap q (mar _ (mar _ h))
 ah:=fun q hq h=>by
  rw [lma,lmc] at h
  rcases maj h with h | h
  ·exact R.ah q hq (by rw [lma];exact mal _ h)
  rcases mcj h with h | h
  ·exact h5 (h ▸ List.mem_map_of_mem hq)
  ·exact R.ah q hq (by rw [lma];exact mar _ h) }
theorem Rel.hideNew (R:Rel C σ imm s) (o:Obj) (hf:o.isFreed=false:=by rfl) {d:Drawn}{tk:Nat}:Rel (C.hide (s.heap.objs.size,o)) σ imm ⟨s.heap.push o,s.gens,d,tk,s.os⟩:=by
 refine Rel.elim R fun m os kc fs R=>?_
 obtain ⟨f1,f2,f3,f4,f5⟩:=R.fresh (Heap.get?_none_of_le (Nat.le_refl s.heap.objs.size))
 exact ⟨m,os,kc,fs,(R.grow (fun V V e=>Heap.get?_push_of_some _ e)).hide' (Heap.get?_push_size _ hf) f1 f2 f3 f5 f4⟩
theorem Rel.rehide {a:Addr}{o o':Obj} (R:Rel (C.hide (a,o)) σ imm s) {h':Heap} (hk:∀ b ob,b≠a→s.heap.get? b=some ob→h'.get? b=some ob) (ho:h'.get? a=some o') {d:Drawn}{tk:Nat}:Rel (C.hide (a,o')) σ imm ⟨h',s.gens,d,tk,s.os⟩:=by
 refine Rel.elim R fun m os kc fs R=>?_
 have M:=R.mem_hid (p:=(a,o)) (.head _)
 have hL:C.env.locals≠a:=Ne.symm M.2.1
 have inj:∀ q:Cell,s.heap.get? q.1=some q.2→q.1=a→q.2=o:=fun q h e=>by
  rw [e,M.1] at h;exact (Option.some.inj h).symm
 obtain ⟨oL,es,ep,hoL,r⟩:=R.fr.ns
 exact ⟨m,os,kc,fs,{ R with
  fr:=⟨⟨oL,es,ep,hk _ _ hL hoL,r⟩,fun b ob e=>hk b ob (fun q=>by rw [q,M.2.2] at e;cases e) (R.fr.keep b ob e),R.fr.above⟩
  nw:=fun p hp=>by
   have hne:∀ q:Cell,q∈os++kc∨q∈imm→q.1≠a:=fun q hq e=>by
    rcases hq with hq | hq
    ·exact R.ap (a,o) (mar _ (mar _ (.head _))) (List.mem_map.mpr ⟨q,hq,e⟩)
    ·exact R.ah q hq (by rw [e,lma];exact mar _ (.head _))
   rcases maj hp with h | h
   ·exact ⟨hk _ _ (hne p (.inl (mal _ h))) (R.mem_os h).1,(R.mem_os h).2⟩
   rcases maj h with h | h
   ·exact ⟨hk _ _ (hne p (.inl (mar _ h))) (R.mem_kc h).1,(R.mem_kc h).2⟩
   rcases maj h with h | h
   ·exact ⟨hk _ _ (hne p (.inr h)) (R.mem_imm h).1,(R.mem_imm h).2⟩
   rcases maj h with h | h
   ·refine ⟨hk _ _ (fun e=>?_) (R.mem_fs h).1,(R.mem_fs h).2⟩
    have:=R.hn
    rw [lma,List.nodup_append] at this
    exact this.2.2 p.1 (List.mem_map_of_mem h) a (.head _) e
   rcases mcj h with h | h
   ·subst h;exact ⟨ho,M.2⟩
   ·refine ⟨hk _ _ (fun e=>?_) (R.mem_hid (.tail _ h)).1,(R.mem_hid (.tail _ h)).2⟩
    have:=R.hn
    rw [lma,List.nodup_append,lmc,List.nodup_cons] at this
    exact this.2.1.1 (List.mem_map.mpr ⟨p,h,e⟩)
  ap:=fun q hq=>by
   rcases maj hq with h | h
   ·exact R.ap q (mal _ h)
   rcases maj h with h | h
   ·exact R.ap q (mar _ (mal _ h))
   rcases mcj h with h | h
   ·subst h;exact R.ap (a,o) (mar _ (mar _ (.head _)))
   ·exact R.ap q (mar _ (mar _ (.tail _ h)))
  ah:=fun q hq h=>R.ah q hq (by rw [lma,lmc] at h ⊢;exact h)
  hn:=by have:=R.hn;rw [lma,lmc] at this ⊢;exact this }⟩
theorem Rel.unhide' {a:Addr}{o:Obj} (R:Rel (C.hide (a,o)) σ imm s) {h':Heap} (hk:∀ b ob,b≠a→s.heap.get? b=some ob→h'.get? b=some ob) {d:Drawn}{tk:Nat}:Rel C σ imm ⟨h',s.gens,d,tk,s.os⟩:=by
 refine Rel.elim R fun m os kc fs R=>?_
 have M:=R.mem_hid (p:=(a,o)) (.head _)
 have hL:C.env.locals≠a:=Ne.symm M.2.1
 have hne:∀ q:Cell,q∈os++kc∨q∈imm→q.1≠a:=fun q hq e=>by
  rcases hq with hq | hq
  ·exact R.ap (a,o) (mar _ (mar _ (.head _))) (List.mem_map.mpr ⟨q,hq,e⟩)
  ·exact R.ah q hq (by rw [e,lma];exact mar _ (.head _))
 have hn:=R.hn
 obtain ⟨oL,es,ep,hoL,r⟩:=R.fr.ns
 exact ⟨m,os,kc,fs,{ R with
  fr:=⟨⟨oL,es,ep,hk _ _ hL hoL,r⟩,fun b ob e=>hk b ob (fun q=>by rw [q,M.2.2] at e;cases e) (R.fr.keep b ob e),R.fr.above⟩
  nw:=fun p hp=>by
   rcases maj hp with h | h
   ·exact ⟨hk _ _ (hne p (.inl (mal _ h))) (R.mem_os h).1,(R.mem_os h).2⟩
   rcases maj h with h | h
   ·exact ⟨hk _ _ (hne p (.inl (mar _ h))) (R.mem_kc h).1,(R.mem_kc h).2⟩
   rcases maj h with h | h
   ·exact ⟨hk _ _ (hne p (.inr h)) (R.mem_imm h).1,(R.mem_imm h).2⟩
   rcases maj h with h | h
   ·refine ⟨hk _ _ (fun e=>?_) (R.mem_fs h).1,(R.mem_fs h).2⟩
    rw [lma,List.nodup_append] at hn
    exact hn.2.2 p.1 (List.mem_map_of_mem h) a (.head _) e
   ·refine ⟨hk _ _ (fun e=>?_) (R.mem_hid (.tail _ h)).1,(R.mem_hid (.tail _ h)).2⟩
    rw [lma,List.nodup_append,lmc,List.nodup_cons] at hn
    exact hn.2.1.1 (List.mem_map.mpr ⟨p,h,e⟩)
  ap:=fun q hq=>by
   rcases maj hq with h | h
   ·exact R.ap q (mal _ h)
   rcases maj h with h | h
   ·exact R.ap q (mar _ (mal _ h))
   ·exact R.ap q (mar _ (mar _ (.tail _ h)))
  ah:=fun q hq h=>R.ah q hq (by
   rw [lma] at h ⊢
   rcases maj h with h | h
   ·exact mal _ h
   ·exact mar _ (.tail _ h))
  hn:=by
   rw [lma,List.nodup_append,lmc,List.nodup_cons] at hn
   rw [lma,List.nodup_append]
   exact ⟨hn.1,hn.2.1.2,fun a ha b hb=>hn.2.2 a ha b (.tail _ hb)⟩ }⟩
end
structure Asg (C:Cx) (target:Expr) (d:D) (ρ ρ':List Slot):Prop where
 go:∀ ms imm s v,Rel C ⟨ρ,ms⟩ imm s→DIn imm v d→∀ (Q:Unit→Shared→Prop) (E:Value→Shared→Prop),(∀ s',Rel C ⟨ρ',ms⟩ imm s'→Q () s')→wpAny C.M C.A (assign target C.env v) Q E s
section
variable {C:Cx}{σ:AS}{n:Nat}{imm:List Cell}{s:Shared}{ρ ρ':List Slot}{d:D}{x:Str}
theorem qbf {ms v} (O:Ok C n) (hP:Put x .local d ρ ρ') (R:Rel C ⟨ρ,ms⟩ imm s) (hv:DIn imm v d) {Q:Unit→Shared→Prop}{E:Value→Shared→Prop} (q:∀ s',Rel C ⟨ρ',ms⟩ imm s'→Q () s'):wpAny C.M C.A (storeName C.env x v) Q E s:=by
 refine Rel.elim R fun m os kc fs R=>?_
 obtain ⟨o,ho⟩:=hP.kind
 exact wpAny_storeName_local (R.kn _ ho) R.fr.ns (fun h' hn hs=>q _ (R.putLocal hP hv hn hs (dr:=s.drawn) (tk:=s.toks+1)).rel) (by rw [O.fk];rfl)
theorem store_cell {ms v} (O:Ok C n) (hP:Put x .cell d ρ ρ') (R:Rel C ⟨ρ,ms⟩ imm s) (hv:DIn imm v d) {Q:Unit→Shared→Prop}{E:Value→Shared→Prop} (hcap:C.cap=[]) (q:∀ s',Rel C ⟨ρ',ms⟩ imm s'→Q () s'):wpAny C.M C.A (storeName C.env x v) Q E s:=by
 refine Rel.elim R fun m os kc fs R=>?_
 obtain ⟨oo,ho⟩:=hP.kind
 obtain ⟨c,o,hl,hm⟩:=R.cc _ ho rfl
 have hm:(c,o)∈kc:=by
  rcases hm with hm | hm
  ·exact hm
  ·rw [hcap] at hm;exact (nomatch hm)
 obtain ⟨k1,k2,rfl⟩:=List.append_of_mem hm
 obtain ⟨v0,hv0⟩:=R.kd _ hm
 refine wpAny_storeName_cell O.fk (R.kn _ ho) hl ⟨o,(R.mem_kc hm).1,hv0⟩ fun h' hcell hs=>?_
 obtain ⟨o',ho',hd'⟩:=hcell
 exact q _ (R.putCell hP hv hl (fun y hy e=>hy (O.ci y x c e hl)) hd' ho' hs (dr:=s.drawn) (tk:=s.toks)).rel
theorem Asg_name {pos:Pos} (O:Ok C n) (hP:Put x .local d ρ ρ'):Asg C (.Name x pos) d ρ ρ':=.mk fun ms imm s v R hv Q E q=>wpAny_assign_Name (qbf O hP R hv q)
inductive Asgs (C:Cx):List Expr→List D→List Slot→List Slot→Prop
 | nil {r0}:Asgs C [] [] r0 r0
 | cons {t ts dd ds r0 r1 r2}:Asg C t dd r0 r1→Asgs C ts ds r1 r2→(∀ env rest,assignEach (t::rest) env=(false,assign t env)::assignEach rest env)→Asgs C (t::ts) (dd::ds) r0 r2
theorem Asgs.run {ts ds} (h:Asgs C ts ds ρ ρ'):∀ ms imm s vs,Rel C ⟨ρ,ms⟩ imm s→DAll imm vs ds→∀ (Q:Unit→Shared→Prop) (E:Value→Shared→Prop),(∀ s',Rel C ⟨ρ',ms⟩ imm s'→Q () s')→wpAny C.M C.A (assignInOrder ((assignEach ts C.env).map (·.2)) vs) Q E s:=by
 induction h with
 | nil=>intro ms imm s vs R hv Q E q;cases hv;exact wpAny_pure (q s R)
 | cons h1 h2 h3 ih =>
  intro ms imm s vs R hv Q E q
  cases hv with
  | cons a b =>
   rw [h3]
   exact wpAny_bind (wpAny_holding (h1.go ms imm s _ R a _ _ fun s' R'=>ih ms imm s' _ R' b Q E q))
theorem Asgs.length {ts ds} (h:Asgs C ts ds ρ ρ'):(assignEach ts C.env).length=ds.length∧(assignEach ts C.env).findIdx? (·.1)=none:=by
 induction h with
 | nil=>exact ⟨rfl,rfl⟩
 | cons h1 h2 h3 ih =>
  rw [h3]
  refine ⟨by simp [ih.1],?_⟩
  rw [List.findIdx?_cons]
  simp [ih.2]
theorem qdu {ts:List Expr}{k:Nat}{pos:Pos}{ds:List D} (O:Ok C n) (h:Asgs C ts ds ρ ρ'):Asg C (.Tuple ts k pos) (.tup ds) ρ ρ':=.mk fun ms imm s v R hv Q E q=>by
 show wpAny _ _ (do standAt pos;unpack v (assignEach ts C.env)) _ _ _
 refine wpAny_bind (wpAny_standAt ?_)
 cases hv with
 | tup hm hc hx ha =>
  have ht:IsTup s.heap _ _:=⟨_,R.at_imm hm,hc,_,hx⟩
  obtain ⟨l1,l2⟩:=h.length
  refine unpack_tuple O.hn ht (by rw [l1,List.size_toArray,ha.length]) l2 fun h' hx'=>?_
  have R':Rel C ⟨ρ,ms⟩ imm { s with heap:=h' }:=R.grow fun b o e=>hx' b o (Nat.ne_of_lt (Heap.lt_size e)) e
  exact h.run ms imm _ _ R' ha Q E q
end
section
variable {C:Cx}{σ:AS}{n:Nat}{K:Fl→AS→Prop}{E:Value→Shared→Prop}{rest:List Stmt}{ρ':List Slot}
theorem qft {st:Stmt}{σ':AS} (h:∀ imm s,Rel C σ imm s→∀ Q:Flow→Shared→Prop,(∀ imm' s',imm⊆imm'→Rel C σ' imm' s'→Q .next s')→wpAny C.M C.A (exec st C.env) Q E s) (k:SL C σ' rest K E):SL C σ (st::rest) K E:=.mk fun imm s R =>
 wpAny_execs_cons (h imm s R _ fun i1 s1 hs1 R1=>wpAny_mono (k.go i1 s1 R1) (fun V V h=>h.up hs1) fun V V x=>x)
noncomputable def qbj (e:Expr):Bool:=e.ctorIdx != 8 && (e.ctorIdx != 9 && e.ctorIdx != 10)
theorem qbw {e:Expr}{t:Option Expr}{l:Nat}{env:Env} (h:qbj e=true):swapsWith e t l env=pure false:=by
 cases e <;> first | rfl | exact absurd (show false=true from h) bft
theorem S_assign {x:Str}{p pos:Pos}{e:Expr}{d:D} (O:Ok C n) (h:X C σ e d) (hP:Put x .local d σ.ρ ρ') (k:SL C ⟨ρ',σ.ms⟩ rest K E) (hn:qbj e=true:=by rfl):SL C σ (.Assign [.Name x p] e pos::rest) K E :=
 qft (fun imm s R Q q=>wpAny_Assign_Name (h.go imm s R _ _ fun v i1 s1 hs1 R1 hv=>qbf O hP R1 hv fun s' R'=>q i1 s' hs1 R') (qbw hn)) k
end
section
variable {P:Params}
theorem rec_kinds:FnRec P 341 (fdAt P 341) (qad (fdAt P 341)) []:=by walk_at "rec"
theorem rec_bits:FnRec P 348 (fdAt P 348) (qad (fdAt P 348)) []:=by walk_at "rec"
theorem rec_big:FnRec P 353 (fdAt P 353) (qad (fdAt P 353)) ["number","size"]:=by walk_at "rec"
theorem rec_small:FnRec P 360 (fdAt P 360) (qad (fdAt P 360)) ["octets"]:=by walk_at "rec"
theorem rec_drawn:FnRec P 365 (fdAt P 365) (qad (fdAt P 365)) ["drawn","many"]:=by walk_at "rec"
theorem rec_laid:FnRec P 372 (fdAt P 372) (qad (fdAt P 372)) ["kind","bits","stream","body"]:=by walk_at "rec"
theorem rec_due:FnRec P 379 (fdAt P 379) (qad (fdAt P 379)) ["kind","bits","stream","body","bound"]:=by walk_at "rec"
theorem rec_reads:FnRec P 384 (fdAt P 384) (qad (fdAt P 384)) ["rows","bound","place"]:=by walk_at "rec"
theorem rec_row:FnRec P 391 (fdAt P 391) (qad (fdAt P 391)) ["frame"]:=by walk_at "rec"
theorem rec_fed:FnRec P 398 (fdAt P 398) (qad (fdAt P 398)) ["buffer","part","seen"]:=by walk_at "rec"
theorem rec_law:FnRec P 403 (fdAt P 403) (qad (fdAt P 403)) ["script"]:=by walk_at "rec"
theorem rec_finit:FnRec P 55 (fdAt P 55) (qad (fdAt P 55)) ["self","stream_id"]:=by walk_at "rec"
theorem rec_pfh:FnRec P 62 (fdAt P 62) (qad (fdAt P 62)) ["header"]:=by walk_at "rec"
theorem rec_pb:FnRec P 72 (fdAt P 72) (qad (fdAt P 72)) ["self","data"]:=by walk_at "rec"
theorem rec_unp:FnRec P 79 (fdAt P 79) (qad (fdAt P 79)) ["self","data"]:=by walk_at "rec"
theorem rec_dpb:FnRec P 103 (fdAt P 103) (qad (fdAt P 103)) ["self","data"]:=by walk_at "rec"
theorem rec_fcl:FnRec P 110 (fdAt P 110) (qad (fdAt P 110)) ["self"]:=by walk_at "rec"
theorem rec_hpb:FnRec P 135 (fdAt P 135) (qad (fdAt P 135)) ["self","data"]:=by walk_at "rec"
theorem rec_rpb:FnRec P 154 (fdAt P 154) (qad (fdAt P 154)) ["self","data"]:=by walk_at "rec"
theorem rec_ppb:FnRec P 176 (fdAt P 176) (qad (fdAt P 176)) ["self","data"]:=by walk_at "rec"
theorem rec_wpb:FnRec P 195 (fdAt P 195) (qad (fdAt P 195)) ["self","data"]:=by walk_at "rec"
theorem rec_add:FnRec P 299 (fdAt P 299) (qad (fdAt P 299)) ["self","data"]:=by walk_at "rec"
theorem rec_val:FnRec P 306 (fdAt P 306) (qad (fdAt P 306)) ["self","length"]:=by walk_at "rec"
theorem rec_uhb:FnRec P 313 (fdAt P 313) (qad (fdAt P 313)) ["self","f"]:=by walk_at "rec"
theorem rec_take:FnRec P 327 (fdAt P 327) (qad (fdAt P 327)) ["self"]:=by walk_at "rec"
theorem g_law_kinds:GV P "_law_kinds" (.ref 341):=.inl (by kernel_rfl)
theorem g_law_bits:GV P "_law_bits" (.ref 348):=.inl (by kernel_rfl)
theorem g_law_big:GV P "_law_big" (.ref 353):=.inl (by kernel_rfl)
theorem g_law_small:GV P "_law_small" (.ref 360):=.inl (by kernel_rfl)
theorem g_law_drawn:GV P "_law_drawn" (.ref 365):=.inl (by kernel_rfl)
theorem g_law_laid:GV P "_law_laid" (.ref 372):=.inl (by kernel_rfl)
theorem g_law_due:GV P "_law_due" (.ref 379):=.inl (by kernel_rfl)
theorem g_law_reads:GV P "_law_reads" (.ref 384):=.inl (by kernel_rfl)
theorem g_law_row:GV P "_law_row" (.ref 391):=.inl (by kernel_rfl)
theorem g_law_fed:GV P "_law_fed" (.ref 398):=.inl (by kernel_rfl)
theorem g_FrameBuffer:GV P "FrameBuffer" (.ref 330):=.inl (by kernel_rfl)
theorem g_Frame:GV P "Frame" (.ref 82):=.inl (by kernel_rfl)
theorem g_DataFrame:GV P "DataFrame" (.ref 114):=.inl (by kernel_rfl)
theorem g_HeadersFrame:GV P "HeadersFrame" (.ref 138):=.inl (by kernel_rfl)
theorem g_RstStreamFrame:GV P "RstStreamFrame" (.ref 157):=.inl (by kernel_rfl)
theorem g_PushPromiseFrame:GV P "PushPromiseFrame" (.ref 179):=.inl (by kernel_rfl)
theorem g_WindowUpdateFrame:GV P "WindowUpdateFrame" (.ref 198):=.inl (by kernel_rfl)
theorem g_ContinuationFrame:GV P "ContinuationFrame" (.ref 212):=.inl (by kernel_rfl)
theorem g_InvalidFrameError:GV P "InvalidFrameError" (.ref 24):=.inl (by kernel_rfl)
theorem g_InvalidDataError:GV P "InvalidDataError" (.ref 37):=.inl (by kernel_rfl)
theorem g_ProtocolError:GV P "ProtocolError" (.ref 251):=.inl (by kernel_rfl)
theorem g_FrameTooLargeError:GV P "FrameTooLargeError" (.ref 263):=.inl (by kernel_rfl)
theorem g_FrameDataMissingError:GV P "FrameDataMissingError" (.ref 275):=.inl (by kernel_rfl)
theorem g_len:GV P "len" (.builtin "len"):=.inr ⟨by kernel_rfl,by decide +kernel,by decide⟩
theorem g_min:GV P "min" (.builtin "min"):=.inr ⟨by kernel_rfl,by decide +kernel,by decide⟩
theorem g_isinstance:GV P "isinstance" (.builtin "isinstance"):=.inr ⟨by kernel_rfl,by decide +kernel,by decide⟩
theorem g_bytes:GV P "bytes" (.type "bytes"):=.inr ⟨by kernel_rfl,by decide +kernel,by decide⟩
theorem g_range:GV P "range" (.type "range"):=.inr ⟨by kernel_rfl,by decide +kernel,by decide⟩
theorem g_int:GV P "int" (.type "int"):=.inr ⟨by kernel_rfl,by decide +kernel,by decide⟩
theorem g_set:GV P "set" (.type "set"):=.inr ⟨by kernel_rfl,by decide +kernel,by decide⟩
theorem g_bytearray:GV P "bytearray" (.type "bytearray"):=.inr ⟨by kernel_rfl,by decide +kernel,by decide⟩
theorem sl_big {d0 d1:D}:qa7 (fdAt P 353).scope.names ["number","size"] [d0,d1]=[⟨"number",.cell,some d0⟩,⟨"size",.cell,some d1⟩,⟨"bytes",.globalImplicit,none⟩,⟨"range",.globalImplicit,none⟩]:=by kernel_rfl
theorem sl_small {d0:D}:qa7 (fdAt P 360).scope.names ["octets"] [d0]=[⟨"octets",.local,some d0⟩,⟨"number",.local,none⟩,⟨"octet",.local,none⟩]:=by kernel_rfl
theorem sl_drawn {d0 d1:D}:qa7 (fdAt P 365).scope.names ["drawn","many"] [d0,d1]=[⟨"drawn",.local,some d0⟩,⟨"many",.local,some d1⟩,⟨"kind",.local,none⟩,⟨"rest",.local,none⟩,⟨"stream",.cell,none⟩,⟨"seed",.cell,none⟩,⟨"body",.local,none⟩,⟨"pieces",.local,none⟩,⟨"_law_kinds",.globalImplicit,none⟩,⟨"bytes",.globalImplicit,none⟩,⟨"range",.globalImplicit,none⟩,⟨"len",.globalImplicit,none⟩,⟨"_law_bits",.globalImplicit,none⟩]:=by kernel_rfl
theorem sl_laid {d0 d1 d2 d3:D}:qa7 (fdAt P 372).scope.names ["kind","bits","stream","body"] [d0,d1,d2,d3]=[⟨"kind",.local,some d0⟩,⟨"bits",.local,some d1⟩,⟨"stream",.local,some d2⟩,⟨"body",.local,some d3⟩,⟨"reserved",.local,none⟩,⟨"len",.globalImplicit,none⟩,⟨"_law_big",.globalImplicit,none⟩,⟨"bytes",.globalImplicit,none⟩]:=by kernel_rfl
theorem sl_due {d0 d1 d2 d3 d4:D}:qa7 (fdAt P 379).scope.names ["kind","bits","stream","body","bound"] [d0,d1,d2,d3,d4]=[⟨"kind",.local,some d0⟩,⟨"bits",.local,some d1⟩,⟨"stream",.local,some d2⟩,⟨"body",.local,some d3⟩,⟨"bound",.local,some d4⟩,⟨"padded",.local,none⟩,⟨"weighed",.local,none⟩,⟨"data",.local,none⟩,⟨"more",.local,none⟩,⟨"size",.local,none⟩,⟨"ends",.local,none⟩,⟨"len",.globalImplicit,none⟩,⟨"_law_small",.globalImplicit,none⟩]:=by kernel_rfl
theorem sl_reads {d0 d1 d2:D}:qa7 (fdAt P 384).scope.names ["rows","bound","place"] [d0,d1,d2]=[⟨"rows",.local,some d0⟩,⟨"bound",.local,some d1⟩,⟨"place",.local,some d2⟩,⟨"told",.local,none⟩,⟨"block",.local,none⟩,⟨"kind",.local,none⟩,⟨"bits",.local,none⟩,⟨"stream",.local,none⟩,⟨"body",.local,none⟩,⟨"begun",.local,none⟩,⟨"fault",.local,none⟩,⟨"row",.local,none⟩,⟨"first",.local,none⟩,⟨"len",.globalImplicit,none⟩,⟨"_law_due",.globalImplicit,none⟩]:=by kernel_rfl
theorem sl_row {d0:D}:qa7 (fdAt P 391).scope.names ["frame"] [d0]=[⟨"frame",.local,some d0⟩,⟨"kind",.local,none⟩,⟨"more",.local,none⟩,⟨"flags",.local,none⟩,⟨"isinstance",.globalImplicit,none⟩,⟨"DataFrame",.globalImplicit,none⟩,⟨"HeadersFrame",.globalImplicit,none⟩,⟨"ContinuationFrame",.globalImplicit,none⟩,⟨"PushPromiseFrame",.globalImplicit,none⟩,⟨"RstStreamFrame",.globalImplicit,none⟩,⟨"WindowUpdateFrame",.globalImplicit,none⟩]:=by kernel_rfl
theorem sl_fed {d0 d1 d2:D}:qa7 (fdAt P 398).scope.names ["buffer","part","seen"] [d0,d1,d2]=[⟨"buffer",.local,some d0⟩,⟨"part",.local,some d1⟩,⟨"seen",.local,some d2⟩,⟨"frame",.local,none⟩,⟨"_law_row",.globalImplicit,none⟩,⟨"FrameTooLargeError",.globalImplicit,none⟩,⟨"FrameDataMissingError",.globalImplicit,none⟩,⟨"ProtocolError",.globalImplicit,none⟩]:=by kernel_rfl
theorem sl_law {d0:D}:qa7 (fdAt P 403).scope.names ["script"] [d0]=[⟨"script",.local,some d0⟩,⟨"start",.local,none⟩,⟨"numbers",.local,none⟩,⟨"server",.local,none⟩,⟨"bound",.local,none⟩,⟨"rows",.local,none⟩,⟨"drawn",.local,none⟩,⟨"octets",.local,none⟩,⟨"ahead",.local,none⟩,⟨"told",.local,none⟩,⟨"fault",.local,none⟩,⟨"begun",.local,none⟩,⟨"ended",.local,none⟩,⟨"inside",.local,none⟩,⟨"tail",.local,none⟩,⟨"may",.local,none⟩,⟨"wrong",.local,none⟩,⟨"preface",.local,none⟩,⟨"buffer",.local,none⟩,⟨"seen",.local,none⟩,⟨"came",.cell,none⟩,⟨"turn",.local,none⟩,⟨"unit",.local,none⟩,⟨"size",.local,none⟩,⟨"answer",.local,none⟩,⟨"len",.globalImplicit,none⟩,⟨"_law_drawn",.globalImplicit,none⟩,⟨"_law_reads",.globalImplicit,none⟩,⟨"_law_big",.globalImplicit,none⟩,⟨"bytes",.globalImplicit,none⟩,⟨"_law_preface",.globalImplicit,none⟩,⟨"FrameBuffer",.globalImplicit,none⟩,⟨"_law_fed",.globalImplicit,none⟩,⟨"min",.globalImplicit,none⟩]:=by kernel_rfl
theorem sl_finit {d0 d1:D}:qa7 (fdAt P 55).scope.names ["self","stream_id"] [d0,d1]=[⟨"self",.local,some d0⟩,⟨"stream_id",.local,some d1⟩,⟨"set",.globalImplicit,none⟩]:=by kernel_rfl
theorem sl_pfh {d0:D}:qa7 (fdAt P 62).scope.names ["header"] [d0]=[⟨"header",.local,some d0⟩,⟨"kind",.local,none⟩,⟨"stream_id",.local,none⟩,⟨"frame",.local,none⟩,⟨"bit",.local,none⟩,⟨"name",.local,none⟩,⟨"int",.globalImplicit,none⟩,⟨"InvalidDataError",.globalImplicit,none⟩,⟨"DataFrame",.globalImplicit,none⟩,⟨"HeadersFrame",.globalImplicit,none⟩,⟨"RstStreamFrame",.globalImplicit,none⟩,⟨"PushPromiseFrame",.globalImplicit,none⟩,⟨"WindowUpdateFrame",.globalImplicit,none⟩,⟨"ContinuationFrame",.globalImplicit,none⟩,⟨"Frame",.globalImplicit,none⟩]:=by kernel_rfl
theorem sl_pb {d0 d1:D}:qa7 (fdAt P 72).scope.names ["self","data"] [d0,d1]=[⟨"self",.local,some d0⟩,⟨"data",.local,some d1⟩]:=by kernel_rfl
theorem sl_unp {d0 d1:D}:qa7 (fdAt P 79).scope.names ["self","data"] [d0,d1]=[⟨"self",.local,some d0⟩,⟨"data",.local,some d1⟩,⟨"len",.globalImplicit,none⟩,⟨"InvalidFrameError",.globalImplicit,none⟩,⟨"InvalidDataError",.globalImplicit,none⟩]:=by kernel_rfl
theorem sl_dpb {d0 d1:D}:qa7 (fdAt P 103).scope.names ["self","data"] [d0,d1]=[⟨"self",.local,some d0⟩,⟨"data",.local,some d1⟩]:=by kernel_rfl
theorem sl_fcl {d0:D}:qa7 (fdAt P 110).scope.names ["self"] [d0]=[⟨"self",.local,some d0⟩,⟨"len",.globalImplicit,none⟩]:=by kernel_rfl
theorem sl_hpb {d0 d1:D}:qa7 (fdAt P 135).scope.names ["self","data"] [d0,d1]=[⟨"self",.local,some d0⟩,⟨"data",.local,some d1⟩,⟨"len",.globalImplicit,none⟩,⟨"InvalidFrameError",.globalImplicit,none⟩]:=by kernel_rfl
theorem sl_rpb {d0 d1:D}:qa7 (fdAt P 154).scope.names ["self","data"] [d0,d1]=[⟨"self",.local,some d0⟩,⟨"data",.local,some d1⟩,⟨"len",.globalImplicit,none⟩,⟨"InvalidFrameError",.globalImplicit,none⟩,⟨"int",.globalImplicit,none⟩]:=by kernel_rfl
theorem sl_ppb {d0 d1:D}:qa7 (fdAt P 176).scope.names ["self","data"] [d0,d1]=[⟨"self",.local,some d0⟩,⟨"data",.local,some d1⟩,⟨"len",.globalImplicit,none⟩,⟨"InvalidFrameError",.globalImplicit,none⟩,⟨"int",.globalImplicit,none⟩,⟨"InvalidDataError",.globalImplicit,none⟩]:=by kernel_rfl
theorem sl_wpb {d0 d1:D}:qa7 (fdAt P 195).scope.names ["self","data"] [d0,d1]=[⟨"self",.local,some d0⟩,⟨"data",.local,some d1⟩,⟨"len",.globalImplicit,none⟩,⟨"InvalidFrameError",.globalImplicit,none⟩,⟨"int",.globalImplicit,none⟩,⟨"InvalidDataError",.globalImplicit,none⟩]:=by kernel_rfl
theorem sl_add {d0 d1:D}:qa7 (fdAt P 299).scope.names ["self","data"] [d0,d1]=[⟨"self",.local,some d0⟩,⟨"data",.local,some d1⟩,⟨"data_view",.local,none⟩,⟨"data_len",.local,none⟩,⟨"of_which_preamble",.local,none⟩,⟨"msg",.local,none⟩,⟨"len",.globalImplicit,none⟩,⟨"min",.globalImplicit,none⟩,⟨"ProtocolError",.globalImplicit,none⟩]:=by kernel_rfl
theorem sl_val {d0 d1:D}:qa7 (fdAt P 306).scope.names ["self","length"] [d0,d1]=[⟨"self",.local,some d0⟩,⟨"length",.local,some d1⟩,⟨"msg",.local,none⟩,⟨"FrameTooLargeError",.globalImplicit,none⟩]:=by kernel_rfl
theorem sl_uhb {d0 d1:D}:qa7 (fdAt P 313).scope.names ["self","f"] [d0,d1]=[⟨"self",.local,some d0⟩,⟨"f",.local,some d1⟩,⟨"stream_id",.local,none⟩,⟨"valid_frame",.local,none⟩,⟨"msg",.local,none⟩,⟨"isinstance",.globalImplicit,none⟩,⟨"ContinuationFrame",.globalImplicit,none⟩,⟨"ProtocolError",.globalImplicit,none⟩,⟨"len",.globalImplicit,none⟩,⟨"CONTINUATION_BACKLOG",.globalImplicit,none⟩,⟨"HeadersFrame",.globalImplicit,none⟩,⟨"PushPromiseFrame",.globalImplicit,none⟩]:=by kernel_rfl
theorem sl_take {d0:D}:qa7 (fdAt P 327).scope.names ["self"] [d0]=[⟨"self",.local,some d0⟩,⟨"f",.local,none⟩,⟨"length",.local,none⟩,⟨"err",.local,none⟩,⟨"msg",.local,none⟩,⟨"new_frame",.local,none⟩,⟨"len",.globalImplicit,none⟩,⟨"Frame",.globalImplicit,none⟩,⟨"bytes",.globalImplicit,none⟩,⟨"InvalidDataError",.globalImplicit,none⟩,⟨"InvalidFrameError",.globalImplicit,none⟩,⟨"ProtocolError",.globalImplicit,none⟩,⟨"FrameDataMissingError",.globalImplicit,none⟩]:=by kernel_rfl
end
noncomputable def qem:List String:=["enumerate","zip","dict_itemiterator","dict_reverseitemiterator","odict_iterator","itertools.zip_longest","itertools.pairwise"]
structure Source (C:Cx) (items:List D) (I:Addr) (fp:List Addr) (P:Nat→Value→Prop) (St:Nat→Heap→Prop) (imm:List Cell):Prop where
 W:∀ A:Around,A.handled=none→Walks C.prog C.w A I fp [I] items.length P St
 fpk:∀ b∈fp,b≠I→∃ o,(b,o)∈imm∨C.base.get? b=some o
 obj:∀ i h,St i h→∃ o T,h.get? I=some o∧o.cls=.type T∧qem.contains T=false
 item:∀ i v imm',imm⊆imm'→P i v→i<items.length→∃ d,items[i]?=some d∧DIn imm' v d
structure Src (C:Cx) (σ:AS) (iter:Expr) (items:List D):Prop where
 hs:∀ x,foldedSetIterable iter C.env x=pure x
 go:∀ imm s,Rel C σ imm s→∀ (Q E:Value→Shared→Prop),(∀ I o fp P St imm' s',imm⊆imm'→Rel (C.hide (I,o)) σ imm' s'→Source C items I fp P St imm'→St 0 s'.heap→Q (.ref I) s') →
  wpAny C.M C.A (eval iter C.env) (fun x s₁=>wpAny C.M C.A (pyIter x) Q E s₁) E s
section
variable {C:Cx}{σ:AS}{n:Nat}{imm:List Cell}{s:Shared}
theorem qdl {iter:Expr}{ds:List D} (h:X C σ iter (.lst ds)) (hs:∀ x,foldedSetIterable iter C.env x=pure x):Src C σ iter ds where
 hs:=hs
 go:=fun imm s R Q E q=>h.go imm s R _ _ fun v i1 s1 hs1 R1 hv=>by
  cases hv with
  | @lst a ob vs nn _ hm hc hx ha =>
   have hl:s1.heap.IsList a vs.toArray:=⟨_,R1.at_imm hm,hc,_,hx⟩
   have hne:a≠s1.heap.objs.size:=Nat.ne_of_lt (Heap.lt_size (R1.at_imm hm))
   have hlen:vs.toArray.size=ds.length:=by rw [List.size_toArray,ha.length]
   refine wpAny_pyIter_list hl (q _ _ [s1.heap.objs.size,a] (fun i v=>vs.toArray[i]?=some v) (fun i h=>h.IsListIter s1.heap.objs.size a i∧h.IsList a vs.toArray) i1 _ hs1 (R1.hideNew _) ?_ ?_)
   ·refine ⟨fun A hA=>hlen ▸ Walks.list hA s1.heap.objs.size a hne vs.toArray,fun b hb hbI=>?_,fun i h st=>?_,fun i v imm' hi hP hlt=>?_⟩
    ·rcases mcj hb with e | hb
     ·exact absurd e hbI
     ·rw [msj hb];exact ⟨_,.inl hm⟩
    ·obtain ⟨o,ho,hoc,_⟩:=st.1
     exact ⟨o,_,ho,hoc,by decide⟩
    ·obtain ⟨d,hd,hvd⟩:=ha.getV (by simpa using hP)
     exact ⟨d,hd,hvd.mono hi⟩
   ·exact ⟨⟨_,Heap.get?_push_size _ rfl,rfl,rfl⟩,hl.push _⟩
theorem Src_bytes {iter:Expr}{ks:List Int} (h:X C σ iter (.bytes ks)) (hs:∀ x,foldedSetIterable iter C.env x=pure x):Src C σ iter (ks.map D.int) where
 hs:=hs
 go:=fun imm s R Q E q=>h.go imm s R _ _ fun v i1 s1 hs1 R1 hv=>by
  cases hv with
  | @bytes b t _ e =>
   have hlen:b.size=(ks.map D.int).length:=by rw [lem,← e];exact (KBw.ints_length b).symm
   refine KBw.pyIter_bytes (q _ _ [s1.heap.objs.size] (fun i v=>∃ c u,b[i]?=some c∧v=.int (c.toNat:Int) u) (fun i h=>KBw.IsBytesIter h s1.heap.objs.size b t i) i1 _ hs1 (R1.hideNew _) ?_ ?_)
   ·refine ⟨fun A hA=>hlen ▸ KBw.walks hA s1.heap.objs.size b t,fun b hb hbI=>?_,fun i h st=>?_,fun i v imm' hi hP hlt=>?_⟩
    ·exact absurd (msj hb) hbI
    ·obtain ⟨o,ho,hoc,_⟩:=st
     exact ⟨o,_,ho,hoc,by decide⟩
    ·obtain ⟨c,u,hc,rfl⟩:=hP
     refine ⟨_,?_,.int _ u⟩
     rw [List.getElem?_map,← e,show (bI b)[i]?=some (c.toNat:Int) from KBw.ints_get hc]
     rfl
   ·exact ⟨_,Heap.get?_push_size _ rfl,rfl,rfl⟩
theorem Src_base {iter:Expr}{a:Addr}{vs:List Value}{n:Nat}{ob:Obj} (h:X C σ iter (.val (.ref a))) (hb:C.base.get? a=some ob) (hc:ob.cls=.type "list") (hx:ob.data=.seq vs.toArray n) (hs:∀ x,foldedSetIterable iter C.env x=pure x):Src C σ iter (vs.map D.val) where
 hs:=hs
 go:=fun imm s R Q E q=>h.go imm s R _ _ fun v i1 s1 hs1 R1 hv=>by
  cases hv
  have hk:=R1.base_keep a ob hb
  have hl:s1.heap.IsList a vs.toArray:=⟨_,hk,hc,_,hx⟩
  have hne:a≠s1.heap.objs.size:=Nat.ne_of_lt (Heap.lt_size hk)
  have hlen:vs.toArray.size=(vs.map D.val).length:=by rw [List.size_toArray,lem]
  refine wpAny_pyIter_list hl (q _ _ [s1.heap.objs.size,a] (fun i v=>vs.toArray[i]?=some v) (fun i h=>h.IsListIter s1.heap.objs.size a i∧h.IsList a vs.toArray) i1 _ hs1 (R1.hideNew _) ?_ ?_)
  ·refine ⟨fun A hA=>hlen ▸ Walks.list hA s1.heap.objs.size a hne vs.toArray,fun b hb' hbI=>?_,fun i h st=>?_,fun i v imm' hi hP hlt=>?_⟩
   ·rcases mcj hb' with e | hb'
    ·exact absurd e hbI
    ·rw [msj hb'];exact ⟨_,.inr hb⟩
   ·obtain ⟨o,ho,hoc,_⟩:=st.1
    exact ⟨o,_,ho,hoc,by decide⟩
   ·exact ⟨.val v,by rw [List.getElem?_map,show vs[i]?=some v from by simpa using hP];rfl,.val v⟩
  ·exact ⟨⟨_,Heap.get?_push_size _ rfl,rfl,rfl⟩,hl.push _⟩
theorem Source.turn {items I fp P St o} (S:Source C items I fp P St imm) {σ':AS}{imm1 imm':List Cell}{s s':Shared}{i:Nat} (hi1:imm⊆imm1) (hi:imm⊆imm') (st:St i s.heap) (hA:C.A.handled=none) (R:Rel (C.hide (I,o)) σ imm1 s) (R':Rel (C.hide (I,o)) σ' imm' s'):St i s'.heap:=by
 refine (S.W C.A hA).frame i s.heap s'.heap st fun b hb ob hob=>?_
 by_cases e:b=I
 ·subst e
  have h1:=R.unhide.2
  have h2:=R'.unhide.2
  rw [hob] at h1;cases h1
  exact h2
 ·obtain ⟨o',ho' | ho'⟩:=S.fpk b hb e
  ·have h1:=R.at_imm (hi1 ho')
   rw [hob] at h1;cases h1
   exact R'.at_imm (hi ho')
  ·have h1:=R.base_keep b o' ho'
   rw [hob] at h1;cases h1
   exact R'.base_keep b ob ho'
end
section
variable {C:Cx}{σ:AS}{n:Nat}{K:Fl→AS→Prop}{rest:List Stmt}{E:Value→Shared→Prop}
set_option tactic.hygienic true in
theorem qeo {target:Expr}{I:Addr}{v:Value}{M:Model}{A:Around}{s:Shared}{Q:Unit→Shared→Prop}{E:Value→Shared→Prop}{o:Obj}{T:String} (ho:s.heap.get? I=some o) (hc:o.cls=.type T) (hT:qem.contains T=false) (q:Q () s):wpAny M A (letOwnedTupleGo target (.ref I) v) Q E s:=by
 unfold letOwnedTupleGo
 cases target <;> first
  | exact wpAny_pure q
  | (cases v <;> first
   | exact wpAny_pure q
   | (
    refine wpAny_bind (wpAny_load ho ?_)
    rw [hc]
    generalize o.data=dt
    cases dt <;> first
     | exact wpAny_pure q
     | (
      unfold qem at hT
      dsimp only
      rw [hT,Bool.false_and]
      exact wpAny_pure q)))
theorem codeAny_for {prog:Program}{w:World}{A:Around}{s:Shared}{R:Result→Shared→Prop}{target it body orelse env} (I:Nat→Shared→Prop)
 (turn:∀ n s,I n s→wpAny (model prog w) A (pyNext it) (fun r s₁=>match r with
  | none=>wpAny (model prog w) A (execs orelse env) (fun f s₃=>R (.ok f) s₃) (notedBy (model prog w) A env fun e s'=>R (.error e) s') s₁
  | some v=>wpAny (model prog w) A (letOwnedTupleGo target it v) (fun V s₀=>wpAny (model prog w) A (assign target env v) (fun V s₂=>wpAny (model prog w) A (execs body env) (fun f s₃=>match f with
   | .next | .cont=>∃ m,m<n∧I m s₃
   | .brk=>R (.ok .next) s₃
   | .ret v=>R (.ok (.ret v)) s₃) (notedBy (model prog w) A env fun e s'=>R (.error e) s') s₂) (notedBy (model prog w) A env fun e s'=>R (.error e) s') s₀) (notedBy (model prog w) A env fun e s'=>R (.error e) s') s₁) (notedBy (model prog w) A env fun e s'=>R (.error e) s') s)
 (n:Nat) (h:I n s):codeAny (model prog w) A (.forLoop target it body orelse env) R s:=by
 refine codeAny_loop' rfl I (fun n s hI=>?_) n h
 show wpAny _ _ ((forTurn target it body orelse env).onRaise (fun x=>do noteFrame x env;theTreesLotGoes x)) _ _ s
 refine wpAny_noted ?_
 unfold forTurn
 refine wpAny_bind (wpAny_standAt (wpAny_bind (wpAny_onRaise (wpAny_mono (turn n s hI) (fun r s₁ h₁=>?_) fun V V h'=>wpAny_standAt h'))))
 cases r with
 | none=>exact wpAny_pure (.inr ⟨rfl,codeAny_block h₁⟩)
 | some v =>
  refine wpAny_bind (wpAny_mono h₁ (fun V s₀ h₀=>?_) fun V V h'=>h')
  refine wpAny_bind (wpAny_mono h₀ (fun V s₂ h₂=>?_) fun V V h'=>h')
  refine wpAny_bind (wpAny_mono h₂ (fun f s₃ h₃=>?_) fun V V h'=>h')
  cases f with
  | next=>exact wpAny_pure (.inl ⟨rfl,h₃⟩)
  | cont=>exact wpAny_pure (.inl ⟨rfl,h₃⟩)
  | brk=>exact wpAny_pure h₃
  | ret v=>exact wpAny_pure h₃
theorem S_for {target iter:Expr}{body:List Stmt}{pos:Pos}{items:List D} (O:Ok C n) (src:Src C σ iter items) (J:Nat→AS→Prop) (h0:J 0 σ)
 (turn:∀ i d σ1 (C':Cx),items[i]?=some d→J i σ1→Ok C' n→C'.w.params=C.w.params→C'.cap=C.cap→∃ ρ2,Asg C' target d σ1.ρ ρ2∧SL C' ⟨ρ2,σ1.ms⟩ body (fun f σ2=>match f with | .next | .cont=>J (i+1) σ2 | .brk=>False | .ret d=>K (.ret d) σ2) (fun V V=>False))
 (done:∀ σ1,J items.length σ1→SL C σ1 rest K E):SL C σ (.For target iter body [] pos::rest) K E:=.mk fun imm s R=>by
 refine wpAny_execs_cons (wpAny_For ?_ src.hs)
 refine src.go imm s R _ _ fun I o fp P St i1 s1 hs1 R1 S st=>?_
 refine codeAny_for (fun k s'=>∃ i σ' o' imm',i≤items.length∧k=items.length - i∧i1⊆imm'∧Rel (C.hide (I,o')) σ' imm' s'∧St i s'.heap∧J i σ') ?_ items.length ⟨0,σ,o,i1,Nat.zero_le _,rfl,qa2,R1,st,h0⟩
 rintro k s' ⟨i,σ',o',imm',hi,rfl,hs',R',st',hJ⟩
 by_cases hlt:i<items.length
 ·refine (S.W C.A O.hn).item i s' _ _ hlt st' fun v h' tk hP st'' hk=>?_
  obtain ⟨d,hd,hv⟩:=S.item i v imm' hs' hP hlt
  obtain ⟨ob,T,hob,hoc,hT⟩:=S.obj _ _ st''
  have R2:Rel (C.hide (I,ob)) σ' imm' { s' with heap:=h',toks:=tk }:=R'.rehide (fun b x hb e=>hk b x (by simpa using hb) e) hob
  refine qeo (by exact hob) hoc hT ?_
  obtain ⟨ρ2,ha,hb⟩:=turn i d σ' (C.hide (I,ob)) hd hJ (O.hide _) rfl rfl
  refine ha.go σ'.ms imm' _ v R2 hv _ _ fun s3 R3=>?_
  refine wpAny_mono (hb.go imm' s3 R3) (fun f s4 hf=>?_) fun V V x=>x.elim
  obtain ⟨f',σ4,i4,hs4,R4,hf,hK⟩:=hf
  have st4:St (i+1) s4.heap:=Source.turn S hs' (qa0 hs' hs4) st'' O.hn R2 R4
  cases hf with
  | next=>exact ⟨_,qg0 hlt,i+1,σ4,ob,i4,hlt,rfl,qa0 hs' hs4,R4,st4,hK⟩
  | cont=>exact ⟨_,qg0 hlt,i+1,σ4,ob,i4,hlt,rfl,qa0 hs' hs4,R4,st4,hK⟩
  | brk=>exact hK.elim
  | ret hd=>exact ⟨_,σ4,i4,qa0 hs1 (qa0 hs' hs4),R4.unhide.1,.ret hd,hK⟩
 ·have hi':i=items.length:=by lia
  subst hi'
  refine (S.W C.A O.hn).done s' _ _ st' fun h' tk hk=>?_
  have R2:Rel C σ' imm' { s' with heap:=h',toks:=tk }:=R'.unhide' fun b x hb e=>hk b x (by simpa using hb) e
  refine wpAny_execs_nil ?_
  exact wpAny_mono ((done σ' hJ).go imm' _ R2) (fun V V h=>h.up (qa0 hs1 hs')) fun V V x=>x
end
inductive Item (C:Cx) (σ:AS) (elt:Expr):List Expr→Option D→Prop
 | plain {d}:X C σ elt d→Item C σ elt [] (some d)
 | test {c b d}:T C σ c b→(b=true→X C σ elt d)→Item C σ elt [c] (if b=true then some d else none)
theorem compTurn_0 (elt target iter:Expr) (scope:Scope) (pos:Pos) (it acc:Value) (env:Env) :
 compTurn (.ListComp elt [⟨target,iter,[],0⟩] scope pos) 0 it acc env=(standAt iter.pos >>= fun V=>pyNext it >>= fun r=>match r with
  | none=>pure (.done .next)
  | some v=>letOwnedTupleGo target it v >>= fun V=>assign target env v >>= fun V =>
   (eval elt env >>= fun x=>call (.builtin "list.append") [acc,x] >>= fun V=>pure ()) >>= fun V =>
    again (.compLoop (.ListComp elt [⟨target,iter,[],0⟩] scope pos) 0 it acc env)):=by rfl
theorem compTurn_1 (elt target iter c:Expr) (scope:Scope) (pos:Pos) (it acc:Value) (env:Env) :
 compTurn (.ListComp elt [⟨target,iter,[c],0⟩] scope pos) 0 it acc env=(standAt iter.pos >>= fun V=>pyNext it >>= fun r=>match r with
  | none=>pure (.done .next)
  | some v=>letOwnedTupleGo target it v >>= fun V=>assign target env v >>= fun V=>PySem.isTrue c env (eval c env) >>= fun ok =>
   (if ok=true then (eval elt env >>= fun x=>call (.builtin "list.append") [acc,x] >>= fun V=>pure ()) >>= fun V =>
    again (.compLoop (.ListComp elt [⟨target,iter,[c],0⟩] scope pos) 0 it acc env) else again (.compLoop (.ListComp elt [⟨target,iter,[c],0⟩] scope pos) 0 it acc env))):=by
 unfold compTurn
 simp only [bind_assoc,pure_bind,List.getElem?_cons_zero,Nat.zero_add,List.getElem?_cons_succ,List.getElem?_nil,bne_self_eq_false,Bool.false_eq_true,if_false,List.forIn_cons,List.forIn_nil,if_true]
 rfl
theorem codeAny_comp {prog:Program}{w:World}{A:Around}{s:Shared}{R:Result→Shared→Prop}{elt target iter:Expr}{ifs:List Expr}{scope:Scope}{pos:Pos}{it acc:Value}{env:Env} (hifs:ifs=[]∨∃ c,ifs=[c]) (I:Nat→Shared→Prop)
 (turn:∀ n s,I n s→wpAny (model prog w) A (pyNext it) (fun r s₁=>match r with
  | none=>R (.ok .next) s₁
  | some v=>wpAny (model prog w) A (letOwnedTupleGo target it v) (fun V s₀=>wpAny (model prog w) A (assign target env v) (fun V s₂ =>
   (ifs=[]→wpAny (model prog w) A (eval elt env) (fun x s₃=>wpAny (model prog w) A (call (.builtin "list.append") [acc,x]) (fun V s₄=>∃ m,m<n∧I m s₄) (fun V V=>False) s₃) (fun V V=>False) s₂) ∧
   (∀ c,ifs=[c]→wpAny (model prog w) A (PySem.isTrue c env (eval c env)) (fun ok s'=>if ok=true then wpAny (model prog w) A (eval elt env) (fun x s₃=>wpAny (model prog w) A (call (.builtin "list.append") [acc,x]) (fun V s₄=>∃ m,m<n∧I m s₄) (fun V V=>False) s₃) (fun V V=>False) s'
    else ∃ m,m<n∧I m s') (fun V V=>False) s₂)) (fun V V=>False) s₀) (fun V V=>False) s₁) (fun V V=>False) s)
 (n:Nat) (h:I n s):codeAny (model prog w) A (.compLoop (.ListComp elt [⟨target,iter,ifs,0⟩] scope pos) 0 it acc env) R s:=by
 refine codeAny_loop' rfl I (fun n s hI=>?_) n h
 show wpAny _ _ ((compTurn (.ListComp elt [⟨target,iter,ifs,0⟩] scope pos) 0 it acc env).onRaise (fun x=>do noteFrame x env;theTreesLotGoes x)) _ _ s
 refine wpAny_noted ?_
 have key:=turn n s hI
 rcases hifs with rfl | ⟨c,rfl⟩
 ·rw [compTurn_0]
  refine wpAny_bind (wpAny_standAt (wpAny_bind (wpAny_mono key (fun r s₁ h₁=>?_) fun V V h'=>h'.elim)))
  cases r with
  | none=>exact wpAny_pure h₁
  | some v =>
   refine wpAny_bind (wpAny_mono h₁ (fun V s₀ h₀=>wpAny_bind (wpAny_mono h₀ (fun V s₂ h₂=>?_) fun V V x=>x.elim)) fun V V x=>x.elim)
   exact wpAny_bind (wpAny_bind (wpAny_mono (h₂.1 rfl) (fun x s₃ h₃=>wpAny_bind (wpAny_mono h₃ (fun V s₄ h₄=>wpAny_pure (wpAny_pure (.inl ⟨rfl,h₄⟩))) fun V V x=>x.elim)) fun V V x=>x.elim))
 ·rw [compTurn_1]
  refine wpAny_bind (wpAny_standAt (wpAny_bind (wpAny_mono key (fun r s₁ h₁=>?_) fun V V h'=>h'.elim)))
  cases r with
  | none=>exact wpAny_pure h₁
  | some v =>
   refine wpAny_bind (wpAny_mono h₁ (fun V s₀ h₀=>wpAny_bind (wpAny_mono h₀ (fun V s₂ h₂=>?_) fun V V x=>x.elim)) fun V V x=>x.elim)
   refine wpAny_bind (wpAny_mono (h₂.2 c rfl) (fun ok s' hok=>?_) fun V V x=>x.elim)
   cases ok with
   | true =>
    rw [if_pos rfl] at hok ⊢
    exact wpAny_bind (wpAny_bind (wpAny_mono hok (fun x s₃ h₃=>wpAny_bind (wpAny_mono h₃ (fun V s₄ h₄=>wpAny_pure (wpAny_pure (.inl ⟨rfl,h₄⟩))) fun V V x=>x.elim)) fun V V x=>x.elim))
   | false =>
    rw [if_neg bft] at hok ⊢
    exact wpAny_pure (.inl ⟨rfl,hok⟩)
noncomputable def clOf (scope:Scope) (env:Env):List (Str×Addr):=(scope.names.filter (·.2 == .free)).reverse.map fun x=>(x.1,(env.cells.lookup x.1).getD 0)
theorem qfo {scope:Scope}{env:Env} (h:∀ x∈scope.names,x.2=.free→∃ c,env.cells.lookup x.1=some c):closureFor scope env=pure (clOf scope env):=by
 have key:∀ (names:List (Str×NameKind)) (acc:List (Str×Addr)),(∀ x∈names,x.2=.free→∃ c,env.cells.lookup x.1=some c) →
  (forIn names acc (fun x cs=>do
   if x.2 == .free then
    let c ← cellOf env x.1
    pure (ForInStep.yield ((x.1,c)::cs))
   else pure (ForInStep.yield cs)):Sem (List (Str×Addr)))=pure ((names.filter (·.2 == .free)).reverse.map (fun x=>(x.1,(env.cells.lookup x.1).getD 0))++acc):=by
  intro names
  induction names with
  | nil=>intro acc _;rfl
  | cons x r ih =>
   intro acc hx
   rw [List.forIn_cons]
   by_cases hf:x.2=.free
   ·obtain ⟨c,hc⟩:=hx x (.head _) hf
    have e:(x.2 == NameKind.free)=true:=by simp [hf]
    simp only [e,if_true,List.filter_cons_of_pos]
    have hcell:cellOf env x.1=pure c:=by unfold cellOf;rw [hc]
    simp only [hcell,pure_bind]
    rw [ih _ fun y hy=>hx y (.tail _ hy)]
    simp [hc]
   ·have e:(x.2 == NameKind.free)=false:=by simp [hf]
    simp only [e,Bool.false_eq_true,if_false,pure_bind]
    rw [ih _ fun y hy=>hx y (.tail _ hy),List.filter_cons_of_neg (by simp [hf])]
 unfold closureFor clOf
 have:=key scope.names [] h
 rw [List.append_nil] at this
 refine Eq.trans (b:=(forIn scope.names ([]:List (Str×Addr)) (fun x cs=>do
  if x.2 == .free then
   let c ← cellOf env x.1
   pure (ForInStep.yield ((x.1,c)::cs))
  else pure (ForInStep.yield cs)):Sem (List (Str×Addr))) >>= pure) rfl ?_
 rw [bind_pure]
 exact this
inductive Wk:List Slot→List Slot→Prop
 | nil:Wk [] []
 | same {p r r'}:Wk r r'→Wk (p::r) (p::r')
 | drop {x k d r r'}:Wk r r'→Wk (⟨x,k,d⟩::r) (⟨x,k,none⟩::r')
theorem Wk.mem {r r':List Slot} (h:Wk r r'):∀ p∈r',p∈r∨(p.val=none∧∃ q∈r,q.name=p.name∧q.kind=p.kind):=by
 induction h with
 | nil=>intro p hp;cases hp
 | same _ ih =>
  intro p hp
  rcases mcj hp with e | hp
  ·subst e;exact .inl (.head _)
  ·rcases ih p hp with h | ⟨h,q,hq,r⟩
   ·exact .inl (.tail _ h)
   ·exact .inr ⟨h,q,.tail _ hq,r⟩
 | drop _ ih =>
  intro p hp
  rcases mcj hp with e | hp
  ·subst e;exact .inr ⟨rfl,_,.head _,rfl,rfl⟩
  ·rcases ih p hp with h | ⟨h,q,hq,r⟩
   ·exact .inl (.tail _ h)
   ·exact .inr ⟨h,q,.tail _ hq,r⟩
theorem Wk.names {r r':List Slot} (h:Wk r r'):r'.map (·.name)=r.map (·.name):=by
 induction h with
 | nil=>rfl
 | same _ ih=>simp [ih]
 | drop _ ih=>simp [ih]
section
variable {C:Cx}{σ:AS}{n:Nat}{imm:List Cell}{s:Shared}
theorem Rel.weak {r r' ms} (R:Rel C ⟨r,ms⟩ imm s) (h:Wk r r'):Rel C ⟨r',ms⟩ imm s:=by
 refine Rel.elim R fun m os kc fs R=>?_
 refine ⟨m,os,kc,fs,{ R with
  nm:=by rw [h.names];exact R.nm
  kn:=fun p hp=>?_
  va:=fun p hp d e=>?_
  cc:=fun p hp hk=>?_ }⟩
 ·rcases h.mem p hp with q | ⟨_,q,hq,e1,e2⟩
  ·exact R.kn p q
  ·rw [← e1,← e2];exact R.kn q hq
 ·rcases h.mem p hp with q | ⟨z,q,hq,e1,e2⟩
  ·exact R.va p q d e
  ·rw [z] at e;cases e
 ·rcases h.mem p hp with q | ⟨z,q,hq,e1,e2⟩
  ·exact R.cc p q hk
  ·rw [← e1];exact R.cc q hq (e2.trans hk)
theorem Rel.hid_perm {hid':List Cell}{H} (R:Rel C σ imm s) (hp:C.hid.Perm hid'):Rel { C with hid:=hid',capH:=H } σ imm s:=by
 refine Rel.elim R fun m os kc fs R=>?_
 have P:(fs++hid').Perm (fs++C.hid):=(List.Perm.append_left fs hp.symm)
 exact ⟨m,os,kc,fs,{ R with
  nw:=fun p h=>by
   rcases maj h with h | h
   ·exact R.mem_os h
   rcases maj h with h | h
   ·exact R.mem_kc h
   rcases maj h with h | h
   ·exact R.mem_imm h
   ·exact R.nw p (mar _ (mar _ (mar _ (P.mem_iff.mp h))))
  ap:=fun q hq=>R.ap q (by
   rcases maj hq with h | h
   ·exact mal _ h
   ·exact mar _ (P.mem_iff.mp h))
  ah:=fun q hq h=>R.ah q hq ((P.map _).mem_iff.mp h)
  hn:=(P.map _).nodup_iff.mpr R.hn }⟩
theorem Rel.swap {a b:Cell} (R:Rel ((C.hide a).hide b) σ imm s):Rel ((C.hide b).hide a) σ imm s:=R.hid_perm (.swap _ _ _)
theorem Rel.rehide2 {b:Cell}{a:Addr}{o o':Obj} (R:Rel ((C.hide (a,o)).hide b) σ imm s) {h':Heap} (hk:∀ b ob,b≠a→s.heap.get? b=some ob→h'.get? b=some ob) (ho:h'.get? a=some o') {d:Drawn}{tk:Nat}:Rel ((C.hide (a,o')).hide b) σ imm ⟨h',s.gens,d,tk,s.os⟩ :=
 (R.swap.rehide hk ho).swap
noncomputable abbrev Cx.nested (C:Cx) (env:Env) (hid cap:List Cell) (H:∀ p∈cap,p∈hid):Cx:={ C with env:=env,hid:=hid,outs:=[],cap:=cap,capH:=H }
noncomputable def qao (ρ:List Slot) (names:List (Str×NameKind)):List Slot:=names.map fun x=>if x.2=.free then ⟨x.1,.cell,(ρ.find? (·.name == x.1)).bind (·.val)⟩ else ⟨x.1,x.2,none⟩
noncomputable def qc9 (ρ:List Slot) (names:List (Str×NameKind)):Bool:=names.all fun x=>(x.2 != .free || (match ρ.find? (·.name == x.1) with | some p=>p.kind == .cell | none=>false)) && x.2 != .cell && !(x.1 == ("__debug__":Str)) && !(x.1 == ("__classdict__":Str))
theorem qc9.free {ρ names} (h:qc9 ρ names=true) {x:Str×NameKind} (hx:x∈names) (hk:x.2=.free):∃ p∈ρ,p.name=x.1∧p.kind=.cell∧ρ.find? (·.name == x.1)=some p:=by
 have:=List.all_eq_true.mp h x hx
 simp only [Bool.and_eq_true,Bool.or_eq_true] at this
 have h1:=this.1.1.1
 rcases h1 with h1 | h1
 ·simp [hk] at h1
 ·cases hf:ρ.find? (·.name == x.1) with
  | none=>rw [hf] at h1;cases h1
  | some p =>
   rw [hf] at h1
   exact ⟨p,List.mem_of_find?_eq_some hf,by simpa using List.find?_some hf,by simpa using h1,rfl⟩
theorem qc9.cell {ρ names} (h:qc9 ρ names=true) {x:Str×NameKind} (hx:x∈names):x.2≠.cell:=by
 have:=List.all_eq_true.mp h x hx
 simp only [Bool.and_eq_true,Bool.or_eq_true] at this
 simpa using this.1.1.2
theorem qc9.nb {ρ names} (h:qc9 ρ names=true) {x:Str×NameKind} (hx:x∈names):(x.1 == ("__debug__":Str))=false∧(x.1 == ("__classdict__":Str))=false:=by
 have:=List.all_eq_true.mp h x hx
 simp only [Bool.and_eq_true,Bool.or_eq_true] at this
 exact ⟨by simpa using this.1.2,by simpa using this.2⟩
theorem qf9 {names:List (Str×NameKind)}{f:Str×NameKind→NameKind}{x:Str×NameKind} (nd:(names.map (·.1)).Nodup) (hx:x∈names):(names.map fun x=>(x.1,f x)).lookup x.1=some (f x) :=
 qa5 (by rw [List.map_map];exact nd) (List.mem_map.mpr ⟨x,hx,rfl⟩)
theorem qez {scope:Scope}{env:Env}{x:Str}{c:Addr} (hall:∀ x∈scope.names,x.2=.free→∃ c,env.cells.lookup x.1=some c) (h:(clOf scope env).lookup x=some c):env.cells.lookup x=some c:=by
 refine bg fun V kG=>?_
 obtain ⟨y,hy,e⟩:=mmj (qan h)
 refine kG ?_
 clear kG
 cases e
 have hy:=List.mem_filter.mp (List.mem_reverse.mp hy)
 obtain ⟨c,hc⟩:=hall y hy.1 (by simpa using hy.2)
 rw [hc];rfl
theorem qgg {scope:Scope}{env:Env}{x:Str×NameKind}{c:Addr} (nd:(scope.names.map (·.1)).Nodup) (hx:x∈scope.names) (hk:x.2=.free) (hc:env.cells.lookup x.1=some c):(clOf scope env).lookup x.1=some c:=by
 refine qa5 ?_ (List.mem_map.mpr ⟨x,List.mem_reverse.mpr (List.mem_filter.mpr ⟨hx,by simp [hk]⟩),by rw [hc];rfl⟩)
 unfold clOf
 rw [List.map_map,List.map_reverse]
 exact ((List.reverse_perm _).nodup_iff).mpr ((List.filter_sublist.map _).nodup nd)
inductive NestOk (C:Cx) (σ:AS) (n:Nat) (imm:List Cell) (m:Str→Option Value) (os kc fs:List Cell) (scope:Scope) (L:Addr) (s':Shared):Prop
 | mk (oL:Obj) (hid:List Cell) (H:∀ p∈kc++C.cap,p∈hid):C.env.locals≠L→(∀ h:Heap,h.get? C.env.locals=some oL→h.Ns C.env.locals m)→hid=os++(kc++((C.env.locals,oL)::(fs++C.hid))) →
  Ok (C.nested (compEnvC scope (clOf scope C.env) L C.env) hid (kc++C.cap) H) n→closureFor scope C.env=pure (clOf scope C.env) →
  Rel (C.nested (compEnvC scope (clOf scope C.env) L C.env) hid (kc++C.cap) H) ⟨qao σ.ρ scope.names,[]⟩ imm s'→NestOk C σ n imm m os kc fs scope L s'
theorem cap_all {m os kc fs}{scope:Scope} (R:RelX C σ imm s m os kc fs) (hcap:qc9 σ.ρ scope.names=true):∀ x∈scope.names,x.2=.free→∃ c,C.env.cells.lookup x.1=some c:=fun x hx hf=>by
 refine bg fun V kG=>?_
 obtain ⟨p,hp,e1,e2,_⟩:=qc9.free hcap hx hf
 refine kG ?_
 clear kG
 refine bg fun V kG=>?_
 obtain ⟨c,o,h1,_⟩:=R.cc p hp e2
 refine kG ?_
 clear kG
 exact ⟨c,e1 ▸ h1⟩
theorem nest_in {m os kc fs}{scope:Scope}{L:Addr}{oL':Obj} (O:Ok C n) (R:RelX C σ imm s m os kc fs) (nd:(scope.names.map (·.1)).Nodup) (hcap:qc9 σ.ρ scope.names=true) (hkind:scope.kind=.function)
 {h':Heap} (hL:s.heap.get? L=none) (hk:∀ b o,s.heap.get? b=some o→h'.get? b=some o) (hb:C.base.objs.size≤L) (hns:h'.Ns L (fun V=>none)) {d:Drawn}{tk:Nat} :
 NestOk C σ n imm m os kc fs scope L ⟨h',s.gens,d,tk,s.os⟩:=by
 refine bg fun V kG=>?_
 obtain ⟨oL,esL,epL,hoL,hdL,hkL,hfL⟩:=R.fr.ns
 refine kG ?_
 clear kG
 have hne:C.env.locals≠L:=fun e=>by rw [e,hL] at hoL;cases hoL
 have all:=cap_all R hcap
 have hrel:(relabel scope C.env).names=scope.names.map fun x=>(x.1,if x.2=.free then NameKind.cell else x.2):=by
  unfold relabel
  refine List.map_congr_left fun x hx=>?_
  show (if (x.2 == .free && C.env.scope.kind == .function && C.env.kindOf x.1 == some .cell)=true then (x.1,NameKind.cell) else (x.1,x.2))=_
  by_cases hf:x.2=.free
  ·refine bg fun V kG=>?_
   obtain ⟨p,hp,e1,e2,_⟩:=qc9.free hcap hx hf
   refine kG ?_
   clear kG
   have hk:=R.kn p hp
   rw [e1,e2] at hk
   rw [if_pos hf,if_pos]
   rw [Bool.and_eq_true,Bool.and_eq_true]
   exact ⟨⟨by simp [hf],by rw [O.fk];rfl⟩,by rw [hk];rfl⟩
  ·rw [if_neg hf,if_neg]
   ·intro h
    rw [Bool.and_eq_true,Bool.and_eq_true] at h
    exact hf (by simpa using h.1.1)
 have kof:∀ x∈scope.names,(compEnvC scope (clOf scope C.env) L C.env).kindOf x.1=some (if x.2=.free then .cell else x.2):=fun x hx=>by
  show (relabel scope C.env).names.lookup x.1=_
  rw [hrel]
  exact qf9 (f:=fun x=>if x.2=.free then .cell else x.2) nd hx
 have hnd:=R.nd
 have capH:∀ p∈kc++C.cap,p∈os++(kc++((C.env.locals,oL)::(fs++C.hid))):=fun p hp=>by
  rcases maj hp with h | h
  ·exact mar _ (mal _ h)
  ·exact mar _ (mar _ (.tail _ (mar _ (C.capH p h))))
 refine ⟨oL,_,capH,hne,fun h e=>⟨oL,esL,epL,e,hdL,hkL,hfL⟩,rfl,?_,qfo all,⟨fun V=>none,[],[],[],?_⟩⟩
 ·exact {
   fk:=hkind
   gl:=O.gl
   bi:=O.bi
   dep:=O.dep
   un:=O.un
   hn:=O.hn
   nb:=fun x k hx=>by
    have hx:(relabel scope C.env).names.lookup x=some k:=hx
    rw [hrel] at hx
    refine bg fun V kG=>?_
    obtain ⟨y,hy,e⟩:=mmj (qan hx)
    refine kG ?_
    clear kG
    cases e
    exact qc9.nb hcap hy
   ci:=fun x y c h1 h2=>O.ci x y c (qez all h1) (qez all h2)
   kin:=O.kin
   top:=O.top }
 ·have old:∀ q:Cell,s.heap.get? q.1=some q.2→h'.get? q.1=some q.2∧q.1≠L:=fun q h=>⟨hk _ _ h,fun e=>by rw [e,hL] at h;cases h⟩
  exact {
   fr:=⟨hns,fun b o e=>hk _ _ (R.fr.keep b o e),hb⟩
   nw:=fun q hq=>by
    rw [lna,lna,lna] at hq
    rcases maj hq with h | h
    ·have:=R.mem_imm h;exact ⟨(old q this.1).1,(old q this.1).2,this.2.2⟩
    rcases maj h with h | h
    ·have:=R.mem_os h;exact ⟨(old q this.1).1,(old q this.1).2,this.2.2⟩
    rcases maj h with h | h
    ·have:=R.mem_kc h;exact ⟨(old q this.1).1,(old q this.1).2,this.2.2⟩
    rcases mcj h with h | h
    ·subst h
     refine ⟨hk _ _ hoL,hne,?_⟩
     cases hq:C.base.get? C.env.locals with
     | none=>rfl
     | some o=>exact absurd (Heap.lt_size hq) (Nat.not_lt.mpr R.fr.above)
    ·have:=R.nw q (mar _ (mar _ (mar _ h)));exact ⟨(old q this.1).1,(old q this.1).2,this.2.2⟩
   mu:=.nil
   kd:=fun p hp=>(nomatch hp)
   nd:=.nil
   ap:=fun q V h=>(nomatch h)
   ah:=fun q hq h=>by
    rw [lna] at h
    refine bg fun V kG=>?_
    obtain ⟨z,hz,e⟩:=mmj h
    refine kG ?_
    clear kG
    rcases maj hz with h' | h'
    ·exact R.ap q (mal _ hq) (by rw [lma];exact mal _ (e ▸ List.mem_map_of_mem h'))
    rcases maj h' with h' | h'
    ·exact R.ap q (mal _ hq) (by rw [lma];exact mar _ (e ▸ List.mem_map_of_mem h'))
    rcases mcj h' with h' | h'
    ·subst h';exact (R.mem_imm hq).2.1 e.symm
    ·exact R.ah q hq (e ▸ List.mem_map_of_mem h')
   hn:=by
    show ((os++(kc++((C.env.locals,oL)::(fs++C.hid)))).map (·.1)).Nodup
    rw [← laa,lma,List.nodup_append,lmc,List.nodup_cons]
    refine ⟨hnd,⟨fun h=>?_,R.hn⟩,fun a ha b hb e=>?_⟩
    ·refine bg fun V kG=>?_
     obtain ⟨q,hq,e⟩:=mmj h
     refine kG ?_
     clear kG
     exact (R.nw q (mar _ (mar _ (mar _ hq)))).2.1 e
    ·refine bg fun V kG=>?_
     obtain ⟨q,hq,rfl⟩:=mmj ha
     refine kG ?_
     clear kG
     rcases mcj hb with h | h
     ·rcases maj hq with z | z
      ·exact (R.mem_os z).2.1 (e.trans h)
      ·exact (R.mem_kc z).2.1 (e.trans h)
     ·refine bg fun V kG=>?_
      obtain ⟨z,hz,e'⟩:=mmj h
      refine kG ?_
      clear kG
      exact R.ap z (mar _ hz) (by rw [e',← e];exact List.mem_map_of_mem (f:=(·.1)) hq)
   ou:=.nil
   nm:=by
    show ((qao σ.ρ scope.names).map (·.name)).Nodup
    have:(qao σ.ρ scope.names).map (·.name)=scope.names.map (·.1):=by
     unfold qao
     rw [List.map_map]
     refine List.map_congr_left fun x V=>?_
     show Slot.name (if _ then _ else _)=_
     split <;> rfl
    rw [this]
    exact nd
   kn:=fun p hp=>by
    refine bg fun V kG=>?_
    obtain ⟨x,hx,rfl⟩:=mmj hp
    refine kG ?_
    clear kG
    have:=kof x hx
    by_cases hf:x.2=.free
    ·rw [if_pos hf] at this;rw [if_pos hf];exact this
    ·rw [if_neg hf] at this;rw [if_neg hf];exact this
   va:=fun p hp d hd=>by
    refine bg fun V kG=>?_
    obtain ⟨x,hx,rfl⟩:=mmj hp
    refine kG ?_
    clear kG
    by_cases hf:x.2=.free
    ·simp only [if_pos hf] at hd ⊢
     refine bg fun V kG=>?_
     obtain ⟨p,hp,e1,e2,e3⟩:=qc9.free hcap hx hf
     refine kG ?_
     clear kG
     rw [e3] at hd
     have hd:p.val=some d:=hd
     have hv:=R.va p hp d hd
     rw [e2] at hv
     cases hv with
     | cell h1 h2 h3 r=>exact .cap (qgg nd hx hf (e1 ▸ h1)) (mal _ h2) h3 r
     | cap h1 h2 h3 r=>exact .cap (qgg nd hx hf (e1 ▸ h1)) (mar _ h2) h3 r
    ·simp only [if_neg hf] at hd;cases hd
   cc:=fun p hp hk=>by
    refine bg fun V kG=>?_
    obtain ⟨x,hx,rfl⟩:=mmj hp
    refine kG ?_
    clear kG
    by_cases hf:x.2=.free
    ·simp only [if_pos hf]
     refine bg fun V kG=>?_
     obtain ⟨p,hp,e1,e2,e3⟩:=qc9.free hcap hx hf
     refine kG ?_
     clear kG
     refine bg fun V kG=>?_
     obtain ⟨c,o,h1,h2⟩:=R.cc p hp e2
     refine kG ?_
     clear kG
     refine ⟨c,o,qgg nd hx hf (e1 ▸ h1),.inr ?_⟩
     rcases h2 with h2 | h2
     ·exact mal _ h2
     ·exact mar _ h2
    ·simp only [if_neg hf] at hk;exact absurd hk (qc9.cell hcap hx)
   gn:=R.gn
   so:=R.so }
theorem nest_out {m os kc fs}{env':Env}{oL:Obj}{hid cap H}{σ':AS}{imm':List Cell}{s':Shared} (R:RelX C σ imm s m os kc fs) (hne:C.env.locals≠env'.locals) (hN:∀ h:Heap,h.get? C.env.locals=some oL→h.Ns C.env.locals m)
 (hh:hid=os++(kc++((C.env.locals,oL)::(fs++C.hid)))) (hs:imm⊆imm') (RR:Rel (C.nested env' hid cap H) σ' imm' s') :
 ∃ oC mC,(∀ h:Heap,h.get? env'.locals=some oC→h.Ns env'.locals mC)∧RelX (C.hide (env'.locals,oC)) σ imm' s' m os kc fs:=by
 subst hh
 refine bg fun V kG=>?_
 obtain ⟨mC,os',kc',fs',RR⟩:=RR
 refine kG ?_
 clear kG
 refine bg fun V kG=>?_
 obtain ⟨oC,es,ep,ho,hd,hkk,hf⟩:=RR.fr.ns
 refine kG ?_
 clear kG
 have hfs:fs'=[]:=by have:=RR.ou;cases this;rfl
 subst hfs
 refine ⟨oC,mC,fun h e=>⟨oC,es,ep,e,hd,hkk,hf⟩,?_⟩
 have hid':∀ q∈os++(kc++((C.env.locals,oL)::(fs++C.hid))),s'.heap.get? q.1=some q.2∧q.1≠env'.locals:=fun q hq=>⟨(RR.mem_hid hq).1,(RR.mem_hid hq).2.1⟩
 have memL:(C.env.locals,oL)∈os++(kc++((C.env.locals,oL)::(fs++C.hid))):=mar _ (mar _ (.head _))
 have ahL:∀ q∈imm',q.1≠C.env.locals:=fun q hq e=>RR.ah q hq (by rw [lna,e];exact List.mem_map_of_mem (f:=(·.1)) memL)
 have B:RelX C σ imm' s' m os kc fs:={
  fr:=⟨hN _ (hid' _ memL).1,RR.fr.keep,R.fr.above⟩
  nw:=fun q hq=>by
   rcases maj hq with h | h
   ·exact ⟨(hid' q (mal _ h)).1,(R.mem_os h).2⟩
   rcases maj h with h | h
   ·exact ⟨(hid' q (mar _ (mal _ h))).1,(R.mem_kc h).2⟩
   rcases maj h with h | h
   ·exact ⟨(RR.mem_imm h).1,ahL q h,(RR.mem_imm h).2.2⟩
   ·exact ⟨(hid' q (mar _ (mar _ (.tail _ h)))).1,(R.nw q (mar _ (mar _ (mar _ h)))).2⟩
  mu:=R.mu.mono hs
  kd:=R.kd
  nd:=R.nd
  ap:=fun q hq h=>by
   rcases maj hq with hq | hq
   ·refine RR.ah q hq ?_
    show q.1∈(os++(kc++((C.env.locals,oL)::(fs++C.hid)))).map (·.1)
    rw [← laa,lma]
    exact mal _ h
   ·exact R.ap q (mar _ hq) h
  ah:=fun q hq h=>RR.ah q hq (by
   rw [lna,lma,lma,lmc]
   exact mar _ (mar _ (.tail _ h)))
  hn:=R.hn
  ou:=R.ou
  nm:=R.nm
  kn:=R.kn
  va:=fun p hp d e=>(R.va p hp d e).mono hs
  cc:=R.cc
  gn:=RR.gn
  so:=RR.so }
 refine B.hide' ho (Ne.symm hne) ?_ (fun h=>?_) (fun h=>?_) (fun h=>?_)
 ·cases hq:C.base.get? env'.locals with
  | none=>rfl
  | some o=>exact absurd (Heap.lt_size hq) (Nat.not_lt.mpr RR.fr.above)
 ·refine bg fun V kG=>?_
  obtain ⟨q,hq,e⟩:=mmj h
  refine kG ?_
  clear kG
  exact (hid' q (by rw [← laa];exact mal _ hq)).2 e
 ·refine bg fun V kG=>?_
  obtain ⟨q,hq,e⟩:=mmj h
  refine kG ?_
  clear kG
  exact (RR.mem_imm hq).2.1 e
 ·refine bg fun V kG=>?_
  obtain ⟨q,hq,e⟩:=mmj h
  refine kG ?_
  clear kG
  exact (hid' q (mar _ (mar _ (.tail _ hq)))).2 e
end
section
variable {C:Cx}{σ:AS}{n:Nat}{imm:List Cell}{s:Shared}
inductive CInv (CN:Cx) (I L:Addr) (St:Nat→Heap→Prop) (items:List D) (f:D→Option D) (sl:List Slot) (i1:List Cell) (k:Nat) (s':Shared):Prop
 | mk (i:Nat) (o':Obj) (imm':List Cell) (vs:List Value) (nn:Nat):i≤items.length→k=items.length - i→i1⊆imm'→Rel ((CN.hide (I,o')).hide (L,lstO vs nn)) ⟨sl,[]⟩ imm' s'→St i s'.heap→DAll imm' vs ((items.take i).filterMap f)→CInv CN I L St items f sl i1 k s'
theorem comp_go {elt target iter:Expr}{ifs:List Expr}{scope:Scope}{pos p:Pos}{items:List D} (O:Ok C n) (src:Src C σ iter items) (hifs:ifs=[]∨∃ c,ifs=[c])
 (nd:(scope.names.map (·.1)).Nodup) (hcap:qc9 σ.ρ scope.names=true) (hkind:scope.kind=.function) (hz:items.length≤1000000) (f:D→Option D)
 (turn:∀ (CC:Cx) (i:Nat) (d:D),Ok CC n→CC.w.params=C.w.params→items[i]?=some d→∃ ρ2,Asg CC target d (qao σ.ρ scope.names) ρ2∧Wk ρ2 (qao σ.ρ scope.names)∧Item CC ⟨ρ2,[]⟩ elt ifs (f d))
 (R:Rel C σ imm s) {use:Option (Value→Sem Unit)}{Q E:Value→Shared→Prop}
 (fin:∀ acc L oC mC imm' s',imm⊆imm'→Rel (C.hide (L,oC)) σ imm' s'→(∀ h:Heap,h.get? L=some oC→h.Ns L mC)→DIn imm' acc (.lst (items.filterMap f))→∀ fl,compPost C.M C.A E use Q acc L (.ok fl) s') :
 wpAny C.M C.A (comprehension (.ListComp elt [⟨target,iter,ifs,0⟩] scope pos) scope C.env p (newList []) false (eval iter C.env) use) Q E s:=by
 have hclos:closureFor scope C.env=pure (clOf scope C.env):=Rel.elim R fun m os kc fs RX=>qfo (cap_all RX hcap)
 refine wpAny_comprehension_free (gs:=[]) rfl src.hs hclos hkind (fun x hx hl=>by have:=qa5 nd hx;rw [← hl];exact this) ?_
 refine src.go imm s R _ _ fun I o fp P St i1 s1 hs1 R1 S st=>?_
 refine wpAny_newObj_type ?_
 have R2:Rel ((C.hide (I,o)).hide (s1.heap.objs.size,lstO [] 0)) σ i1 ⟨s1.heap.push (lstO [] 0),s1.gens,s1.drawn,s1.toks,s1.os⟩:=R1.hideNew (lstO [] 0) (d:=s1.drawn) (tk:=s1.toks)
 have st2:St 0 (s1.heap.push (lstO [] 0)):=(S.W C.A O.hn).frame 0 _ _ st fun b hb ob e=>Heap.get?_push_of_some _ e
 change wpAny _ _ _ _ _ (⟨s1.heap.push (lstO [] 0),s1.gens,s1.drawn,s1.toks,s1.os⟩:Shared)
 obtain ⟨s2,hs2⟩:∃ s2:Shared,s2=⟨s1.heap.push (lstO [] 0),s1.gens,s1.drawn,s1.toks,s1.os⟩:=⟨_,rfl⟩
 have st2:St 0 s2.heap:=by rw [hs2];exact st2
 rw [← hs2] at R2 ⊢
 refine wpAny_newFunctionEnv (fun y hy=>qc9.cell hcap hy) (by intro y hy;simp at hy) (fun h₁ hns₁ hsb₁=>?_) hkind
 refine Rel.elim R2 fun m os kc fs RX=>?_
 have hk:∀ b o,s2.heap.get? b=some o→h₁.get? b=some o:=fun b o e=>hsb₁.extBut b o (Nat.ne_of_lt (Heap.lt_size e)) (Heap.get?_push_of_some _ e)
 have hns':h₁.Ns s2.heap.objs.size (fun V=>none):=hns₁
 obtain ⟨oL,hid,H,hne,hN,hh,ON,_,RN⟩:=nest_in (h':=h₁) (d:=s2.drawn) (tk:=s2.toks+([]:List (Str×Value)).length) (oL':=default) ((O.hide _).hide _) RX nd hcap hkind (Heap.get?_none_of_le (Nat.le_refl _)) hk
  (Nat.le_of_lt (Nat.lt_of_le_of_lt RX.fr.above (by obtain ⟨o,_,_,h,_⟩:=RX.fr.ns;exact Heap.lt_size h))) hns'
 let CN:Cx:=C.nested (compEnvC scope (clOf scope C.env) s2.heap.objs.size C.env) (os++(kc++((C.env.locals,oL)::(fs++C.hid)))) (kc++C.cap) (fun p hp=>by
  rcases maj hp with h | h
  ·exact mar _ (mal _ h)
  ·exact mar _ (mar _ (.tail _ (mar _ (C.capH p h)))))
 have OC:Ok CN n:={ ON with }
 have perm:hid.Perm ((s1.heap.objs.size,lstO [] 0)::(I,o)::(os++(kc++((C.env.locals,oL)::(fs++C.hid))))):=by
  rw [hh]
  have e1:(os++(kc++((C.env.locals,oL)::(fs++((s1.heap.objs.size,lstO [] 0)::(I,o)::C.hid)))))=(os++kc++(C.env.locals,oL)::fs)++((s1.heap.objs.size,lstO [] 0)::(I,o)::C.hid):=by simp
  have e2:(s1.heap.objs.size,lstO [] 0)::(I,o)::(os++(kc++((C.env.locals,oL)::(fs++C.hid))))=(s1.heap.objs.size,lstO [] 0)::(I,o)::((os++kc++(C.env.locals,oL)::fs)++C.hid):=by simp
  show (os++(kc++((C.env.locals,oL)::(fs++((s1.heap.objs.size,lstO [] 0)::(I,o)::C.hid))))).Perm _
  rw [e1,e2]
  exact (List.perm_middle).trans ((List.perm_middle).cons _)
 have R3:Rel ((CN.hide (I,o)).hide (s1.heap.objs.size,lstO [] 0)) ⟨qao σ.ρ scope.names,[]⟩ i1 ⟨h₁,s2.gens,s2.drawn,s2.toks+([]:List (Str×Value)).length,s2.os⟩:=RN.hid_perm perm
 have st3:St 0 h₁:=(S.W C.A O.hn).frame 0 _ _ st2 fun b hb ob e=>hk b ob e
 have loop:∀ s3:Shared,s3=⟨h₁,s2.gens,s2.drawn,s2.toks+([]:List (Str×Value)).length,s2.os⟩ →
  codeAny C.M C.A (.compLoop (.ListComp elt [⟨target,iter,ifs,0⟩] scope pos) 0 (.ref I) (.ref s1.heap.objs.size) (compEnvC scope (clOf scope C.env) s2.heap.objs.size C.env)) (compPost C.M C.A E use Q (.ref s1.heap.objs.size) s2.heap.objs.size) s3:=by
  rintro s3 rfl
  refine codeAny_comp hifs (CInv CN I s1.heap.objs.size St items f (qao σ.ρ scope.names) i1) ?_ items.length
   ⟨0,o,i1,[],0,Nat.zero_le _,rfl,qa2,R3,st3,.nil⟩
  rintro k s' ⟨i,o',imm',vs,nn,hi,rfl,hs',R',st',hvs⟩
  by_cases hlt:i<items.length
  ·refine (S.W C.A O.hn).item i s' _ _ hlt st' fun v h' tk hP st'' hkk=>?_
   obtain ⟨d,hd,hv⟩:=S.item i v imm' hs' hP hlt
   obtain ⟨ob,T,hob,hoc,hT⟩:=S.obj _ _ st''
   have R4:Rel ((CN.hide (I,ob)).hide (s1.heap.objs.size,lstO vs nn)) ⟨qao σ.ρ scope.names,[]⟩ imm' { s' with heap:=h',toks:=tk }:=R'.rehide2 (fun b x hb e=>hkk b x (by simpa using hb) e) hob
   refine qeo (by exact hob) hoc hT ?_
   obtain ⟨ρ2,ha,hw,hI⟩:=turn ((CN.hide (I,ob)).hide (s1.heap.objs.size,lstO vs nn)) i d ((OC.hide _).hide _) rfl hd
   refine ha.go [] imm' _ v R4 hv _ _ fun s5 R5=>?_
   have after:∀ imm6 s6,imm'⊆imm6→Rel ((CN.hide (I,ob)).hide (s1.heap.objs.size,lstO vs nn)) ⟨ρ2,[]⟩ imm6 s6→St (i+1) s6.heap:=fun imm6 s6 h6 R6=>by
    have A1:=R4.unhide.1
    have A2:=R6.unhide.1
    exact Source.turn (C:=CN) ⟨S.W,S.fpk,S.obj,S.item⟩ hs' (qa0 hs' h6) st'' O.hn A1 A2
   have tk1:items.take (i+1)=items.take i++[d]:=by rw [List.take_add_one,hd];rfl
   have onElt:∀ x imm6 s6 d',imm'⊆imm6→Rel ((CN.hide (I,ob)).hide (s1.heap.objs.size,lstO vs nn)) ⟨ρ2,[]⟩ imm6 s6→DIn imm6 x d'→f d=some d' →
    wpAny C.M C.A (call (.builtin "list.append") [.ref s1.heap.objs.size,x]) (fun V s₄=>∃ m,m<items.length - i∧CInv CN I s1.heap.objs.size St items f (qao σ.ρ scope.names) i1 m s₄) (fun V V=>False) s6:=by
    intro x imm6 s6 d' h6 R6 hx hf
    have hst6:=after imm6 s6 h6 R6
    have hlen:vs.length≤1000000:=by
     rw [hvs.length]
     exact Nat.le_trans (List.length_filterMap_le _ _) (by rw [List.length_take];lia)
    have hpl:s6.heap.PlainList s1.heap.objs.size vs.toArray:=⟨nn,R6.unhide.2⟩
    refine wpAny_list_append_plain hpl (fun h7 hl7 hs7=>?_) (by rw [List.size_toArray];unfold sizeLine;lia)
    obtain ⟨n7,hl7⟩:=hl7
    have e7:(vs.toArray.push x)=(vs++[x]).toArray:=by simp
    rw [e7] at hl7
    have R7:Rel ((CN.hide (I,ob)).hide (s1.heap.objs.size,lstO (vs++[x]) n7)) ⟨ρ2,[]⟩ imm6 { s6 with heap:=h7 }:=R6.rehide (fun b x hb e=>(hs7.2 b hb).trans e) hl7
    refine ⟨items.length - (i+1),qg0 hlt,i+1,ob,imm6,vs++[x],n7,hlt,rfl,qa0 hs' h6,R7.weak hw,?_,?_⟩
    ·refine (S.W C.A O.hn).frame (i+1) _ _ hst6 fun b hb ob' e=>?_
     by_cases hba:b=s1.heap.objs.size
     ·-- the list is none of the source's objects
      exfalso
      subst hba
      by_cases hbI:s1.heap.objs.size=I
      ·obtain ⟨ma,oa,ka,fa,RX6⟩:=R6
       have:=RX6.hn
       rw [lma,List.nodup_append,lmc,List.nodup_cons] at this
       exact this.2.1.1 (by show s1.heap.objs.size∈_;rw [lmc];exact hbI ▸ .head _)
      ·obtain ⟨o9,ho9⟩:=S.fpk _ hb hbI
       obtain ⟨ma,oa,ka,fa,RX6⟩:=R6
       rcases ho9 with ho9 | ho9
       ·exact RX6.ah _ (h6 (hs' ho9)) (by rw [lma];exact mar _ (.head _))
       ·have z:=(RX6.mem_hid (.head _)).2.2
        have z:C.base.get? s1.heap.objs.size=none:=z
        rw [z] at ho9;cases ho9
     ·exact (hs7.2 b hba).trans e
    ·have e8:(items.take (i+1)).filterMap f=(items.take i).filterMap f++[d']:=by rw [tk1,List.filterMap_append];simp [hf]
     rw [e8]
     exact (hvs.mono h6).append (.cons hx .nil)
   refine ⟨fun h0=>?_,fun c hc=>?_⟩
   ·subst h0
    generalize hfd:f d=od at hI
    cases hI with
    | plain hX=>exact hX.go imm' s5 R5 _ _ fun x imm6 s6 h6 R6 hx=>onElt x imm6 s6 _ h6 R6 hx hfd
   ·subst hc
    generalize hfd:f d=od at hI
    cases hI with
    | @test _ b d' hT hX =>
     refine hT.go imm' s5 R5 _ _ fun imm6 s6 h6 R6=>?_
     cases b with
     | true =>
      rw [if_pos rfl]
      exact (hX rfl).go imm6 s6 R6 _ _ fun x imm7 s7 h7 R7 hx=>onElt x imm7 s7 _ (qa0 h6 h7) R7 hx hfd
     | false =>
      rw [if_neg bft]
      refine ⟨items.length - (i+1),qg0 hlt,i+1,ob,imm6,vs,nn,hlt,rfl,qa0 hs' h6,R6.weak hw,after imm6 s6 h6 R6,?_⟩
      have e8:(items.take (i+1)).filterMap f=(items.take i).filterMap f:=by rw [tk1,List.filterMap_append];simp [hfd]
      rw [e8]
      exact hvs.mono h6
  ·have hi':i=items.length:=by lia
   subst hi'
   refine (S.W C.A O.hn).done s' _ _ st' fun h' tk hkk=>?_
   have R4:Rel (CN.hide (s1.heap.objs.size,lstO vs nn)) ⟨qao σ.ρ scope.names,[]⟩ imm' { s' with heap:=h',toks:=tk }:=R'.swap.unhide' fun b x hb e=>hkk b x (by simpa using hb) e
   obtain ⟨R5,hacc⟩:=R4.unhide
   have hacc':(s1.heap.objs.size≠C.env.locals∧C.base.get? s1.heap.objs.size=none∧s1.heap.objs.size ∉ (os++kc).map (·.1)∧s1.heap.objs.size ∉ (fs++C.hid).map (·.1))∧s1.heap.objs.size ∉ imm'.map (·.1)∧s1.heap.objs.size≠s2.heap.objs.size:=by
    obtain ⟨m4,os4,kc4,fs4,RX4⟩:=R4
    have M4:=RX4.mem_hid (p:=(s1.heap.objs.size,lstO vs nn)) (.head _)
    have hf4:fs4=[]:=by have:=RX4.ou;cases this;rfl
    subst hf4
    have N4:=RX4.hn
    rw [lna,lmc,List.nodup_cons] at N4
    have nin:∀ q∈os++(kc++((C.env.locals,oL)::(fs++C.hid))),q.1≠s1.heap.objs.size:=fun q hq e=>N4.1 (List.mem_map.mpr ⟨q,hq,e⟩)
    refine ⟨⟨fun e=>nin _ (mar _ (mar _ (.head _))) e.symm,M4.2.2,fun h=>?_,fun h=>?_⟩,fun h=>?_,M4.2.1⟩
    ·obtain ⟨q,hq,e⟩:=mmj h
     exact nin q (by rw [← laa];exact mal _ hq) e
    ·obtain ⟨q,hq,e⟩:=mmj h
     exact nin q (mar _ (mar _ (.tail _ hq))) e
    ·obtain ⟨q,hq,e⟩:=mmj h
     exact RX4.ah q hq (by rw [e];exact .head _)
   have RC:RelX C σ i1 s2 m os kc fs:=RX.unhide.1.unhide.1
   obtain ⟨oC,mC,hNC,RO⟩:=nest_out (C:=C) RC hne hN rfl hs' R5
   have RO2:=RO.learn (new:=[(s1.heap.objs.size,lstO vs nn)]) fun p hp=>by
    rw [msj hp]
    refine ⟨hacc,hacc'.1.1,hacc'.1.2.1,hacc'.1.2.2.1,fun h=>?_⟩
    rw [lma,lmc] at h
    rcases maj h with h | h
    ·exact hacc'.1.2.2.2 (by rw [lma];exact mal _ h)
    ·rcases mcj h with h | h
     ·exact hacc'.2.2 h
     ·exact hacc'.1.2.2.2 (by rw [lma];exact mar _ h)
   exact fin _ _ oC mC _ _ (fun V hx=>.tail _ (hs' (hs1 hx))) ⟨m,os,kc,fs,RO2⟩ hNC (.lst (.head _) rfl rfl (by rw [List.take_length] at hvs;exact hvs.mono (List.subset_cons_self _ _))) .next
 refine codeAny_compStart_list (loop _ ?_) ((S.W C.A O.hn).self 0 _ _ _ st3 (loop _ ?_))
 all_goals rfl
theorem X_comp {elt target iter:Expr}{ifs:List Expr}{scope:Scope}{pos:Pos}{items:List D}{ds:List D} (O:Ok C n) (src:Src C σ iter items) (hifs:ifs=[]∨∃ c,ifs=[c])
 (nd:(scope.names.map (·.1)).Nodup) (hcap:qc9 σ.ρ scope.names=true) (hkind:scope.kind=.function) (hz:items.length≤1000000) (f:D→Option D)
 (turn:∀ (CC:Cx) (i:Nat) (d:D),Ok CC n→CC.w.params=C.w.params→items[i]?=some d→∃ ρ2,Asg CC target d (qao σ.ρ scope.names) ρ2∧Wk ρ2 (qao σ.ρ scope.names)∧Item CC ⟨ρ2,[]⟩ elt ifs (f d))
 (hd:items.filterMap f=ds) :
 X C σ (.ListComp elt [⟨target,iter,ifs,0⟩] scope pos) (.lst ds):=.mk fun imm s R Q E q=>by
 rw [eval_ListComp]
 refine comp_go O src hifs nd hcap hkind hz f turn R fun acc L oC mC imm' s' hs R' hN hv fl=>?_
 refine ⟨mC,hN _ R'.unhide.2,fun h' hsb=>q acc imm' _ hs ?_ (hd ▸ hv)⟩
 exact R'.unhide' (d:=s'.drawn) (tk:=s'.toks) fun b ob hb e=>(hsb.2 b hb).trans e
theorem S_assignComp {x:Str}{p spos:Pos}{ρ':List Slot}{K:Fl→AS→Prop}{E:Value→Shared→Prop}{rest:List Stmt}{elt target iter:Expr}{ifs:List Expr}{scope:Scope}{pos:Pos}{items:List D}{ds:List D} (O:Ok C n) (src:Src C σ iter items) (hifs:ifs=[]∨∃ c,ifs=[c])
 (nd:(scope.names.map (·.1)).Nodup) (hcap:qc9 σ.ρ scope.names=true) (hkind:scope.kind=.function) (hz:items.length≤1000000) (f:D→Option D)
 (turn:∀ (CC:Cx) (i:Nat) (d:D),Ok CC n→CC.w.params=C.w.params→items[i]?=some d→∃ ρ2,Asg CC target d (qao σ.ρ scope.names) ρ2∧Wk ρ2 (qao σ.ρ scope.names)∧Item CC ⟨ρ2,[]⟩ elt ifs (f d))
 (hd:items.filterMap f=ds) (hP:Put x .local (.lst ds) σ.ρ ρ') (hsw:swapsWith (.ListComp elt [⟨target,iter,ifs,0⟩] scope pos) (some (.Name x p)) spos.line C.env=pure true)
 (k:SL C ⟨ρ',σ.ms⟩ rest K E):SL C σ (.Assign [.Name x p] (.ListComp elt [⟨target,iter,ifs,0⟩] scope pos) spos::rest) K E :=
 qft (fun imm s R Q q=>by
  rw [exec_Assign_Name_used _ _ _ _ hsw]
  refine wpAny_bind (wpAny_standAt (wpAny_bind ?_))
  show wpAny _ _ (do let _ ← comprehension _ _ _ _ _ _ _ _;_) _ _ _
  refine wpAny_bind (comp_go O src hifs nd hcap hkind hz f turn R fun acc L oC mC imm' s' hs R' hN hv fl=>?_)
  refine wpAny_assign_Name (M:=(C.hide (L,oC)).M) (env:=(C.hide (L,oC)).env) (qbf (C:=C.hide (L,oC)) (O.hide (L,oC)) hP R' (hd ▸ hv) fun s'' R''=>?_)
  exact ⟨mC,hN _ R''.unhide.2,fun h' hsb=>wpAny_pure (wpAny_pure (q imm' _ hs (R''.unhide' (d:=s''.drawn) (tk:=s''.toks) fun b ob hb e=>(hsb.2 b hb).trans e)))⟩) k
end
mutual
inductive Eqv:Nat→D→D→Bool→Prop
 | int {k} (a b:Int):Eqv k (.int a) (.int b) (a == b)
 | bool {k} (a b:Bool):Eqv k (.bool a) (.bool b) (a == b)
 | str {k} (a b:Str):Eqv k (.str a) (.str b) (a == b)
 | bytes {k} (a b:List Int):Eqv k (.bytes a) (.bytes b) (a == b)
 | lst {k ds es b}:qc2 k ds es b→Eqv (k+1) (.lst ds) (.lst es) b
inductive qc2:Nat→List D→List D→Bool→Prop
 | nil {k}:qc2 k [] [] true
 | cons {k d ds e es b bs}:Eqv k d e b→qc2 k ds es bs→qc2 k (d::ds) (e::es) (b && bs)
 | long {k d ds}:qc2 k (d::ds) [] false
 | short {k e es}:qc2 k [] (e::es) false
end
theorem qc2.pts {k ds es b} (h:qc2 k ds es b):∃ f:Nat→Bool,(∀ (j:Nat) d e,ds[j]?=some d→es[j]?=some e→Eqv k d e (f j))∧(ds.length=es.length→(List.range ds.length).all f=b)∧(ds.length≠es.length→b=false):=by
 induction ds generalizing es b with
 | nil=>cases h with
  | nil=>exact ⟨fun V=>true,fun j d e h=>by simp at h,fun V=>rfl,fun h=>absurd rfl h⟩
  | short=>exact ⟨fun V=>true,fun j d e h=>by simp at h,fun h=>by simp at h,fun V=>rfl⟩
 | cons d ds ih=>cases h with
  | long=>exact ⟨fun V=>true,fun j d e V h=>by simp at h,fun h=>by simp at h,fun V=>rfl⟩
  | @cons _ _ _ e es b bs h1 h2 =>
   obtain ⟨f,f1,f2,f3⟩:=ih h2
   refine ⟨fun j=>match j with | 0=>b | j+1=>f j,fun j d' e' hd he=>?_,fun hl=>?_,fun hl=>?_⟩
   ·cases j with
    | zero=>simp at hd he;subst hd he;exact h1
    | succ j=>simp at hd he;exact f1 j d' e' hd he
   ·have hl':ds.length=es.length:=by simpa using hl
    rw [List.length_cons,List.range_succ_eq_map,List.all_cons,List.all_map,← f2 hl']
    rfl
   ·rw [f3 (fun e=>hl (by simp [e]))];simp
theorem DIn.i2 {imm:List Cell}{v:Value}{a b:Int} (h1:DIn imm v (.int a)) (h2:DIn imm v (.int b)):(a == b)=true:=by cases h1;cases h2;exact beq_self_eq_true _
theorem DIn.o2 {imm:List Cell}{v:Value}{a b:Bool} (h1:DIn imm v (.bool a)) (h2:DIn imm v (.bool b)):(a == b)=true:=by cases h1;cases h2;exact beq_self_eq_true _
theorem DIn.s2 {imm:List Cell}{v:Value}{a b:Str} (h1:DIn imm v (.str a)) (h2:DIn imm v (.str b)):(a == b)=true:=by cases h1;cases h2;exact beq_self_eq_true _
theorem DIn.y2 {imm:List Cell}{v:Value}{a b:List Int} (h1:DIn imm v (.bytes a)) (h2:DIn imm v (.bytes b)):(a == b)=true:=by
 cases h1 with | bytes e1=>cases h2 with | bytes e2=>rw [← e1,← e2];exact beq_self_eq_true _
theorem Eqv.same {imm:List Cell}{s:Shared} (hi:∀ p∈imm,s.heap.get? p.1=some p.2):∀ k d1 d2 b v,Eqv k d1 d2 b→DIn imm v d1→DIn imm v d2→b=true:=by
 intro k
 induction k with
 | zero =>
  intro d1 d2 b v h h1 h2
  cases h with
  | int=>exact h1.i2 h2
  | bool=>exact h1.o2 h2
  | str=>exact h1.s2 h2
  | bytes=>exact h1.y2 h2
 | succ k ih =>
  intro d1 d2 b v h h1 h2
  cases h with
  | int=>exact h1.i2 h2
  | bool=>exact h1.o2 h2
  | str=>exact h1.s2 h2
  | bytes=>exact h1.y2 h2
  | @lst _ ds es _ h =>
   have key:∀ (vs:List Value) (ds es:List D) (b:Bool),qc2 k ds es b→DAll imm vs ds→DAll imm vs es→b=true:=by
    intro vs
    induction vs with
    | nil=>intro ds es b h a1 a2;cases a1;cases a2;cases h;rfl
    | cons v vs ihv =>
     intro ds es b h a1 a2
     cases a1 with | cons p1 p2=>cases a2 with | cons q1 q2=>cases h with | cons e1 e2 =>
      rw [ih _ _ _ _ e1 p1 q1,ihv _ _ _ e2 p2 q2]
      rfl
   cases h1 with | @lst a o vs n _ m1 c1 x1 a1=>cases h2 with | @lst _ o' vs' n' _ m2 c2 x2 a2 =>
    have eo:o=o':=by
     have:=hi _ m1
     rw [hi _ m2] at this
     exact (Option.some.inj this).symm
    subst eo
    rw [x1] at x2
    have ev:vs=vs':=by injection x2 with e;simpa using e
    subst ev
    exact key _ _ _ _ h a1 a2
theorem Eqv.at {imm:List Cell}{s:Shared} (hi:∀ p∈imm,s.heap.get? p.1=some p.2):∀ k d1 d2 b v1 v2 (A:Around),Eqv k d1 d2 b→DIn imm v1 d1→DIn imm v2 d2→A.units+k<cLine→SeqAt.EqAt A s v1 v2 b:=by
 have base:∀ (b c:List Int) (v1 v2:Value) (A:Around),DIn imm v1 (.bytes b)→DIn imm v2 (.bytes c)→SeqAt.EqAt A s v1 v2 (b == c):=by
  intro b c v1 v2 A h1 h2
  refine DIn.eB h1 fun x t e1=>DIn.eB h2 fun y u e2=>?_
  intro prog w E Q h
  refine eqBool_bytes ?_
  have:(b == c)=decide (x.toList=y.toList):=by
   rw [← e1,← e2,Bool.eq_iff_iff]
   simp only [beq_iff_eq,decide_eq_true_eq]
   exact ⟨fun h=>by rw [bI_inj h],fun h=>by rw [Array.toList_inj.mp h]⟩
  rw [← this];exact h
 intro k
 induction k with
 | zero =>
  intro d1 d2 b v1 v2 A h h1 h2 hu
  cases h with
  | int=>exact DIn.eI h1 fun V=>DIn.eI h2 fun V=>SeqAt.EqAt.int_int _ _ _ _
  | bool=>exact DIn.eO h1 (DIn.eO h2 (SeqAt.EqAt.bool_bool _ _))
  | str=>exact DIn.eS h1 fun V=>DIn.eS h2 fun V=>SeqAt.EqAt.str_str _ _ _ _
  | bytes=>exact base _ _ _ _ _ h1 h2
 | succ k ih =>
  intro d1 d2 b v1 v2 A h h1 h2 hu
  have h0:=h
  cases h with
  | int=>exact DIn.eI h1 fun V=>DIn.eI h2 fun V=>SeqAt.EqAt.int_int _ _ _ _
  | bool=>exact DIn.eO h1 (DIn.eO h2 (SeqAt.EqAt.bool_bool _ _))
  | str=>exact DIn.eS h1 fun V=>DIn.eS h2 fun V=>SeqAt.EqAt.str_str _ _ _ _
  | bytes=>exact base _ _ _ _ _ h1 h2
  | @lst _ ds es _ h =>
   refine DIn.eL h1 fun a o vs n m1 c1 x1 a1=>DIn.eL h2 fun a' o' vs' n' m2 c2 x2 a2=>?_
   by_cases e:a=a'
   ·subst e
    rw [Eqv.same hi _ _ _ _ _ h0 (.lst m1 c1 x1 a1) (.lst m2 c2 x2 a2)]
    exact SeqAt.EqAt.same _
   ·refine SeqAt.EqAt.of_refs e ?_
    have l1:s.heap.IsList a vs.toArray:=⟨_,hi _ m1,c1,_,x1⟩
    have l2:s.heap.IsList a' vs'.toArray:=⟨_,hi _ m2,c2,_,x2⟩
    obtain ⟨f,f1,f2,f3⟩:=h.pts
    by_cases hl:ds.length=es.length
    ·have hs:vs.toArray.size=vs'.toArray.size:=by simp [a1.length,a2.length,hl]
     rw [← f2 hl,← a1.length,← List.size_toArray]
     refine SeqAt.RcAt.lists l1 l2 hs (by lia) fun j j1 j2=>?_
     obtain ⟨d,hd,hdv⟩:=a1.getV (k:=j) (v:=vs.toArray[j]) (by simp at j1;simp [j1])
     obtain ⟨e',he,hev⟩:=a2.getV (k:=j) (v:=vs'.toArray[j]) (by simp at j2;simp [j2])
     exact ih _ _ _ _ _ _ (f1 j d e' hd he) hdv hev (by show A.units+1+k<cLine;lia)
    ·rw [f3 hl]
     exact SeqAt.RcAt.lists_lengths l1 l2 (by simpa [a1.length,a2.length] using hl) (by lia)
theorem ne_lists {imm:List Cell}{s:Shared} (hi:∀ p∈imm,s.heap.get? p.1=some p.2) {k ds es b} (h:qc2 k ds es b) {l1 l2:Addr}{vs ws:List Value} (h1:s.heap.IsList l1 vs.toArray) (h2:s.heap.IsList l2 ws.toArray) (a1:DAll imm vs ds) (a2:DAll imm ws es)
 {prog:Program}{w:World}{A:Around}{Q:Value→Shared→Prop}{E:Value→Shared→Prop} (hu:A.units+k+1<cLine) (q:Q (.bool (!b)) s):wpAny (model prog w) A (compareOp .NotEq (.ref l1) (.ref l2)) Q E s:=by
 obtain ⟨f,f1,f2,f3⟩:=h.pts
 by_cases hl:ds.length=es.length
 ·have hs:vs.toArray.size=ws.toArray.size:=by simp [a1.length,a2.length,hl]
  refine SeqAt.RcNeAt.lists (e:=f) h1 h2 hs (by lia) (fun j j1 j2=>?_) prog w E Q ?_
  ·obtain ⟨d,hd,hdv⟩:=a1.getV (k:=j) (v:=vs.toArray[j]) (by simp at j1;simp [j1])
   obtain ⟨e',he,hev⟩:=a2.getV (k:=j) (v:=ws.toArray[j]) (by simp at j2;simp [j2])
   exact Eqv.at hi _ _ _ _ _ _ _ (f1 j d e' hd he) hdv hev (by show A.units+1+k<cLine;lia)
  ·rw [List.size_toArray,a1.length,f2 hl];exact q
 ·rw [f3 hl] at q
  exact SeqAt.RcNeAt.lists_lengths h1 h2 (by simpa [a1.length,a2.length] using hl) (by lia) prog w E Q q
section
variable {C:Cx}{σ:AS}{n:Nat}{imm:List Cell}{s:Shared}
theorem Rel.immAt (R:Rel C σ imm s):∀ p∈imm,s.heap.get? p.1=some p.2:=fun p hp=>R.at_imm (a:=p.1) (o:=p.2) hp
inductive Own (h:Heap) (imm:List Cell) (a:Addr) (ds:List D):Prop
 | mk (vs:List Value):PlainL h a vs.toArray→DAll imm vs ds→Own h imm a ds
theorem Rel.own {a:Addr}{ds:List D} (R:Rel C σ imm s) (hm:(a,AO.lst ds)∈σ.ms):Own s.heap imm a ds:=by
 obtain ⟨o,ho,hx⟩:=R.at_ms hm
 cases hx with
 | lst h1 h2 h3 h4=>exact ⟨_,⟨o,_,ho,h1,h2,h3⟩,h4⟩
theorem Cmp_neO {k a ds es b} (O:Ok C n) (hm:(a,AO.lst ds)∈σ.ms) (h:qc2 k ds es b) (hk:k≤5):Cmp C σ .NotEq (.val (.ref a)) (.lst es) (!b):=.mk fun imm v1 v2 h1 h2 s R Q E q=>by
 refine DIn.eV h1 (DIn.eL h2 fun V V V V m2 c2 x2 a2=>?_)
 obtain ⟨vs,hp,ha⟩:=R.own hm
 exact ne_lists R.immAt h hp.isList ⟨_,R.at_imm m2,c2,_,x2⟩ ha a2 (by have:=O.un;lia) (q _ _ qa2 R)
theorem Cmp_inI {x:Int}{ns:List Int}:Cmp C σ .In (.int x) (.tup (ns.map D.int)) (ns.any (· == x)):=.mk fun imm v1 v2 h1 h2 s R Q E q=>by
 refine DIn.eI h1 fun V=>DIn.eT h2 fun V V V V m2 c2 x2 a2=>?_
 exact in_tuple_ints ⟨_,R.at_imm m2,c2,_,x2⟩ (dInts a2) (q _ _ qa2 R)
theorem RelX.gain {m os kc fs} (R:RelX C σ imm s m os kc fs) {h':Heap}{a:Addr}{o:Obj} (F:Fr C.base C.env.locals h' m) (N:News C.base C.env.locals h' ((a,o)::(os++(kc++(imm++(fs++C.hid))))))
 (hlt:∀ p∈os++(kc++(imm++(fs++C.hid))),p.1<a) {d:Drawn}{tk:Nat}:Rel C σ ((a,o)::imm) ⟨h',s.gens,d,tk,s.os⟩:=by
 have ne:∀ l:List Cell,l⊆os++(kc++(imm++(fs++C.hid)))→a ∉ l.map (·.1):=fun l hl h=>by
  obtain ⟨q,hq,e⟩:=mmj h
  exact Nat.lt_irrefl _ (e ▸ hlt q (hl hq))
 have hnew:=N _ (.head _)
 refine ⟨m,os,kc,fs,(R.ofFN F (fun p hp=>N p (.tail _ hp)) (d:=d) (tk:=tk)).learn (new:=[(a,o)]) fun p hp=>?_⟩
 rw [msj hp]
 refine ⟨hnew.1,hnew.2.1,hnew.2.2,ne _ fun q hq=>?_,ne _ fun q hq=>?_⟩
 ·rw [← laa];exact mal _ hq
 ·exact mar _ (mar _ (mar _ hq))
theorem qdb {ds es:List D} (hz:ds.length+es.length≤16777216):Op C .Add (.lst ds) (.lst es) (.lst (ds++es)):=.mk fun σ imm v1 v2 h1 h2 s R Q E q=>by
 refine DIn.eL h1 fun a1 o1 vs n1 m1 c1 x1 a1=>DIn.eL h2 fun a2 o2 ws n2 m2 c2 x2 a2=>?_
 have g1:s.heap.IsList _ vs.toArray:=⟨_,R.at_imm m1,c1,_,x1⟩
 have g2:s.heap.IsList _ ws.toArray:=⟨_,R.at_imm m2,c2,_,x2⟩
 refine Rel.elim R fun m os kc fs RX=>?_
 refine add_lists RX.fr RX.nw g1 g2 (fun h' F N=>?_) (by rw [a1.length,a2.length];unfold sizeLine;lia)
 exact q _ _ _ (fun V h=>.tail _ h) (RX.gain F N (fun p hp=>Heap.lt_size (RX.nw p hp).1)) (.lst (n:=0) (.head _) rfl rfl ((a1.append a2).mono fun V h=>.tail _ h))
theorem X_sliceL {value:Expr}{lo hi:Option Expr}{p pos:Pos}{ds:List D}{l u:Option Int} (h1:X C σ value (.lst ds)) (h2:Pt C σ lo l) (h3:Pt C σ hi u) (hz:ds.length≤16777216) (ht:∀ a r,letTemporaryGo value (.ref a) r=pure ():=by walk_at "j") :
 X C σ (.Subscript value (.Slice lo hi none p) pos) (.lst ((ds.drop (kms_lo l ds.length)).take (kms_hi u ds.length - kms_lo l ds.length))):=.mk fun imm s R Q E q=>by
 with_reducible refine Subscript_ (h1.go imm s R _ _ fun v1 i1 s1 hs1 R1 hv1=>?_)
 with_reducible refine wpAny_Slice (h2.run i1 s1 R1 _ _ fun vl i2 s2 hs2 R2 hl=>h3.run i2 s2 R2 _ _ fun vu i3 s3 hs3 R3 hu=>?_)
 refine wpAny_pure ?_
 refine DIn.eL hv1 fun a1 o1 vs n1 m1 c1 x1 a1=>?_
 have m3:=hs3 (hs2 m1)
 have g1:s3.heap.IsList _ vs.toArray:=⟨_,R3.at_imm m3,c1,_,x1⟩
 refine Rel.elim R3 fun m os kc fs RX=>?_
 refine kms_slice_lit RX.fr RX.nw g1 hl hu rfl (fun D' h' F N hlt=>?_) rfl (fun r=>ht _ r) (by rw [List.size_toArray,a1.length];unfold sizeLine;lia)
 refine q _ _ _ (fun V h=>.tail _ (hs3 (hs2 (hs1 h)))) (RX.gain F N hlt) (.lst (n:=0) (.head _) rfl rfl ?_)
 unfold kms_pick
 rw [show vs.toArray.toList.length=ds.length from a1.length]
 exact (((a1.mono (qa0 hs2 hs3)).mono fun V h=>.tail _ h).drop _).take _
theorem Op_mulB {ks:List Int}{k:Int} (hb:ks≠[]) (h2:2≤k) (hn:k≤1048576) (hs:ks.length * k.toNat≤16777216):Op C .Mult (.bytes ks) (.int k) (.bytes (List.replicate k.toNat ks).flatten):=.mk fun σ imm v1 v2 h1 h2' s R Q E q=>by
 refine DIn.eI h2' fun V=>DIn.eB h1 fun b t e=>?_
 obtain ⟨b⟩:=b
 have e':b.map (fun c=>(c.toNat:Int))=ks:=e
 refine bytes_mul_K (b:=b) (fun h=>hb (by rw [← e',h];rfl)) h2 hn (by rw [← e',lem] at hs;exact hs) rfl fun t' k'=>q _ _ _ qa2 (R.tok _) (.bytes ?_)
 show ((List.replicate k.toNat b).flatten).map (fun c=>(c.toNat:Int))=_
 rw [List.map_flatten,List.map_replicate,e']
inductive Bs (C:Cx) (σ:AS):BoolOp→List Expr→Bool→Prop
 | one {op e b}:X C σ e (.bool b)→Bs C σ op [e] b
 | and {e e2 es b bs}:X C σ e (.bool b)→(b=true→Bs C σ .And (e2::es) bs)→Bs C σ .And (e::e2::es) (b && bs)
 | or {e e2 es b bs}:X C σ e (.bool b)→(b=false→Bs C σ .Or (e2::es) bs)→Bs C σ .Or (e::e2::es) (b || bs)
theorem Bs.run {op es b} (h:Bs C σ op es b) (pos:Pos):X C σ (.BoolOp op es pos) (.bool b):=by
 induction h with
 | one h=>exact .mk fun imm s R Q E q=>BoolOp_one (h.go imm s R Q E q)
 | @and e e2 es b bs h k ih =>
  refine .mk fun imm s R Q E q=>?_
  with_reducible refine BoolOp_and (h.goB imm s R _ _ fun i1 s1 hs1 R1=>?_)
  refine wpAny_truthy_bool ?_
  cases b with
  | false=>exact q _ i1 s1 hs1 R1 (.bool _)
  | true=>exact (ih rfl).go i1 s1 R1 _ _ fun v i2 s2 hs2 R2 hv=>q v i2 s2 (qa0 hs1 hs2) R2 hv
 | @or e e2 es b bs h k ih =>
  refine .mk fun imm s R Q E q=>?_
  with_reducible refine BoolOp_or (h.goB imm s R _ _ fun i1 s1 hs1 R1=>?_)
  refine wpAny_truthy_bool ?_
  cases b with
  | true=>exact q _ i1 s1 hs1 R1 (.bool _)
  | false=>exact (ih rfl).go i1 s1 R1 _ _ fun v i2 s2 hs2 R2 hv=>q v i2 s2 (qa0 hs1 hs2) R2 hv
theorem T_chain {l r1 r2:Expr}{o1 o2:CmpOp}{pos:Pos}{d1 d2 d3:D}{b1 b2:Bool} (h1:X C σ l d1) (h2:X C σ r1 d2) (c1:Cmp C σ o1 d1 d2 b1) (h3:X C σ r2 d3) (c2:Cmp C σ o2 d2 d3 b2) (hm:lastMarks [o1,o2] [r1,r2]=false:=by rfl) :
 T C σ (.Compare l [o1,o2] [r1,r2] pos) (b1 && b2):=.mk fun imm s R Q E q=>by
 refine isTrue_chain (h1.go imm s R _ _ fun v1 i1 s1 hs1 R1 hv1=>?_) hm
 refine test_link (h2.go i1 s1 R1 _ _ fun v2 i2 s2 hs2 R2 hv2=>c1.go i2 v1 v2 (hv1.mono hs2) hv2 s2 R2 _ _ fun i3 s3 hs3 R3=>wpAny_truthy_bool ?_)
 cases b1 with
 | false=>exact q i3 s3 (qa0 hs1 (qa0 hs2 hs3)) R3
 | true =>
  refine test_last (h3.go i3 s3 R3 _ _ fun v3 i4 s4 hs4 R4 hv3=>c2.go i4 v2 v3 (hv2.mono (qa0 hs3 hs4)) hv3 s4 R4 _ _ fun i5 s5 hs5 R5=>wpAny_truthy_bool ?_)
  exact q i5 s5 (qa0 hs1 (qa0 hs2 (qa0 hs3 (qa0 hs4 hs5)))) R5
theorem S_aug {x:Str}{p pos:Pos}{op:Operator}{e:Expr}{a b c:Int}{ρ':List Slot}{K:Fl→AS→Prop}{E:Value→Shared→Prop}{rest:List Stmt} (O:Ok C n) (h0:Has x .local (some (.int a)) σ.ρ) (h:X C σ e (.int b))
 (ho:∀ t u,∀ s:Shared,∀ (Q E:Value→Shared→Prop),(∀ t' k,Q (.int c t') { s with toks:=k })→wpAny C.M C.A (inplaceOp op (.int a t) (.int b u)) Q E s)
 (hP:Put x .local (.int c) σ.ρ ρ') (k:SL C ⟨ρ',σ.ms⟩ rest K E):SL C σ (.AugAssign (.Name x p) op e pos::rest) K E :=
 qft (fun imm s R Q q=>by
  refine wpAny_AugAssign_Name ?_
  have R':=R
  refine Rel.elim R' fun m os kc fs RX=>?_
  have hk:=RX.kn _ h0.mem
  have hv:=RX.va _ h0.mem _ rfl
  dsimp only at hk hv
  cases hv with
  | loc h1 r =>
   cases r
   refine wpAny_loadName_local O.fk hk RX.fr.ns h1 ?_
   refine h.goI imm s R _ _ fun t i1 s1 hs1 R1=>?_
   exact ho _ _ _ _ _ fun t' k'=>qbf O hP (R1.tok k') (.int _ _) fun s' R2=>q i1 s' hs1 R2) k
theorem S_augAdd {x:Str}{p pos:Pos}{e:Expr}{a b:Int}{ρ':List Slot}{K:Fl→AS→Prop}{E:Value→Shared→Prop}{rest:List Stmt} (O:Ok C n) (h0:Has x .local (some (.int a)) σ.ρ) (h:X C σ e (.int b))
 (hP:Put x .local (.int (a+b)) σ.ρ ρ') (k:SL C ⟨ρ',σ.ms⟩ rest K E):SL C σ (.AugAssign (.Name x p) .Add e pos::rest) K E :=
 S_aug O h0 h (fun t u s Q E q=>iadd_int (q _ _)) hP k
theorem S_assignT {ts:List Expr}{k:Nat}{tp pos:Pos}{e:Expr}{ds:List D}{ρ':List Slot}{K:Fl→AS→Prop}{E:Value→Shared→Prop}{rest:List Stmt} (O:Ok C n) (h:X C σ e (.tup ds)) (hA:Asgs C ts ds σ.ρ ρ') (kk:SL C ⟨ρ',σ.ms⟩ rest K E)
 (hs:swapsWithSole [.Tuple ts k tp] e pos.line C.env=pure false:=by rfl) (hw:swappedStores [.Tuple ts k tp] e C.env=pure none:=by rfl):SL C σ (.Assign [.Tuple ts k tp] e pos::rest) K E :=
 qft (fun imm s R Q q=>Assign_Tuple (h.go imm s R _ _ fun v i1 s1 hs1 R1 hv=>(qdu O hA).go σ.ms i1 s1 v R1 hv _ _ fun s' R'=>q i1 s' hs1 R') hs hw) kk
end
section
variable {C:Cx}{σ:AS}{n:Nat}{imm:List Cell}{s:Shared}
theorem small_range {k:Int} (h0:0≤k) (h1:k≤1000000):Builtin.Range.small 0 k 1=true∧Builtin.Range.rangeSize 0 k 1=k:=by
 have e:Builtin.Range.rangeSize 0 k 1=k:=by
  rw [rangeSize_one];split <;> lia
 refine ⟨?_,e⟩
 unfold Builtin.Range.small
 rw [e]
 unfold Builtin.Range.rangeFitsLong
 simp
 exact ⟨⟨Int.le_trans (by decide) h0,Int.lt_of_le_of_lt h1 (by decide)⟩,.inr ⟨Int.le_trans (by decide) h0,Int.lt_of_le_of_lt h1 (by decide)⟩⟩
theorem qf6 {x:Str}{p pos:Pos}{e:Expr}{k:Int} (hx:X C σ (.Name x p) (.val (.type "range"))) (h:X C σ e (.int k)) (h0:0≤k) (h1:k≤1000000) (hst:Xs C σ [e] [.int k]):Src C σ (.Call (.Name x p) [e] [] pos) ((List.range k.toNat).map fun i:Nat=>D.int (i:Int)) where
 hs:=fun V=>rfl
 go:=fun imm s R Q E q=>by
  have X1:∀ imm s,Rel C σ imm s→∀ (Q E:Value→Shared→Prop),(∀ (r:Addr) t u v imm' s',imm⊆imm'→Rel C σ imm' s'→IsRange s'.heap r 0 k 1 t u v→Q (.ref r) s')→wpAny C.M C.A (eval (.Call (.Name x p) [e] [] pos) C.env) Q E s:=by
   intro imm s R Q E q
   with_reducible refine Call_Name rfl (hx.goV imm s R _ _ fun i1 s1 hs1 R1=>?_)
   with_reducible refine PyProof.Rows.callWith_type (hst.plain pos) ?_
   have key:=hst.run pos i1 s1 R1 (fun vs s2=>wpAny C.M C.A (call (.type "range") vs []) Q E s2) E fun vs i2 s2 hs2 R2 hvs=>by
    refine DAll.one hvs fun V a=>DIn.eI a fun V=>?_
    refine call_range_1 ?_
    exact q s2.heap.objs.size _ _ _ _ _ (fun V z=>.tail _ (hs2 (hs1 z))) (R2.push _) (IsRange.new ..)
   cases hst with
   | cons g1 g2 g3 =>
    rw [g3] at key ⊢
    exact evalArgs_plain key
  refine X1 imm s R _ _ fun r t u v i1 s1 hs1 R1 hr=>?_
  obtain ⟨hsm,hsz⟩:=small_range h0 h1
  refine wpAny_pyIter_range hr hsm ?_
  have hlen:((List.range k.toNat).map fun i:Nat=>D.int (i:Int)).length=k.toNat:=by simp
  refine q s1.heap.objs.size _ [s1.heap.objs.size] (fun i v=>∃ t,v=.int (0+i * 1) t) (fun i h=>IsRangeIter h s1.heap.objs.size (0+(i:Nat) * 1) ((k.toNat:Int) - (i:Nat)) 1) i1 _ hs1 (R1.hideNew _) ⟨?_,?_,?_,?_⟩ ?_
  ·intro A hA;rw [hlen];exact Walks.range hA _ 0 1 k.toNat
  ·intro b hb hne;exact absurd (msj hb) hne
  ·intro i h st;exact ⟨_,_,st,rfl,by decide⟩
  ·intro i v imm' _ ⟨t,hv⟩ hi
   subst hv
   rw [hlen] at hi
   refine ⟨.int i,?_,?_⟩
   ·rw [List.getElem?_map,List.getElem?_range hi];rfl
   ·have:(0+(i:Int) * 1)=(i:Int):=by lia
    rw [this];exact .int _ _
  ·have:(k.toNat:Int) - ((0:Nat):Int)=Builtin.Range.rangeSize 0 k 1:=by rw [hsz];lia
   rw [this]
   exact Heap.get?_push_size _ rfl
theorem X_lenO {x:Str}{p pos:Pos}{e:Expr}{a:Addr}{ds:List D} (hx:X C σ (.Name x p) (.val (.builtin "len"))) (h:Xs C σ [e] [.val (.ref a)]) (hm:(a,AO.lst ds)∈σ.ms) (hz:ds.length≤1099511627776):X C σ (.Call (.Name x p) [e] [] pos) (.int ds.length) :=
 qbt hx h fun imm vs hv s R Q E q=>by
  refine DAll.one hv fun V h1=>DIn.eV h1 ?_
  obtain ⟨vs,hp,ha⟩:=R.own hm
  have hz':=ha.length
  with_reducible refine PySem.Calls.call_len_list hp.isList (by simp;lia) ?_
  rw [List.size_toArray,hz']
  exact q _ _ _ qa2 (R.tok _) (.int _ _)
theorem X_itemO {value slice:Expr}{pos:Pos}{a:Addr}{ds:List D}{i:Int}{d:D} (h1:X C σ value (.val (.ref a))) (hm:(a,AO.lst ds)∈σ.ms) (h2:X C σ slice (.int i)) (h0:0≤i) (hd:ds[i.toNat]?=some d) (hi:i<2 ^ 63) (hp:qg2 slice=true:=by rfl):X C σ (.Subscript value slice pos) d :=
 X_sub h1 h2 fun imm v1 v2 a1 a2 s R Q E q=>by
  cases a2;cases a1
  obtain ⟨vs,hl,ha⟩:=R.own hm
  obtain ⟨v,hv,hvd⟩:=ha.get hd
  exact tail_any hl.isList.typeIs slot_list_getitem.lookup (wpAny_getItem_list hl.isList h0 hi (by simpa using hv) (q v imm s qa2 R hvd)) (qe8 hp)
theorem Tr_own {a:Addr}{ds:List D} (hm:(a,AO.lst ds)∈σ.ms) (hz:ds.length≤1099511627776):Tr C σ (.val (.ref a)) (!ds.isEmpty):=.mk fun imm v hv s R Q E q=>by
 cases hv
 obtain ⟨vs,hp,ha⟩:=R.own hm
 refine wpAny_truthy_list hp.isList (by rw [List.size_toArray,ha.length];lia) ?_
 have:vs.toArray.isEmpty=ds.isEmpty:=by cases vs <;> cases ha <;> rfl
 rw [this]
 exact q _ _ qa2 (R.tok _)
theorem Tr_lst {ds:List D} (hz:ds.length≤1099511627776):Tr C σ (.lst ds) (!ds.isEmpty):=.mk fun imm v hv s R Q E q=>by
 refine DIn.eL hv fun a o vs nn hm hc hx ha=>?_
 have hl:s.heap.IsList a vs.toArray:=⟨_,R.at_imm hm,hc,_,hx⟩
 refine wpAny_truthy_list hl (by rw [List.size_toArray,ha.length];lia) ?_
 have:vs.toArray.isEmpty=ds.isEmpty:=by cases vs <;> cases ha <;> rfl
 rw [this]
 exact q _ _ qa2 (R.tok _)
theorem X_minI {x:Str}{p pos:Pos}{e1 e2:Expr}{a b:Int} (O:Ok C n) (hx:X C σ (.Name x p) (.val (.builtin "min"))) (h:Xs C σ [e1,e2] [.int a,.int b]):X C σ (.Call (.Name x p) [e1,e2] [] pos) (.int (if b<a then b else a)) :=
 qbt hx h fun imm vs hv s R Q E q=>by
  refine DAll.two hv fun V V h1 h2=>DIn.eI h1 fun V=>DIn.eI h2 fun V=>?_
  refine Rel.elim R fun m os kc fs RX=>?_
  exact min_two_N O.hn RX.fr RX.nw fun h' tk F N=>q _ _ _ qa2 (RX.ofFN F N).rel (.int _ _)
end
namespace FJ
theorem slot_join:PySem.Slot "bytes" "join" "bytes.join" :=
 .of (owner:="bytes") (n:="join") (by rw [typeLookup_type,builtinLookup_eq_fast];kernel_rfl) (by decide +kernel) (by decide +kernel) (by decide +kernel)
  (by first | exact .inl (by decide +kernel) | exact .inr (by decide +kernel)) (by rw [isSubtype_type];kernel_rfl)
theorem entry_join:entryFor table "bytes.join"=some Builtin.«bytes.join»:=entryFor_of_tree (by kernel_rfl)
theorem args_join_2 (a b:Value):argsOk "bytes.join" ⟨[a,b],[]⟩:=by
 unfold argsOk;rw [signature?_of (id:="bytes.join") (n:=['n','i','o','j']) (o:=['s','e','t','y','b']) (by kernel_rfl) FB.owner_bytes];kernel_rfl
theorem type_join:typeOf (.builtin "bytes.join")=pure (.type "method_descriptor"):=by show builtinType _=_;rw [builtinType_eq_fast];kernel_rfl
open Builtin in
theorem take_eq {id:String}{b:Array UInt8}{t:Tok}:Bytes.takeBuffer? id (.bytes b t) 0=pure (some (b,none)):=by
 have h0:Bytes.buffer? id (.bytes b t) ((0:Int) == Bytes.fullReadOnly)=pure (some b):=KBy.buffer_eq
 unfold Bytes.takeBuffer?
 rw [KBy.special_eq KBy.look_buffer,KBy.own_buffer,h0]
 rfl
open Builtin in
theorem takeQ_eq {id:String}{b:Array UInt8}{t:Tok}:Bytes.takeBufferQuiet? id (.bytes b t) 0=pure (some (b,none)):=by
 unfold Bytes.takeBufferQuiet?
 rw [take_eq]
 rfl
theorem joinLetGo_none {M:Model}{A:Around}{s:Shared}{Q:Unit→Shared→Prop}{E:Value→Shared→Prop}:∀ (taken:List (Value×Option Value)) (keep:List Value),(∀ p∈taken,p.2=none)→Q () s→wpAny M A (Builtin.Bytes.joinLetGo taken keep) Q E s
 | [],keep,_,q=>wpAny_pure q
 | (x,w)::rest,keep,hw,q=>by
  have e:w=none:=hw (x,w) (.head _)
  subst e
  refine wpAny_bind (wpAny_letGo ?_)
  exact joinLetGo_none rest keep (fun p hp=>hw p (.tail _ hp)) q
theorem joined_nil (parts:List (Array UInt8)):(Builtin.Bytes.joined #[] parts).toList=(parts.map Array.toList).flatten:=by
 unfold Builtin.Bytes.joined
 have key:∀ (ps:List (Array UInt8×Nat)) (acc:Array UInt8),(ps.foldl (fun out (x:Array UInt8×Nat)=>(if x.2 > 0 then out++#[] else out)++x.1) acc).toList=acc.toList++(ps.map fun x=>x.1.toList).flatten:=by
  intro ps
  induction ps with
  | nil=>intro acc;simp
  | cons p ps ih=>intro acc;rw [List.foldl_cons,ih];simp
 have:=key parts.zipIdx #[]
 refine Eq.trans this ?_
 simp only [lna]
 congr 1
 have e:parts=parts.zipIdx.map (·.1):=by simp
 conv=>rhs;rw [e]
 rw [List.map_map]
 rfl
inductive BytesAre:List Value→List (Array UInt8)→Prop
 | nil:BytesAre [] []
 | cons (b:Array UInt8) (t:Tok) {vs bs}:BytesAre vs bs→BytesAre (.bytes b t::vs) (b::bs)
theorem BytesAre.get {vs bs} (h:BytesAre vs bs) {i:Nat} (hi:i<vs.length):∃ b t,vs[i]?=some (.bytes b t)∧bs[i]?=some b:=by
 induction h generalizing i with
 | nil=>simp at hi
 | cons b t _ ih =>
  cases i with
  | zero=>exact ⟨b,t,by simp,by simp⟩
  | succ i=>simpa using ih (by simpa using hi)
theorem BytesAre.length {vs bs} (h:BytesAre vs bs):vs.length=bs.length:=by
 induction h with
 | nil=>rfl
 | cons _ _ _ ih=>simp [ih]
inductive JTree (P:Fin→Shared→Prop) (v:Value) (s:Shared):Prop
 | mk (l:Addr) (vs:List Value) (bs:List (Array UInt8)):v=.ref l→s.heap.IsList l vs.toArray→BytesAre vs bs→((bs.map Array.toList).flatten).length≤16777216 →
  (∀ t' k r,r.toList=(bs.map Array.toList).flatten→P (.done (.ret (.bytes r t'))) { s with toks:=k })→JTree P v s
inductive JInv (s:Shared) (vs:List Value) (bs:List (Array UInt8)) (rest:List Nat) (b:Array (Array UInt8)×List (Value×Option Value)) (s':Shared):Prop
 | mk (i k:Nat):i≤vs.length→rest=List.range' i (vs.length - i)→b.1.toList=bs.take i→(∀ p∈b.2,p.2=none∧p.1.onHeap=false)→s'={ s with toks:=k }→JInv s vs bs rest b s'
inductive JRes (s:Shared) (bs:List (Array UInt8)) (r:Array (Array UInt8)×List (Value×Option Value)) (s':Shared):Prop
 | mk (k:Nat):s'={ s with toks:=k }→r.1.toList=bs→(∀ p∈r.2,p.2=none)→JRes s bs r s'
open Builtin in
theorem join_treeG {prog:Program}{w:World}{A:Around}{E:Value→Shared→Prop}{s0:Shared}{it:Value}{t:Tok}{P:Fin→Shared→Prop}
 (hj:wpAny (model prog w) A (Bytes.joinItems it) (JTree P) E s0):wpAny (model prog w) A (Builtin.«bytes.join» ⟨[.bytes #[] t,it],[]⟩) P E s0:=by
 show wpAny _ _ (Bytes.joinItems it >>= fun seq=>_) _ _ s0
 refine wpAny_bind (wpAny_mono hj (fun v s hv=>?_) fun V V x=>x)
 obtain ⟨l,vs,bs,rfl,hl,hb,hz,q⟩:=hv
 refine bg fun V K0=>?_
 obtain ⟨o,ho,hc,n,hd⟩:=id hl
 refine K0 ?_
 clear K0
 have items:∀ {Q:Option (Array Value)→Shared→Prop}{k:Nat},Q (some vs.toArray) { s with toks:=k }→wpAny (model prog w) A (seqItems? (.ref l)) Q E { s with toks:=k }:=by
  intro Q k q
  show wpAny _ _ (load l >>= fun o=>_) _ _ _
  refine wpAny_bind (wpAny_load (s:={ s with toks:=k }) ho ?_)
  rw [hd]
  exact wpAny_pure q
 refine wpAny_bind (items (k:=s.toks) ?_)
 have hlen:=hb.length
 have many:vs.length≠1→wpAny (model prog w) A (forIn [:vs.toArray.size] ((#[],[]):Array (Array UInt8)×List (Value×Option Value)) (fun i __s=>do
  let parts:=__s.fst
  let taken:=__s.snd
  let held:=Value.ref l::List.flatMap (fun x=>match x with | (y,u)=>y::u.toList) taken
  let __x ← seqItems? (Value.ref l)
  match __x with
  | some now =>
   let x:=now.getD i Value.none
   let __do_jp:Unit→Sem (ForInStep (Array (Array UInt8)×List (Value×Option Value))):=fun __r=>do
    let __x ← holding (x::held) (Bytes.takeBufferQuiet? (toString Bytes.Kind.bytes.name++toString ".join") x 0)
    match __x with
    | some (b,w) =>
     let parts:=parts.push b
     let taken:=taken++[(x,w)]
     let __x ← seqItems? (Value.ref l)
     match __x with
     | some after =>
      if (after.size != vs.toArray.size)=true then do
       rule (toString (toString Bytes.Kind.bytes.name++toString ".join")++toString ".changed-size")
       Bytes.joinLetGo taken []
       (raiseErrorWords "RuntimeError" "sequence changed size during iteration":Sem Unit)
       pure (ForInStep.yield (parts,taken))
      else pure (ForInStep.yield (parts,taken))
     | x=>do
      (unsupported (toString "internal:"++toString (toString Bytes.Kind.bytes.name++toString ".join")):Sem Unit)
      pure (ForInStep.yield (parts,taken))
    | x_1=>do
     rule (toString (toString Bytes.Kind.bytes.name++toString ".join")++toString ".item-not-bytes-like")
     holding (x::List.drop 1 held) point
     Bytes.joinLetGo taken [x]
     let __do_lift ← PySem.typeNameOf x
     (raiseErrorMade "TypeError" (toString "sequence item "++toString i++toString ": expected a bytes-like object, "++toString __do_lift++toString " found"):Sem Unit)
     pure (ForInStep.yield (parts,taken))
   if (Bytes.Kind.bytes == Bytes.Kind.bytearray || taken.any fun x=>x.fst.onHeap)=true then do
    let __do_lift ← specialOf x (Str.ofString "__buffer__")
    match __do_lift with
    | none=>__do_jp ()
    | some (Value.builtin _)=>__do_jp ()
    | some val=>do
     let __r ← (unsupported (toString (toString Bytes.Kind.bytes.name++toString ".join")++toString ":buffer"):Sem Unit)
     __do_jp __r
   else __do_jp ()
  | x=>do
   (unsupported (toString "internal:"++toString (toString Bytes.Kind.bytes.name++toString ".join")):Sem Unit)
   pure (ForInStep.yield (parts,taken))))
  (JRes s bs) E s:=by
  intro _
  rw [Std.Legacy.Range.forIn_eq_forIn_range']
  refine wpAny_forIn_list _ (JInv s vs bs) _ ?_ ?_ _ _ ⟨0,s.toks,Nat.zero_le _,by simp [Std.Legacy.Range.size],by simp,fun p hp=>(nomatch hp),rfl⟩
  ·rintro x rest ⟨parts,taken⟩ s' ⟨i,k,hi,hr,hp,ht,rfl⟩
   have hlt:i<vs.length:=by
    rcases Nat.lt_or_ge i vs.length with h | h
    ·exact h
    ·rw [Nat.sub_eq_zero_of_le h] at hr;simp at hr
   obtain ⟨rfl,hrest⟩:x=i∧rest=List.range' (i+1) (vs.length - (i+1)):=by
    have e:vs.length - i=(vs.length - (i+1))+1:=sub_succ hlt
    rw [e,List.range'_succ] at hr
    injection hr with h1 h2
    exact ⟨h1,h2⟩
   refine bg fun V K0=>?_
   obtain ⟨b,u,hv,hbv⟩:=hb.get hlt
   refine K0 (wpAny_bind (items ?_))
   clear K0
   have ex:vs.toArray.getD x Value.none=.bytes b u:=by simp [hv]
   have et:(Bytes.Kind.bytes == Bytes.Kind.bytearray || taken.any fun x=>x.fst.onHeap)=false:=by
    have:taken.any (fun x=>x.fst.onHeap)=false:=by
     rw [List.any_eq_false]
     intro p hp
     rw [(ht p hp).2];decide
    rw [this];decide
   dsimp only
   rw [ex,et,if_neg bft]
   refine wpAny_bind (wpAny_holding (wpAny_of_eq FJ.takeQ_eq ?_))
   dsimp only
   refine wpAny_bind (items ?_)
   dsimp only
   rw [if_neg (by simp)]
   refine wpAny_pure ⟨x+1,k,hlt,hrest,?_,?_,rfl⟩
   ·simp only [Array.toList_push]
    rw [show parts.toList=bs.take x from hp,List.take_add_one,hbv];rfl
   ·intro p hp
    rcases maj hp with h | h
    ·exact ht p h
    ·rw [msj h];exact ⟨rfl,rfl⟩
  ·rintro ⟨parts,taken⟩ s' ⟨i,k,hi,hr,hp,ht,rfl⟩
   have hi':i=vs.length:=by
    have:=congrArg List.length hr
    simp at this;lia
   subst hi'
   refine ⟨k,rfl,?_,fun p hp=>(ht p hp).1⟩
   rw [show parts.toList=bs.take vs.length from hp,hlen,List.take_length]
 have tail:∀ (r:Array (Array UInt8)×List (Value×Option Value)) (k:Nat),r.1.toList=bs→(∀ p∈r.2,p.2=none)→wpAny (model prog w) A (do
  let sep ← Bytes.payload (Value.bytes #[] t)
  if (Bytes.tooLong (r.1.foldl (·+·.size) (sep.size * (r.1.size - 1))))=true then do
   let __r ← (unsupported (toString (toString Bytes.Kind.bytes.name++toString ".join")++toString ":memory"):Sem Unit)
   let result ← Bytes.Kind.bytes.new (Bytes.joined sep r.1.toList)
   holding (result::r.2.flatMap fun (y,u)=>y::u.toList) point
   Bytes.joinLetGo r.2 [result]
   ret result
  else do
   let result ← Bytes.Kind.bytes.new (Bytes.joined sep r.1.toList)
   holding (result::r.2.flatMap fun (y,u)=>y::u.toList) point
   Bytes.joinLetGo r.2 [result]
   ret result) P E { s with toks:=k }:=by
  intro r k h1 h2
  refine wpAny_bind (wpAny_of_eq (a:=#[]) rfl ?_)
  have hsum:∀ (ps:List (Array UInt8)) (a:Nat),ps.foldl (fun a (x:Array UInt8)=>a+x.size) a=a+((ps.map Array.toList).flatten).length:=by
   intro ps
   induction ps with
   | nil=>intro a;simp
   | cons p ps ih=>intro a;rw [List.foldl_cons,ih];simp;lia
  have e:(r.1.foldl (fun a (x:Array UInt8)=>a+x.size) ((#[]:Array UInt8).size * (r.1.size - 1)))=((bs.map Array.toList).flatten).length:=by
   rw [← Array.foldl_toList,h1,hsum];simp
  rw [if_neg (by rw [e,KBy.tooLong_not hz];exact bft)]
  have hj:=joined_nil r.1.toList
  rw [h1] at hj
  refine wpAny_bind (wpAny_mkBytes ?_ (by rw [← Array.length_toList,h1,hj,sizeLine_eq];exact hz))
  refine wpAny_bind (wpAny_holding (wpAny_point ?_))
  refine wpAny_bind (FJ.joinLetGo_none _ _ h2 ?_)
  exact wpAny_pure (q _ _ _ (by rw [h1];exact hj))
 by_cases h1:vs.length=1
 ·cases hb with
  | nil=>simp at h1
  | cons b u hb' =>
   cases hb' with
   | nil =>
    refine wpAny_bind (wpAny_typeOf (typeIs_bytes _ _ _) ?_)
    refine wpAny_bind (wpAny_rule (wpAny_pure ?_))
    exact q u s.toks b (by simp)
   | cons=>simp at h1
 ·have:wpAny (model prog w) A (forIn [:vs.toArray.size] ((#[],[]):Array (Array UInt8)×List (Value×Option Value)) _ >>= fun r=>_) P E s:=wpAny_bind (wpAny_mono (many h1) (fun r s' ⟨k,hs',e1,e2⟩=>hs' ▸ tail r k e1 e2) fun V V x=>x)
  rcases vs with _ | ⟨a,_ | ⟨b,r⟩⟩
  ·exact this
  ·exact absurd rfl h1
  ·exact this
open Builtin in
theorem join_tree {prog:Program}{w:World}{A:Around}{E:Value→Shared→Prop}{s:Shared}{l:Addr}{vs:List Value}{bs:List (Array UInt8)}{t:Tok}{P:Fin→Shared→Prop} (hl:s.heap.IsList l vs.toArray) (hb:BytesAre vs bs)
 (hz:((bs.map Array.toList).flatten).length≤16777216)
 (q:∀ t' k r,r.toList=(bs.map Array.toList).flatten→P (.done (.ret (.bytes r t'))) { s with toks:=k }):wpAny (model prog w) A (Builtin.«bytes.join» ⟨[.bytes #[] t,.ref l],[]⟩) P E s:=join_treeG (by
 unfold Bytes.joinItems
 refine wpAny_bind (wpAny_typeOf hl.typeIs ?_)
 exact wpAny_pure ⟨l,vs,bs,rfl,hl,hb,hz,q⟩)
end FJ
section
variable {C:Cx}{σ:AS}{n:Nat}{imm:List Cell}{s:Shared}
structure XM (C:Cx) (σ:AS) (e:Expr) (K:D→AS→Prop) (E:Value→Shared→Prop):Prop where
 go:∀ imm s,Rel C σ imm s→wpAny C.M C.A (eval e C.env) (VPost C imm K) E s
section
variable {K:Fl→AS→Prop}{E:Value→Shared→Prop}{rest:List Stmt}
theorem S_bind {st:Stmt} (K1:AS→Prop) (h:∀ imm s,Rel C σ imm s→wpAny C.M C.A (exec st C.env) (fun f s'=>f=.next∧∃ σ' imm',imm⊆imm'∧Rel C σ' imm' s'∧K1 σ') E s) (k:∀ σ',K1 σ'→SL C σ' rest K E):SL C σ (st::rest) K E:=.mk fun imm s R =>
 wpAny_execs_cons (wpAny_mono (h imm s R) (fun f s' ⟨hf,σ',i',hs,R',k1⟩=>by
  subst hf
  exact wpAny_mono ((k σ' k1).go i' s' R') (fun V V h=>h.up hs) fun V V x=>x) fun V V x=>x)
theorem S_expr {e:Expr}{pos:Pos}{K1:D→AS→Prop} (O:Ok C n) (h:XM C σ e K1 E) (k:∀ d σ',K1 d σ'→SL C σ' rest K E) (hn:qbj e=true:=by rfl):SL C σ (.Expr e pos::rest) K E :=
 S_bind (fun σ'=>∃ d,K1 d σ') (fun imm s R=>by
  exact wpAny_Expr_any (wpAny_mono (h.go imm s R) (fun v s' ⟨d,σ',i',a,b,c,z⟩=>⟨rfl,σ',i',a,b,d,z⟩) fun V V x=>x) (by unfold interactive;rw [O.fk];rfl) (qbw hn)) fun σ' ⟨d,z⟩=>k d σ' z
theorem S_assignM {x:Str}{p pos:Pos}{e:Expr}{K1:D→AS→Prop} (O:Ok C n) (h:XM C σ e K1 E) (k:∀ d σ',K1 d σ'→∃ ρ',Put x .local d σ'.ρ ρ'∧SL C ⟨ρ',σ'.ms⟩ rest K E) (hn:qbj e=true:=by rfl):SL C σ (.Assign [.Name x p] e pos::rest) K E :=
 S_bind (fun σ''=>∃ d σ' ρ',K1 d σ'∧Put x .local d σ'.ρ ρ'∧σ''=⟨ρ',σ'.ms⟩∧SL C ⟨ρ',σ'.ms⟩ rest K E) (fun imm s R=>by
  refine wpAny_Assign_Name (wpAny_mono (h.go imm s R) (fun v s' h'=>?_) fun V V x=>x) (qbw hn)
  obtain ⟨d,σ',i',a,b,c,z⟩:=h'
  obtain ⟨ρ',hP,hk⟩:=k d σ' z
  exact qbf O hP (ms:=σ'.ms) b c fun s2 R2=>⟨rfl,_,i',a,R2,d,σ',ρ',z,hP,rfl,hk⟩) fun σ' h'=>by
   obtain ⟨d,σ1,ρ',z,hP,e,hk⟩:=h'
   subst e;exact hk
theorem S_continue {pos:Pos} (k:K .cont σ):SL C σ (.Continue pos::rest) K E:=.mk fun imm s R=>wpAny_execs_cons (wpAny_bind (wpAny_standAt (wpAny_pure ⟨.cont,σ,imm,qa2,R,.cont,k⟩)))
theorem S_newList {x:Str}{p pos lp:Pos} (O:Ok C n) (k:∀ a,∃ ρ',Put x .local (.val (.ref a)) σ.ρ ρ'∧SL C ⟨ρ',(a,.lst [])::σ.ms⟩ rest K E):SL C σ (.Assign [.Name x p] (.List [] lp) pos::rest) K E :=
 S_assignM (K1:=fun d σ'=>∃ a,d=.val (.ref a)∧σ'=⟨σ.ρ,(a,.lst [])::σ.ms⟩) O (.mk fun imm s R=>by
  with_reducible refine List_ (spliced_nil ?_)
  refine wpAny_newObj_type ?_
  exact ⟨_,_,imm,qa2,Rel.newMut (ρ:=σ.ρ) (ms:=σ.ms) (o:=lstO [] 0) R (fun V V e=>Heap.get?_push_of_some _ e) (AOIs.lst (o:=lstO [] 0) (n:=0) rfl rfl rfl .nil) (Heap.get?_push_size _ rfl) (Heap.get?_none_of_le (Nat.le_refl _)),.val _,_,rfl,rfl⟩)
  fun d σ' ⟨a,e1,e2⟩=>by subst e1 e2;exact k a
theorem qe3 {ρ ρ':List Slot}{m1 m2:List (Addr×AO)}{a:Addr}{ds:List D}{x:Str}{stmts:List Stmt} (hP:Put x .local (.lst ds) ρ ρ') (hH:Has x .local (some (.val (.ref a))) ρ) (k:SL C ⟨ρ',m1++m2⟩ stmts K E):SL C ⟨ρ,m1++(a,.lst ds)::m2⟩ stmts K E:=.mk fun imm s R=>by
 refine Rel.elim R fun m os kc fs R=>?_
 obtain ⟨o1,o2',rfl,mu1,mu2⟩:=Muts.split R.mu
 cases mu2 with | @cons _ o _ o2 _ hx mu2 =>
 cases hx with
 | @lst _ vs nn _ h1 h2 h3 h4 =>
  have hmem:(a,o)∈o1++(a,o)::o2:=mar _ (.head _)
  have A0:=R.mem_os hmem
  have nd:=R.nd
  have perm:((o1++(a,o)::o2++kc).map (·.1)).Perm (a::(o1++o2++kc).map (·.1)):=by
   have:(o1++(a,o)::o2++kc).Perm ((a,o)::(o1++o2++kc)):=by
    rw [laa,laa,lca]
    exact List.perm_middle
   exact this.map (·.1)
  have nd2:=perm.nodup_iff.mp nd
  rw [List.nodup_cons] at nd2
  have hne:∀ q∈imm++(fs++C.hid),q.1≠a:=fun q hq e=>R.ap q hq (by rw [e];exact List.mem_map_of_mem (f:=(·.1)) (mal _ hmem))
  have hs:imm⊆(a,o)::imm:=fun V h=>.tail _ h
  have RR:Rel C ⟨ρ',m1++m2⟩ ((a,o)::imm) s:=⟨m,o1++o2,kc,fs,{
   fr:=R.fr
   nw:=fun p hp=>by
    rcases maj hp with h | h
    ·refine R.mem_os ?_
     rcases maj h with h | h
     ·exact mal _ h
     ·exact mar _ (.tail _ h)
    rcases maj h with h | h
    ·exact R.mem_kc h
    rcases maj h with h | h
    ·rcases mcj h with h | h
     ·subst h;exact A0
     ·exact R.mem_imm h
    ·exact R.nw p (mar _ (mar _ (mar _ h)))
   mu:=(mu1.join mu2).mono hs
   kd:=R.kd
   nd:=nd2.2
   ap:=fun q hq h=>by
    rcases maj hq with hq | hq
    ·rcases mcj hq with hq | hq
     ·subst hq;exact nd2.1 h
     ·exact R.ap q (mal _ hq) (perm.mem_iff.mpr (.tail _ h))
    ·exact R.ap q (mar _ hq) (perm.mem_iff.mpr (.tail _ h))
   ah:=fun q hq h=>by
    rcases mcj hq with hq | hq
    ·subst hq
     obtain ⟨z,hz,e⟩:=mmj h
     exact hne z (mar _ hz) e
    ·exact R.ah q hq h
   hn:=R.hn
   ou:=R.ou
   nm:=by rw [hP.names];exact R.nm
   kn:=fun p hp=>by
    rcases hP.at R.nm p hp with e | ⟨h,_⟩
    ·subst e;exact R.kn ⟨x,.local,some (.val (.ref a))⟩ hH.mem
    ·exact R.kn p h
   va:=fun p hp d e=>by
    rcases hP.at R.nm p hp with q | ⟨h,_⟩
    ·subst q
     cases e
     have:=R.va _ hH.mem _ rfl
     dsimp only at this
     cases this with
     | loc h5 r=>cases r;exact .loc h5 (.lst (.head _) h1 h3 (h4.mono hs))
    ·exact (R.va p h d e).mono hs
   cc:=fun p hp hk=>by
    rcases hP.at R.nm p hp with q | ⟨h,_⟩
    ·subst q;cases hk
    ·exact R.cc p h hk
   gn:=R.gn
   so:=R.so }⟩
  exact wpAny_mono (k.go _ s RR) (fun V V h=>h.up hs) fun V V x=>x
end
theorem qea {e:Expr}{ds:List D} (h:Xs C σ [e] ds):starEach [e] C.env=[(false,eval e C.env)]:=by
 cases h with | cons _ h2 h3=>rw [h3];rfl
theorem XM_append {o e:Expr}{apos pos:Pos}{a:Addr}{ds:List D}{d:D}{m1 m2:List (Addr×AO)}{ρ:List Slot}{K:D→AS→Prop}{E:Value→Shared→Prop} (hbase:attributeBase o "append" C.env (eval o C.env)=eval o C.env) (hline:(apos.endLine == pos.line)=true)
 (ho:X C ⟨ρ,m1++(a,.lst ds)::m2⟩ o (.val (.ref a))) (he:Xs C ⟨ρ,m1++(a,.lst ds)::m2⟩ [e] [d]) (hz:ds.length≤1000000) (k:K .none ⟨ρ,m1++(a,.lst (ds++[d]))::m2⟩) :
 XM C ⟨ρ,m1++(a,.lst ds)::m2⟩ (.Call (.Attribute o "append" apos) [e] [] pos) K E:=.mk fun imm s R=>by
 have hst:=qea he
 cases he with | cons he1 _ _ =>
 refine wpAny_Call_append hbase (by rw [hst];rfl) hline (by rw [hst];rfl) (ho.goV imm s R _ _ fun i1 s1 hs1 R1=>?_)
 have hm:(a,AO.lst ds)∈m1++(a,AO.lst ds)::m2:=mar _ (.head _)
 obtain ⟨vs,hp,_⟩:=R1.own hm
 refine ⟨a,_,rfl,hp,he1.go i1 s1 R1 _ _ fun y i2 s2 hs2 R2 hy=>?_⟩
 obtain ⟨ws,hp2,ha2⟩:=R2.own hm
 refine list_append_plainL hp2 (fun h' hp' hsb=>?_) (by rw [List.size_toArray,ha2.length];unfold sizeLine;lia)
 obtain ⟨o',n',ho',hc',hd',hx'⟩:=hp'
 have e1:(ws.toArray.push y)=(ws++[y]).toArray:=by simp
 rw [e1] at hx'
 exact ⟨.none,_,i2,qa0 hs1 hs2,R2.putMut (AOIs.lst hc' hd' hx' (ha2.append (.cons hy .nil))) ho' hsb,.none,k⟩
theorem bytesAre {vs:List Value}{kss:List (List Int)} (h:DAll imm vs (kss.map D.bytes)):∃ bs,FJ.BytesAre vs bs∧bs.map bI=kss:=by
 induction kss generalizing vs with
 | nil=>cases h;exact ⟨[],.nil,rfl⟩
 | cons k kss ih =>
  cases h with | cons h r =>
  obtain ⟨bs,h1,h2⟩:=ih r
  cases h with | @bytes b t _ e=>exact ⟨b::bs,.cons b t h1,by simp [h2,e]⟩
theorem qgb (bs:List (Array UInt8)):(bs.map bI).flatten=((bs.map Array.toList).flatten).map (fun c=>(c.toNat:Int)):=by
 induction bs with
 | nil=>rfl
 | cons b bs ih=>rw [lmc,List.flatten_cons,ih,lmc,List.flatten_cons,lma];rfl
theorem X_join {e:Expr}{k:Nat}{cp apos pos:Pos}{kss:List (List Int)} (he:Xs C σ [e] [.lst (kss.map D.bytes)]) (hz:kss.flatten.length≤16777216) (hline:(apos.endLine == pos.line)=true:=by rfl) :
 X C σ (.Call (.Attribute (.Constant (.bytes []) k cp) "join" apos) [e] [] pos) (.bytes kss.flatten):=.mk fun imm s R Q E q=>by
 have hst:=qea he
 refine Call_method1 rfl hst hline ?_
 refine (qf4 (C:=C) (σ:=σ) (ks:=[]) rfl).go imm s R _ _ fun v i1 s1 hs1 R1 hv=>?_
 refine DIn.eB hv fun b t e0=>?_
 have hb:b=#[]:=bI_inj (e0.trans rfl)
 subst hb
 refine ⟨"bytes","bytes.join",FB.plainAttrs_bytes,FJ.slot_join,FJ.type_join,typeIs_bytes _ _ _,(fun V e=>nomatch e),?_⟩
 refine Calls.callWith_builtin rfl ?_
 have hst':backTo pos (starEach [e] C.env)=[(false,eval e C.env)]:=by rw [hst];rfl
 refine evalArgs_plain ?_
 rw [← hst']
 refine he.run pos i1 s1 R1 _ _ fun vs i2 s2 hs2 R2 hvs=>?_
 refine DAll.one hvs fun V h1=>DIn.eL h1 fun a o ws nn hm hc hx ha=>?_
 have hl:s2.heap.IsList a ws.toArray:=⟨_,R2.at_imm hm,hc,_,hx⟩
 obtain ⟨bs,hbs,e1⟩:=bytesAre ha
 have ef:((bs.map Array.toList).flatten).length=kss.flatten.length:=by
  rw [← e1,qgb,lem]
 refine wpAny_call_entry FJ.slot_join (typeIs_bytes _ _ _) FJ.entry_join (FJ.join_tree hl hbs (by rw [ef];exact hz) fun t' k' r hr=>⟨_,rfl,?_⟩) (FJ.args_join_2 _ _)
 refine q _ i2 _ (qa0 hs1 hs2) (R2.tok k') (.bytes ?_)
 show r.toList.map (fun c=>(c.toNat:Int))=_
 rw [hr,← qgb,e1]
end
section
variable {C:Cx}{σ:AS}{n:Nat}{imm:List Cell}{s:Shared}
theorem X_iteI {t a b:Expr}{pos:Pos}{c:Bool}{i j:Int} (h:T C σ t c) (h1:c=true→X C σ a (.int i)) (h2:c=false→X C σ b (.int j)):X C σ (.IfExp t a b pos) (.int (if c=true then i else j)) :=
 X_ite h (fun e=>by rw [if_pos e];exact h1 e) (fun e=>by rw [if_neg (by rw [e];exact bft)];exact h2 e)
theorem X_iteB {t a b:Expr}{pos:Pos}{c:Bool}{i j:List Int} (h:T C σ t c) (h1:c=true→X C σ a (.bytes i)) (h2:c=false→X C σ b (.bytes j)):X C σ (.IfExp t a b pos) (.bytes (if c=true then i else j)) :=
 X_ite h (fun e=>by rw [if_pos e];exact h1 e) (fun e=>by rw [if_neg (by rw [e];exact bft)];exact h2 e)
theorem X_iteL {t a b:Expr}{pos:Pos}{c:Bool}{i j:List D} (h:T C σ t c) (h1:c=true→X C σ a (.lst i)) (h2:c=false→X C σ b (.lst j)):X C σ (.IfExp t a b pos) (.lst (if c=true then i else j)) :=
 X_ite h (fun e=>by rw [if_pos e];exact h1 e) (fun e=>by rw [if_neg (by rw [e];exact bft)];exact h2 e)
theorem X_callF {x:Str}{p pos:Pos}{args:List Expr}{ds:List D}{d:D}{f:Addr}{k:Nat} (O:Ok C n) (hx:X C σ (.Name x p) (.val (.ref f))) (hk:keepIn (K39 C.w.params) (.ref f)=true) (ha:Xs C σ args ds) (F:Fn C.w.params f k ds d) (hn:k≤n) :
 X C σ (.Call (.Name x p) args [] pos) d:=X_call (O.le hn) hx hk ha F
noncomputable def cut (ks:List Int) (l u:Option Int):List Int:=(ks.drop (l.elim 0 (clipAt ks.length))).take (u.elim ks.length (clipAt ks.length) - l.elim 0 (clipAt ks.length))
theorem qar (ks:List Int) (l u:Option Int):(cut ks l u).length≤ks.length:=by
 unfold cut
 rw [List.length_take,List.length_drop]
 exact qcy (Nat.le_refl _)
theorem X_cutB {value:Expr}{lo hi:Option Expr}{p pos:Pos}{ks:List Int}{l u:Option Int} (h1:X C σ value (.bytes ks)) (h2:Pt C σ lo l) (h3:Pt C σ hi u) (hz:ks.length≤16777216) :
 X C σ (.Subscript value (.Slice lo hi none p) pos) (.bytes (cut ks l u)):=X_sliceB h1 h2 h3 hz
noncomputable def cutL (ds:List D) (l u:Option Int):List D:=(ds.drop (kms_lo l ds.length)).take (kms_hi u ds.length - kms_lo l ds.length)
theorem X_cutL {value:Expr}{lo hi:Option Expr}{p pos:Pos}{ds:List D}{l u:Option Int} (h1:X C σ value (.lst ds)) (h2:Pt C σ lo l) (h3:Pt C σ hi u) (hz:ds.length≤16777216) (ht:∀ a r,letTemporaryGo value (.ref a) r=pure ()) :
 X C σ (.Subscript value (.Slice lo hi none p) pos) (.lst (cutL ds l u)):=X_sliceL h1 h2 h3 hz ht
theorem qgn {st:Stmt}{rest:List Stmt}{K:Fl→AS→Prop}{E:Value→Shared→Prop}{J:AS→Prop} (h:SL C σ [st] (fun f σ'=>match f with | .next=>J σ' | f=>K f σ') E) (k:∀ σ',J σ'→SL C σ' rest K E):SL C σ (st::rest) K E:=.mk fun imm s R=>by
 intro Γ pos hΓ
 have e:=qb7 (M:=C.M) (Γ:=Γ) (env:=C.env) (xs:=[st]) (ys:=rest)
  (Q:=fun f V s'=>qd2 C imm K f s') (E:=fun e V s'=>E e s') (p:=pos) (s:=s)
 have e':([st]++rest)=st::rest:=rfl
 rw [e'] at e
 show Sem.wp C.M Γ (execs (st::rest) C.env) (fun f V s'=>qd2 C imm K f s') (fun e V s'=>E e s') pos s
 rw [e]
 refine Sem.wp_mono C.M Γ _ (fun f p' s' ⟨f',σ',i',hs,R',hf,hK⟩=>?_) (fun V V V x=>x) _ _ (h.go imm s R Γ pos hΓ)
 cases hf with
 | next=>exact Sem.wp_mono C.M Γ _ (fun V V V h=>h.up hs) (fun V V V x=>x) _ _ ((k σ' hK).go i' s' R' Γ p' hΓ)
 | brk=>exact ⟨_,σ',i',hs,R',.brk,hK⟩
 | cont=>exact ⟨_,σ',i',hs,R',.cont,hK⟩
 | ret hd=>exact ⟨_,σ',i',hs,R',.ret hd,hK⟩
end
inductive Ints:List D→List Int→Prop
 | nil:Ints [] []
 | cons {i ds ns}:Ints ds ns→Ints (.int i::ds) (i::ns)
theorem Ints.eq {ds ns} (h:Ints ds ns):ds=ns.map D.int:=by
 induction h with
 | nil=>rfl
 | cons _ ih=>rw [ih];rfl
section
variable {C:Cx}{σ:AS}{n:Nat}
theorem Cmp_inI' {x:Int}{ds:List D}{ns:List Int} (h:Ints ds ns):Cmp C σ .In (.int x) (.tup ds) (ns.any (· == x)):=by
 rw [h.eq];exact Cmp_inI
theorem Ts_one {op:BoolOp}{e:Expr}{b:Bool} (h:T C σ e b):Ts C σ op [e] b:=by
 cases op with
 | And =>
  have:=Ts.and h (fun V=>Ts.nil (op:=.And))
  rwa [show (b && (BoolOp.And == BoolOp.And))=b by cases b <;> rfl] at this
 | Or =>
  have:=Ts.or h (fun V=>Ts.nil (op:=.Or))
  rwa [show (b || (BoolOp.Or == BoolOp.And))=b by cases b <;> rfl] at this
end
section
variable {C:Cx}{n:Nat}{ρ ρ':List Slot}{ms:List (Addr×AO)}{K:Fl→AS→Prop}{E:Value→Shared→Prop}{rest:List Stmt}
theorem S_assign' {x:Str}{p pos:Pos}{e:Expr}{d:D} (O:Ok C n) (h:X C ⟨ρ,ms⟩ e d) (hP:Put x .local d ρ ρ') (k:SL C ⟨ρ',ms⟩ rest K E) (hn:qbj e=true):SL C ⟨ρ,ms⟩ (.Assign [.Name x p] e pos::rest) K E:=S_assign O h hP k hn
theorem S_assignCell {x:Str}{p pos:Pos}{e:Expr}{d:D} (O:Ok C n) (hcap:C.cap=[]) (h:X C ⟨ρ,ms⟩ e d) (hP:Put x .cell d ρ ρ') (k:SL C ⟨ρ',ms⟩ rest K E) (hn:qbj e=true):SL C ⟨ρ,ms⟩ (.Assign [.Name x p] e pos::rest) K E :=
 qft (fun imm s R Q q=>wpAny_Assign_Name (h.go imm s R _ _ fun v i1 s1 hs1 R1 hv=>store_cell O hP R1 hv hcap fun s' R'=>q i1 s' hs1 R') (qbw hn)) k
theorem S_augAdd' {x:Str}{p pos:Pos}{e:Expr}{a b:Int} (O:Ok C n) (h0:Has x .local (some (.int a)) ρ) (h:X C ⟨ρ,ms⟩ e (.int b)) (hP:Put x .local (.int (a+b)) ρ ρ') (k:SL C ⟨ρ',ms⟩ rest K E) :
 SL C ⟨ρ,ms⟩ (.AugAssign (.Name x p) .Add e pos::rest) K E:=S_augAdd (σ:=⟨ρ,ms⟩) O h0 h hP k
theorem S_assignT' {ts:List Expr}{kk:Nat}{tp pos:Pos}{e:Expr}{ds:List D} (O:Ok C n) (h:X C ⟨ρ,ms⟩ e (.tup ds)) (hA:Asgs C ts ds ρ ρ') (k:SL C ⟨ρ',ms⟩ rest K E)
 (hs:swapsWithSole [.Tuple ts kk tp] e pos.line C.env=pure false) (hw:swappedStores [.Tuple ts kk tp] e C.env=pure none):SL C ⟨ρ,ms⟩ (.Assign [.Tuple ts kk tp] e pos::rest) K E:=S_assignT (σ:=⟨ρ,ms⟩) O h hA k hs hw
end
section
variable {C:Cx}{n:Nat}{ρ ρ':List Slot}{ms:List (Addr×AO)}{K:Fl→AS→Prop}{E:Value→Shared→Prop}{rest:List Stmt}
theorem S_newList' {x:Str}{p pos lp:Pos} (O:Ok C n) (k:∀ a,∃ ρ',Put x .local (.val (.ref a)) ρ ρ'∧SL C ⟨ρ',(a,.lst [])::ms⟩ rest K E):SL C ⟨ρ,ms⟩ (.Assign [.Name x p] (.List [] lp) pos::rest) K E:=S_newList (σ:=⟨ρ,ms⟩) O k
theorem qgp {o:Expr}{e:Expr}{apos pos ep:Pos}{a:Addr}{ds:List D}{d:D}{m1 m2:List (Addr×AO)} (O:Ok C n) (ho:X C ⟨ρ,m1++(a,.lst ds)::m2⟩ o (.val (.ref a))) (he:Xs C ⟨ρ,m1++(a,.lst ds)::m2⟩ [e] [d]) (hz:ds.length≤1000000)
 (k:SL C ⟨ρ,m1++(a,.lst (ds++[d]))::m2⟩ rest K E) (hbase:attributeBase o "append" C.env (eval o C.env)=eval o C.env:=by rfl) (hline:(apos.endLine == pos.line)=true:=by rfl) :
 SL C ⟨ρ,m1++(a,.lst ds)::m2⟩ (.Expr (.Call (.Attribute o "append" apos) [e] [] pos) ep::rest) K E :=
 S_expr (K1:=fun d' σ'=>σ'=⟨ρ,m1++(a,.lst (ds++[d]))::m2⟩) O (XM_append hbase hline ho he hz rfl) fun d' σ' e=>by subst e;exact k
end
noncomputable def qa9 (ks:List Int):Int:=ks.foldl (fun n o=>n * 256+o) 0
noncomputable def putF (x:Str) (d:D):List (Str×D)→List (Str×D)
 | []=>[(x,d)]
 | p::r=>if p.1 == x then (p.1,d)::r else p::putF x d r
theorem qej {x:Str}{d:D}{p:Str×D}{r:List (Str×D)}:putF x d (p::r)=if p.1 == x then (p.1,d)::r else p::putF x d r:=rfl
section
variable {P:Params}{imm:List Cell}{es:List DictEntry}{fs:List (Str×D)}{x:Str}{d:D}
theorem qcp {y:Str}{t:Tok}:(Value.str y t).isStr x=(y == x):=rfl
theorem qaa.some (h:qaa P imm es fs) (hl:fs.lookup x=some d):∃ v,getL x es=some (some v)∧DIn imm v d:=by
 unfold getL
 suffices ∃ e,es.find? (·.key.isStr x)=Option.some e∧DIn imm e.val d by
  obtain ⟨e,h1,h2⟩:=this
  exact ⟨e.val,by rw [h1],h2⟩
 induction h with
 | nil=>simp at hl
 | @cons y t v d' es fs hv h ih =>
  rw [List.find?_cons]
  rw [List.lookup_cons] at hl
  by_cases e:x=y
  ·subst e
   simp only [beq_self_eq_true] at hl
   cases hl
   refine ⟨⟨PyData.keyHash P x,.str x t,v⟩,?_,hv⟩
   rw [show Value.isStr (Value.str x t) x=true by rw [qcp];simp]
  ·rw [beq_eq_false_iff_ne.mpr e] at hl
   rw [show Value.isStr (Value.str y t) x=false by rw [qcp];simp [Ne.symm e]]
   exact ih hl
theorem qaa.noRef (h:qaa P imm es fs):es.any (·.refKey)=false:=by
 induction h with
 | nil=>rfl
 | cons _ _ ih=>rw [List.any_cons,ih];rfl
theorem qaa.find (h:qaa P imm es fs) (hl:fs.lookup x=none):es.find? (·.key.isStr x)=Option.none:=by
 induction h with
 | nil=>rfl
 | @cons y t v d' es fs hv h ih =>
  rw [List.lookup_cons] at hl
  rw [List.find?_cons]
  by_cases e:x=y
  ·subst e;simp at hl
  ·rw [beq_eq_false_iff_ne.mpr e] at hl
   rw [show Value.isStr (Value.str y t) x=false by rw [qcp];simp [Ne.symm e]]
   exact ih hl
theorem qaa.none (h:qaa P imm es fs) (hl:fs.lookup x=Option.none):getL x es=Option.some Option.none:=by
 unfold getL
 rw [h.find hl,h.noRef]
 rfl
theorem qaa.get (h:qaa P imm es fs):(getL x es).isSome=true:=by
 cases hl:fs.lookup x with
 | none=>rw [h.none hl];rfl
 | some d=>obtain ⟨v,hv,_⟩:=h.some hl;rw [hv];rfl
theorem qaa.put (h:qaa P imm es fs) {v:Value} (hv:DIn imm v d) (tk:Tok):qaa P imm (putL x (PyData.keyHash P x) (.str x tk) v es) (putF x d fs):=by
 induction h with
 | nil=>exact .cons hv .nil
 | @cons y t w d' es fs hw h ih =>
  unfold putL putF
  by_cases e:y=x
  ·subst e
   rw [show Value.isStr (Value.str y t) y=true by rw [qcp];simp,if_pos rfl]
   simp only [beq_self_eq_true,if_true]
   exact .cons hv h
  ·rw [show Value.isStr (Value.str y t) x=false by rw [qcp];simp [e],if_neg bft]
   rw [if_neg (by simp [e])]
   exact .cons hw ih
theorem qei (h:qaa P imm es fs) {v:Value}{tk:Tok}:(putL x (PyData.keyHash P x) (.str x tk) v es).length≤es.length+1:=by
 induction es generalizing fs with
 | nil=>exact Nat.le_refl _
 | cons e es ih =>
  cases h with
  | cons h1 h2 =>
   unfold putL
   split
   ·simp
   ·simp only [List.length_cons];have:=ih h2;lia
theorem qaa.length (h:qaa P imm es fs):es.length=fs.length:=by
 induction h with
 | nil=>rfl
 | cons _ _ ih=>simp [ih]
end
noncomputable abbrev KK (P:Params):Frag:=K39 P
noncomputable def D.handed:D→Bool
 | .val v=>handedIn v
 | _=>true
theorem DIn.handed {imm:List Cell}{v:Value}{d:D} (h:DIn imm v d) (hd:d.handed=true):handedIn v=true:=by
 cases h <;> first | rfl | exact hd
noncomputable def ownA (P:Params) (C:Addr) (x:Str):Bool:=plainGet (KK P) C x && hasDictIn (KK P) C && (match findIn (KK P) (.ref C) x with | some a=>noGet (KK P) a | none=>false)
noncomputable def clsA (P:Params) (C:Addr) (x:Str) (a:Value):Bool:=plainGet (KK P) C x && hasDictIn (KK P) C && (findIn (KK P) (.ref C) x == some (some a)) && (specialIn (KK P) a "__get__" == some none) && handedIn a && !copiedNames.contains x
noncomputable def methA (P:Params) (C:Addr) (x:Str) (f:Addr):Bool:=plainGet (KK P) C x && (findIn (KK P) (.ref C) x == some (some (.ref f))) && isFn (KK P) (.ref f) && keepIn (KK P) (.ref f)
noncomputable def setA (P:Params) (C:Addr) (x:Str):Bool:=(findIn (KK P) (.ref C) "__setattr__" == some (some (.builtin "object.__setattr__"))) && plainOver (KK P) C && (takerIn (KK P) C x == some none) && hasDictIn (KK P) C
section
variable {C:Cx}{σ:AS}{n:Nat}{imm:List Cell}{s:Shared}
inductive InstOf (P:Params) (imm:List Cell) (h:Heap) (x Cc dx:Addr) (fs:List (Str×D)):Prop
 | mk (es:List DictEntry) (k:Nat):qaa P imm es fs→InstAt h x (instObj Cc dx) Cc (some (dictOf es k))→InstOf P imm h x Cc dx fs
theorem Rel.inst (R:Rel C σ imm s) {x Cc dx:Addr}{fs:List (Str×D)} (hx:(x,AO.inst Cc dx)∈σ.ms) (hd:(dx,AO.dict fs)∈σ.ms):InstOf C.w.params imm s.heap x Cc dx fs:=by
 obtain ⟨o,ho,hx⟩:=R.at_ms hx
 obtain ⟨o2,ho2,hd⟩:=R.at_ms hd
 cases hx
 cases hd with
 | dict h=>exact ⟨_,_,h,⟨ho,rfl,rfl,ho2⟩⟩
theorem qgl {value:Expr}{attr:Str}{pos:Pos}{a:Addr}{E:Value→Shared→Prop}{Q:Value→Shared→Prop} (hb:attributeBase value attr C.env (eval value C.env)=eval value C.env)
 (h:wpAny C.M C.A (eval value C.env) (fun v s1=>v=.ref a∧wpAny C.M C.A (getAttr (.ref a) attr true) Q E s1) E s):wpAny C.M C.A (eval (.Attribute value attr pos) C.env) Q E s:=by
 show wpAny _ _ (do
  let o ← attributeBase value attr C.env (eval value C.env)
  standAt pos.atName
  let r ← holding [o] (getAttr o attr true)
  letTemporaryGo value o r
  pure r) _ _ _
 rw [hb]
 refine wpAny_bind (wpAny_mono h (fun v s1 ⟨hv,h1⟩=>?_) fun V V x=>x)
 subst hv
 refine wpAny_bind (wpAny_standAt (wpAny_bind (wpAny_holding (wpAny_mono h1 (fun r s2 h2=>?_) fun V V x=>x))))
 exact wpAny_bind (wpAny_letTemporaryGo (wpAny_pure h2))
set_option tactic.hygienic true in
theorem X_attr {value:Expr}{attr:Str}{pos:Pos}{x Cc dx:Addr}{fs:List (Str×D)}{d:D} (O:Ok C n) (ho:X C σ value (.val (.ref x))) (hx:(x,AO.inst Cc dx)∈σ.ms) (hd:(dx,AO.dict fs)∈σ.ms) (hf:fs.lookup attr=some d) (ha:ownA C.w.params Cc attr=true) (hh:d.handed=true)
 (hb:attributeBase value attr C.env (eval value C.env)=eval value C.env):X C σ (.Attribute value attr pos) d:=.mk fun imm s R Q E q=>by
 refine qgl (a:=x) hb (ho.goV imm s R _ _ fun i1 s1 hs1 R1=>?_)
 refine ⟨rfl,?_⟩
 obtain ⟨es,k,hF,I⟩:=R1.inst hx hd
 obtain ⟨v,hv,hvd⟩:=hF.some hf
 unfold ownA at ha
 rw [Bool.and_eq_true,Bool.and_eq_true] at ha
 obtain ⟨⟨h1,h2⟩,h3⟩:=ha
 split at h3
 ·rename_i a hfa
  have R1':=R1
  obtain ⟨m,os,kc,fs',RX⟩:=R1'
  exact get_own RX.fr O.kin I h1 h2 hfa h3 hv (hvd.handed hh) (q v i1 _ hs1 (R1.tok _) hvd)
 ·cases h3
theorem X_attrC {value:Expr}{attr:Str}{pos:Pos}{x Cc dx:Addr}{fs:List (Str×D)}{a:Value}{d:D} (O:Ok C n) (ho:X C σ value (.val (.ref x))) (hx:(x,AO.inst Cc dx)∈σ.ms) (hd:(dx,AO.dict fs)∈σ.ms) (hf:fs.lookup attr=none) (ha:clsA C.w.params Cc attr a=true) (hda:DIn [] a d)
 (hb:attributeBase value attr C.env (eval value C.env)=eval value C.env):X C σ (.Attribute value attr pos) d:=.mk fun imm s R Q E q=>by
 refine qgl (a:=x) hb (ho.goV imm s R _ _ fun i1 s1 hs1 R1=>?_)
 refine ⟨rfl,?_⟩
 obtain ⟨es,k,hF,I⟩:=R1.inst hx hd
 have hv:=hF.none hf
 unfold clsA at ha
 simp only [Bool.and_eq_true,beq_iff_eq,Bool.not_eq_true'] at ha
 obtain ⟨⟨⟨⟨⟨h1,h2⟩,h3⟩,h4⟩,h5⟩,h6⟩:=ha
 have R1':=R1
 obtain ⟨m,os,kc,fs',RX⟩:=R1'
 exact get_cls RX.fr O.kin I h1 h2 h3 h4 h5 h6 hv (q a i1 _ hs1 (R1.tok _) (hda.mono (List.nil_subset _)))
end
theorem Upd.mk' {d:Addr}{o o':Obj}:∀ {pre post:List Cell},(∀ p∈pre,p.1≠d)→(∀ p∈post,p.1≠d)→Upd d o o' (pre++(d,o)::post) (pre++(d,o')::post)
 | [],_,_,h=>.head h
 | p::r,_,h1,h2=>.tail (h1 p (.head _)) (Upd.mk' (fun q hq=>h1 q (.tail _ hq)) h2)
section
variable {C:Cx}{σ:AS}{n:Nat}{imm:List Cell}{s:Shared}
theorem Rel.upd {ρ:List Slot}{m1 m2:List (Addr×AO)}{a:Addr}{x:AO} (R:Rel C ⟨ρ,m1++(a,x)::m2⟩ imm s) :
 ∃ m news o,Fr C.base C.env.locals s.heap m∧News C.base C.env.locals s.heap news∧s.heap.get? a=some o∧AOIs C.prog C.w imm o x∧∀ o' x',AOIs C.prog C.w imm o' x'→∃ news',Upd a o o' news news' ∧
  ∀ h' d tk,Fr C.base C.env.locals h' m→News C.base C.env.locals h' news'→Rel C ⟨ρ,m1++(a,x')::m2⟩ imm ⟨h',s.gens,d,tk,s.os⟩:=by
 refine Rel.elim R fun m os kc fs R=>?_
 refine bg fun V kG=>?_
 obtain ⟨o1,o2',rfl,mu1,mu2⟩:=Muts.split R.mu
 refine kG ?_
 clear kG
 cases mu2 with | @cons _ o _ o2 _ hx mu2 =>
 have hmem:(a,o)∈o1++(a,o)::o2:=mar _ (.head _)
 refine ⟨m,_,o,R.fr,R.nw,(R.mem_os hmem).1,hx,fun o' x' hx'=>?_⟩
 have nd:=R.nd
 have nd1:((o1++(a,o)::(o2++kc)).map (·.1)).Nodup:=by rw [← lca,← laa];exact nd
 rw [lma,lmc,List.nodup_append,List.nodup_cons] at nd1
 have hpre:∀ p∈o1,p.1≠a:=fun p hp e=>nd1.2.2 p.1 (List.mem_map_of_mem hp) a (.head _) e
 have hpost:∀ p∈o2++(kc++(imm++(fs++C.hid))),p.1≠a:=fun p hp e=>by
  rw [← laa] at hp
  rcases maj hp with h | h
  ·exact nd1.2.1.1 (List.mem_map.mpr ⟨p,h,e⟩)
  ·exact R.ap p h (by rw [e,laa,lma];exact mar _ (.head _))
 have e1:(o1++(a,o)::o2)++(kc++(imm++(fs++C.hid)))=o1++(a,o)::(o2++(kc++(imm++(fs++C.hid)))):=by simp
 have e2:(o1++(a,o')::o2)++(kc++(imm++(fs++C.hid)))=o1++(a,o')::(o2++(kc++(imm++(fs++C.hid)))):=by simp
 have em:((o1++(a,o')::o2)++kc).map (·.1)=((o1++(a,o)::o2)++kc).map (·.1):=by simp
 refine ⟨(o1++(a,o')::o2)++(kc++(imm++(fs++C.hid))),?_,fun h' d tk F N=>⟨m,o1++(a,o')::o2,kc,fs,{ R with
  fr:=F
  nw:=N
  mu:=mu1.join (.cons hx' mu2)
  nd:=by rw [em];exact R.nd
  ap:=fun q hq=>by rw [em];exact R.ap q hq }⟩⟩
 rw [e1,e2]
 exact Upd.mk' hpre hpost
theorem S_setAttr {ρ:List Slot}{m1 m2:List (Addr×AO)}{K:Fl→AS→Prop}{E:Value→Shared→Prop}{rest:List Stmt}{o e:Expr}{attr:Str}{ap pos:Pos}{x Cc dx:Addr}{fs:List (Str×D)}{d:D} (O:Ok C n)
 (he:X C ⟨ρ,m1++(dx,.dict fs)::m2⟩ e d) (ho:X C ⟨ρ,m1++(dx,.dict fs)::m2⟩ o (.val (.ref x))) (hx:(x,AO.inst Cc dx)∈m1++m2) (ha:setA C.w.params Cc attr=true) (hl:fs.length≤900)
 (k:SL C ⟨ρ,m1++(dx,.dict (putF attr d fs))::m2⟩ rest K E) (hn:qbj e=true):SL C ⟨ρ,m1++(dx,.dict fs)::m2⟩ (.Assign [.Attribute o attr ap] e pos::rest) K E :=
 qft (fun imm s R Q q=>by
  refine plainObj_wpAny_Assign_Attribute ?_ (qbw hn)
  refine he.go imm s R _ _ fun v i1 s1 hs1 R1 hv=>ho.goV i1 s1 R1 _ _ fun i2 s2 hs2 R2=>?_
  have hx':(x,AO.inst Cc dx)∈m1++(dx,AO.dict fs)::m2:=by
   rcases maj hx with h | h
   ·exact mal _ h
   ·exact mar _ (.tail _ h)
  refine bg fun V kG=>?_
  obtain ⟨ox,hox,hax⟩:=R2.at_ms hx'
  refine kG ?_
  clear kG
  cases hax
  refine bg fun V kG=>?_
  obtain ⟨m,news,od,F,N,hod,hAO,up⟩:=R2.upd
  refine kG ?_
  clear kG
  cases hAO with
  | @dict es nn _ hF =>
   unfold setA at ha
   simp only [Bool.and_eq_true,beq_iff_eq] at ha
   refine bg fun V kG=>?_
   obtain ⟨⟨⟨h1,h2⟩,h3⟩,h4⟩:=ha
   refine kG ?_
   clear kG
   have hv2:=hv.mono hs2
   refine bg fun V kG=>?_
   obtain ⟨news',hU,hfin⟩:=up (dictOf (putL attr (PyData.keyHash C.w.params attr) (.str attr (s2.toks+1)) v es) (putN attr es nn)) (.dict (putF attr d fs)) (.dict (hF.put hv2 _))
   refine kG ?_
   clear kG
   refine set_dict (es:=es) (n:=nn) (dx:=dx) F O.kin N ⟨hox,rfl,rfl,hod⟩ rfl h1 h2 h3 h4 hF.get rfl hU ?_ fun h' F' N'=>?_
   ·have:=qei hF (x:=attr) (v:=v) (tk:=s2.toks+1)
    have:=hF.length
    lia
   ·exact q i2 _ (qa0 hs1 hs2) (hfin h' s2.drawn (s2.toks+2) F' N')) k
theorem class_attr? {x Cc:Addr}{ox od:Obj}{Q:Option Value→Shared→Prop}{E:Value→Shared→Prop}{prog:Program}{w:World}{A:Around}{h₀:Heap}{L:Addr}{m:Str→Option Value}{K:Frag} (F:Fr h₀ L s.heap m) (X₀:K.In h₀) (I:InstAt s.heap x ox Cc (some od))
 (hg:plainGet K Cc "__class__"=true) (hh:hasDictIn K Cc=true) (ha:findIn K (.ref Cc) "__class__"=some (some (.builtin "object.__class__"))) (hn:specialIn K (.builtin "object.__class__") "__get__"=some (some (.builtin "getset_descriptor.__get__"))) (ht:takesIn K (.builtin "object.__class__")=some true)
 (hm:mroIn K Cc (.type "object")=some true) (h:Q (some (.ref Cc)) { s with toks:=s.toks+1 }):wpAny (model prog w) A (getAttr? (.ref x) "__class__") Q E s:=by
 have X:=X₀.keeps F.keep
 have hfd:findObj K Cc (some od) "__class__"=some (.bind (.builtin "getset_descriptor.__get__") (.builtin "object.__class__")):=findObj_data (by obtain ⟨cd,hc,_⟩:=any_some hh;rw [hc];rfl) ha hn ht
 have tail:∀ (Q':Value→Shared→Prop) (E':Value→Shared→Prop) (s1:Shared),s1.heap=s.heap→Q' (.ref Cc) s1→wpAny (model prog w) A.in1 (call (.builtin "getset_descriptor.__get__") [.builtin "object.__class__",.ref x,.ref Cc]) Q' E' s1:=fun Q' E' s1 e q =>
  wpAny_call (class_get (s:=s1) (ox:=ox) (od:=some od) (e ▸ X) (e ▸ I) hm q)
 unfold getAttr? getAttrBy?
 refine wpAny_bind (wpAny_mkText (wpAny_bind (wpAny_attempt ?_)))
 refine bg fun V kG=>?_
 obtain ⟨hp,g,d,tk,os⟩:=s
 refine kG ?_
 clear kG
 have L0:=I.type (M:=model prog w)
 have L1:=looks_findIn (M:=model prog w) X (plainGet_of hg).1
 have L2:=looks_find (M:=model prog w) X I hfd
 have L3:=looks_findIn (M:=model prog w) X (plainGet_of hg).2
 unfold getAttrBy
 refine wpAny_holding (wpAny_bind (L0.at (wpAny_bind (L1.at ?_))))
 show wpAny _ _ (getAttrEveryday _ _ _) _ _ _
 refine wpAny_bind (wpAny_onRaise (wpAny_runValue (codeAny_builtin PySem.F.plainObj_entry_getattr_hooked ?_)))
 refine wpAny_bind (wpAny_pure (wpAny_bind (L0.at (wpAny_bind (L2.at (wpAny_bind (L3.at ?_)))))))
 show wpAny _ _ (holding [.builtin "object.__class__"] (call (.builtin "getset_descriptor.__get__") [.builtin "object.__class__",.ref x,.ref Cc]) >>= ret) _ _ _
 refine wpAny_bind (wpAny_holding (tail _ _ _ rfl ?_))
 refine wpAny_pure ?_
 show wpAny _ _ (handedOut (.ref Cc)) _ _ _
 rw [handedOut_of rfl]
 exact wpAny_pure (wpAny_pure h)
noncomputable def isiA (P:Params) (Cc Ct:Addr) (b:Bool):Bool:=match b with
 | true=>isIn (KK P) (.ref Cc) Ct
 | false=>(Cc != Ct) && (clsIn (KK P) Ct).isSome && typeIn (KK P) (.ref Ct) == some (.type "type") && instIn (KK P) (.ref Ct) (.type "type") == some true && subIn (KK P) (.ref Cc) (.ref Ct) == some false &&
  plainGet (KK P) Cc "__class__" && hasDictIn (KK P) Cc && (findIn (KK P) (.ref Cc) "__class__" == some (some (.builtin "object.__class__"))) && (specialIn (KK P) (.builtin "object.__class__") "__get__" == some (some (.builtin "getset_descriptor.__get__"))) &&
  (takesIn (KK P) (.builtin "object.__class__") == some true) && (mroIn (KK P) Cc (.type "object") == some true)
theorem clsIn_inv {K:Frag}{a:Addr}{cd:ClassData} (e:clsIn K a=some cd):∃ x y z,K.lookup a=some ⟨x,y,.cls cd,z⟩:=by
 unfold clsIn at e
 cases q:K.lookup a with
 | none=>rw [q] at e;cases e
 | some o =>
  rw [q] at e
  cases o with
  | mk x y dt z=>cases dt <;> first | (cases e;exact ⟨x,y,z,rfl⟩) | cases e
theorem qeq {x Cc Ct:Addr}{ox od:Obj}{dep:Int}{tk:Tok}{Q:Fin→Shared→Prop}{E:Value→Shared→Prop}{prog:Program}{w:World}{A:Around}{P:Params} (X:(KK P).In s.heap) (I:InstAt s.heap x ox Cc (some od)) (e:isiA P Cc Ct false=true)
 {h₀:Heap}{L:Addr}{m:Str→Option Value} (F:Fr h₀ L s.heap m) (X₀:(KK P).In h₀)
 (h:Q (.done (.ret (.bool false))) { s with toks:=s.toks+1 }):wpAny (model prog w) A (Builtin.«isinstance.nested» ⟨[.ref x,.ref Ct,.int dep tk],[]⟩) Q E s:=by
 unfold isiA at e
 simp only [Bool.and_eq_true] at e
 refine bg fun V kG=>?_
 obtain ⟨⟨⟨⟨⟨⟨⟨⟨⟨⟨e9,e0⟩,e1⟩,e2⟩,e3⟩,h1⟩,h2⟩,h3⟩,h4⟩,h5⟩,h6⟩:=e
 refine kG ?_
 clear kG
 have ca:∀ {Q:Option Value→Shared→Prop},Q (some (.ref Cc)) { s with toks:=s.toks+1 }→wpAny (model prog w) A (getAttr? (.ref x) "__class__") Q E s:=fun q=>class_attr? F X₀ I h1 h2 (beq_iff_eq.mp h3) (beq_iff_eq.mp h4) (beq_iff_eq.mp h5) (beq_iff_eq.mp h6) q
 refine bg fun V kG=>?_
 obtain ⟨hh,g,d,tt,os⟩:=s
 refine kG ?_
 clear kG
 have L0:=I.type (M:=model prog w)
 unfold Builtin.«isinstance.nested»
 refine wpAny_bind (L0.at ?_)
 rw [if_neg (fun q=>by have:=beq_iff_eq.mp q;injection this with this;rw [this] at e9;simp at e9)]
 have L1:=looks_typeIn (M:=model prog w) X (beq_iff_eq.mp e1)
 have L2:=looks_instIn (M:=model prog w) X (beq_iff_eq.mp e2)
 have L4:Looks (model prog w) hh (isSubtype (.ref Cc) (.ref Ct)) false:=looks_subIn X (beq_iff_eq.mp e3)
 have L3:Looks (model prog w) hh (isInstance (.ref x) (.ref Ct)) false:=L0.andThen L4
 refine wpAny_bind (L1.at ?_)
 rw [if_pos (by decide)]
 k_delta "plainIsInstance"
 unfold isType
 repeat lk
 cases q0:clsIn (KK P) Ct with
 | none=>rw [q0] at e0;cases e0
 | some c0 =>
  obtain ⟨x1,x2,x3,ho⟩:=clsIn_inv q0
  have hcd:clsIn (KK P) Cc≠none:=fun q=>by
   unfold hasDictIn at h2;rw [q] at h2;cases h2
  refine nd_load (X _ _ ho) (nd_pure (wpAny_pure ?_))
  refine wpAny_bind (L3.at ?_)
  rw [if_neg bft]
  refine wpAny_bind (ca ?_)
  have hty:Looks (model prog w) hh (isType (.ref Cc)) true:=by
   cases q:clsIn (KK P) Cc with
   | none=>exact absurd q hcd
   | some cd =>
    obtain ⟨x1,x2,x3,hoc⟩:=clsIn_inv q
    exact (Looks.ld (part:=some headPart) (X _ _ hoc)).andThen .now
  show wpAny _ _ (isType (.ref Cc) >>= fun b=>if (!b)=true then pure false else (rule "isinstance.by-__class__" >>= fun V=>isSubtype (.ref Cc) (.ref Ct))) _ _ _
  refine wpAny_bind (hty.at ?_)
  rw [if_neg (by decide)]
  refine wpAny_bind (wpAny_rule ?_)
  exact L4.at (wpAny_pure h)
theorem X_isi {x:Str}{p pos:Pos}{e1 e2:Expr}{a Cc dx Ct:Addr}{fs:List (Str×D)}{b:Bool} (O:Ok C n) (hx:X C σ (.Name x p) (.val (.builtin "isinstance"))) (h:Xs C σ [e1,e2] [.val (.ref a),.val (.ref Ct)]) (ha:(a,AO.inst Cc dx)∈σ.ms) (hd:(dx,AO.dict fs)∈σ.ms) (hi:isiA C.w.params Cc Ct b=true) :
 X C σ (.Call (.Name x p) [e1,e2] [] pos) (.bool b) :=
 qbt hx h fun imm vs hv s R Q E q=>by
  cases hv with | cons h1 h2=>cases h2 with | cons h2 h3 =>
   cases h3;cases h1;cases h2
   refine bg fun V kG=>?_
   obtain ⟨es,k,hF,I⟩:=R.inst ha hd
   refine kG ?_
   clear kG
   have R':=R
   refine bg fun V kG=>?_
   obtain ⟨m,os,kc,fs',RX⟩:=R'
   refine kG ?_
   clear kG
   have X:=O.kin.keeps RX.fr.keep
   cases b with
   | true=>exact isi_call X (fun M=>I.type) hi (fun e=>nomatch e) (q _ _ _ qa2 R (.bool _))
   | false =>
    exact call_isinstance (S:=fun V R s'=>(s'=s)∧R (.ok (.ret (.bool false))) { s' with toks:=s'.toks+1 })
     (fun V V V V V hs=>isinstance_outer (by obtain ⟨rfl,hs⟩:=hs;exact qeq X I hi RX.fr O.kin hs) (fun e=>nomatch e)) ⟨rfl,q _ _ _ qa2 (R.tok _) (.bool _)⟩
end
theorem UpdF.mk' {d:Addr}{o:Obj}:∀ {pre post:List Cell},(∀ p∈pre,p.1≠d)→(∀ p∈post,p.1≠d)→UpdF d o (pre++(d,o)::post) (fun o'=>pre++(d,o')::post)
 | [],_,_,h=>.head h
 | p::r,_,h1,h2=>.tail (h1 p (.head _)) (UpdF.mk' (fun q hq=>h1 q (.tail _ hq)) h2)
section
variable {C:Cx}{σ:AS}{n:Nat}{imm:List Cell}{s:Shared}
theorem Rel.updF {ρ:List Slot}{m1 m2:List (Addr×AO)}{a:Addr}{x:AO} (R:Rel C ⟨ρ,m1++(a,x)::m2⟩ imm s) :
 ∃ m news o g,Fr C.base C.env.locals s.heap m∧News C.base C.env.locals s.heap news∧s.heap.get? a=some o∧AOIs C.prog C.w imm o x∧UpdF a o news g ∧
  ∀ o' x' h' d tk,AOIs C.prog C.w imm o' x'→Fr C.base C.env.locals h' m→News C.base C.env.locals h' (g o')→Rel C ⟨ρ,m1++(a,x')::m2⟩ imm ⟨h',s.gens,d,tk,s.os⟩:=by
 refine Rel.elim R fun m os kc fs R=>?_
 refine bg fun V kG=>?_
 obtain ⟨o1,o2',rfl,mu1,mu2⟩:=Muts.split R.mu
 refine kG ?_
 clear kG
 cases mu2 with | @cons _ o _ o2 _ hx mu2 =>
 have hmem:(a,o)∈o1++(a,o)::o2:=mar _ (.head _)
 have nd:=R.nd
 have nd1:((o1++(a,o)::(o2++kc)).map (·.1)).Nodup:=by rw [← lca,← laa];exact nd
 rw [lma,lmc,List.nodup_append,List.nodup_cons] at nd1
 have hpre:∀ p∈o1,p.1≠a:=fun p hp e=>nd1.2.2 p.1 (List.mem_map_of_mem hp) a (.head _) e
 have hpost:∀ p∈o2++(kc++(imm++(fs++C.hid))),p.1≠a:=fun p hp e=>by
  rw [← laa] at hp
  rcases maj hp with h | h
  ·exact nd1.2.1.1 (List.mem_map.mpr ⟨p,h,e⟩)
  ·exact R.ap p h (by rw [e,laa,lma];exact mar _ (.head _))
 have e1:(o1++(a,o)::o2)++(kc++(imm++(fs++C.hid)))=o1++(a,o)::(o2++(kc++(imm++(fs++C.hid)))):=by simp
 refine ⟨m,_,o,_,R.fr,e1 ▸ R.nw,(R.mem_os hmem).1,hx,UpdF.mk' hpre hpost,fun o' x' h' d tk hx' F N=>?_⟩
 have e2:(o1++(a,o')::o2)++(kc++(imm++(fs++C.hid)))=o1++(a,o')::(o2++(kc++(imm++(fs++C.hid)))):=by simp
 have em:((o1++(a,o')::o2)++kc).map (·.1)=((o1++(a,o)::o2)++kc).map (·.1):=by simp
 exact ⟨m,o1++(a,o')::o2,kc,fs,{ R with
  fr:=F
  nw:=e2 ▸ N
  mu:=mu1.join (.cons hx' mu2)
  nd:=by rw [em];exact R.nd
  ap:=fun q hq=>by rw [em];exact R.ap q hq }⟩
theorem qen {a:Addr}{x:AO}{ms:List (Addr×AO)} (h:(a,x)∈ms):∃ m1 m2,ms=m1++(a,x)::m2:=List.append_of_mem h
theorem Cmp_inS {a:Addr}{S:List Str}{x:Str} (hm:(a,AO.set S)∈σ.ms) (hz:S.length<4000):Cmp C σ .In (.str x) (.val (.ref a)) (S.contains x):=.mk fun imm v1 v2 h1 h2 s R Q E q=>by
 cases h1;cases h2
 refine bg fun V kG=>?_
 obtain ⟨m1,m2,e⟩:=qen hm
 refine kG ?_
 clear kG
 have R':Rel C ⟨σ.ρ,m1++(a,AO.set S)::m2⟩ imm s:=by rw [← e];exact R
 refine bg fun V kG=>?_
 obtain ⟨m,news,o,g,F,N,ho,hx,U,fin⟩:=R'.updF
 refine kG ?_
 clear kG
 cases hx with
 | @set _ _ k hs hk =>
  exact kse_in (k:=x) N U hs (by unfold scanBound;lia) (by simp [PySem.strKind,Value.isStrOf]) rfl (q _ _ qa2 (R.tok _))
theorem Cmp_notinS {a:Addr}{S:List Str}{x:Str} (hm:(a,AO.set S)∈σ.ms) (hz:S.length<4000):Cmp C σ .NotIn (.str x) (.val (.ref a)) (!S.contains x):=.mk fun imm v1 v2 h1 h2 s R Q E q=>by
 cases h1;cases h2
 refine bg fun V kG=>?_
 obtain ⟨m1,m2,e⟩:=qen hm
 refine kG ?_
 clear kG
 have R':Rel C ⟨σ.ρ,m1++(a,AO.set S)::m2⟩ imm s:=by rw [← e];exact R
 refine bg fun V kG=>?_
 obtain ⟨m,news,o,g,F,N,ho,hx,U,fin⟩:=R'.updF
 refine kG ?_
 clear kG
 cases hx with
 | @set _ _ k hs hk =>
  exact kse_notin (k:=x) N U hs (by unfold scanBound;lia) (by simp [PySem.strKind,Value.isStrOf]) rfl (q _ _ qa2 (R.tok _))
theorem qh0 {o:Expr}{name:Str}{apos pos:Pos}{args:List Expr}{Q:Value→Shared→Prop}{E:Value→Shared→Prop}
 (hbase:attributeBase o name C.env (eval o C.env)=eval o C.env) (hline:(apos.endLine == pos.line)=true) (hst:(backTo pos (starEach args C.env)).any (·.1)=false) (hlen:args.length<30)
 (h:wpAny C.M C.A (eval o C.env) (fun ov s₁=>∀ pl,wpAny C.M C.A (getMethod ov name pl) (fun fx s₂=>wpAny C.M C.A (callWith pos fx.1 fx.2 (backTo pos (starEach args C.env)) []) Q E s₂) E s₁) E s) :
 wpAny C.M C.A (eval (.Call (.Attribute o name apos) args [] pos) C.env) Q E s:=by
 rw [arm_eval_Call,hbase]
 refine wpAny_bind (wpAny_mono h (fun ov s₁ h₁=>?_) fun V V e=>e)
 refine wpAny_bind (wpAny_standAt ?_)
 have hall:(backTo pos (starEach args C.env)).all (fun x=>!x.1)=true:=by
  rw [List.all_eq_true]
  intro x hx
  have:=List.any_eq_false.mp hst x hx
  simpa using this
 have hform:methodCallForm (args.length+([]:List Keyword).length) (backTo pos (starEach args C.env)) (backToKw pos (keywordEach [] C.env))=true:=by
  unfold methodCallForm
  rw [hall]
  simp only [List.length_nil,Nat.add_zero,Bool.true_and]
  show (true && decide (args.length+0<30))=true
  simp;lia
 have hpos:methodCallPos true o C.env apos pos=pure pos:=by unfold methodCallPos;simp [hline]
 unfold methodCall
 rw [hform]
 refine wpAny_bind (wpAny_holding (wpAny_mono (h₁ _) (fun fx s₂ h₂=>?_) fun V V e=>e))
 obtain ⟨f,first⟩:=fx
 exact wpAny_bind (wpAny_of_eq hpos h₂)
theorem XM_setAdd {ρ:List Slot}{m1 m2:List (Addr×AO)}{K:D→AS→Prop}{E:Value→Shared→Prop}{o e:Expr}{apos pos:Pos}{a:Addr}{S:List Str}{x:Str} (hbase:attributeBase o "add" C.env (eval o C.env)=eval o C.env) (hline:(apos.endLine == pos.line)=true)
 (ho:X C ⟨ρ,m1++(a,.set S)::m2⟩ o (.val (.ref a))) (he:Xs C ⟨ρ,m1++(a,.set S)::m2⟩ [e] [.str x]) (hz:S.length<4000) (k:K .none ⟨ρ,m1++(a,.set (x::S))::m2⟩) :
 XM C ⟨ρ,m1++(a,.set S)::m2⟩ (.Call (.Attribute o "add" apos) [e] [] pos) K E:=.mk fun imm s R=>by
 have hst:=qea he
 refine qh0 hbase hline (by rw [hst];rfl) (by simp) (ho.go imm s R _ _ fun ov i1 s1 hs1 R1 hov pl=>?_)
 cases hov
 refine bg fun V kG=>?_
 obtain ⟨m,news,ob,g,F,N,hob,hx,U,fin⟩:=R1.updF
 refine kG ?_
 clear kG
 cases hx with
 | @set _ _ nk hs hk =>
  refine kse_method N U hs (by unfold scanBound;lia) ?_
  refine Calls.callWith_builtin (by rw [hst];rfl) ?_
  have key:=he.run pos i1 s1 R1 (fun vs s2=>wpAny C.M C.A (call (.builtin "set.add") ([.ref a]++vs) []) (VPost C imm K) E s2) E fun vs i2 s2 hs2 R2 hvs=>by
   cases hvs with | cons h1 h2 =>
    cases h2;cases h1
    refine bg fun V kG=>?_
    obtain ⟨m,news,ob,g,F,N,hob,hx,U,fin⟩:=R2.updF
    refine kG ?_
    clear kG
    cases hx with
    | @set _ _ nk hs hk =>
     refine kse_add (k:=x) F N U hs (by unfold scanBound;lia) (by simp [PySem.strKind,Value.isStrOf]) rfl fun h' so' F' N' hs'=>?_
     refine ⟨.none,_,i2,qa0 hs1 hs2,fin so' (.set (x::S)) h' s2.drawn (s2.toks+1) (.set (n:=if S.contains x then nk else nk+1) ?_ ?_) F' N',.none,k⟩
     ·have:(fun k'=>S.contains k' || decide (k'=x))=fun k'=>(x::S).contains k':=by
       funext k'
       rw [List.contains_cons,Bool.or_comm]
       congr 1
      rw [← this];exact hs'
     ·simp only [List.length_cons];split <;> lia
  rw [hst] at key ⊢
  exact evalArgs_plain key
end
section
variable {C:Cx}{σ:AS}{n:Nat}{imm:List Cell}{s:Shared}
theorem qga {P:Params}:findCls (KK P) (.type "int") (.type "type") (PySem.Str.ofString "from_bytes")=some (.get (.builtin "classmethod_descriptor.__get__") (.builtin "int.from_bytes") .none (.type "int")):=by kernel_rfl
theorem X_fromBytes {o e1 e2:Expr}{apos pos:Pos}{ks:List Int} (O:Ok C n) (ho:X C σ o (.val (.type "int"))) (he:Xs C σ [e1,e2] [.bytes ks,.str "big"]) (hl:ks.length≤8)
 (hbase:attributeBase o "from_bytes" C.env (eval o C.env)=eval o C.env) (hline:(apos.endLine == pos.line)=true):X C σ (.Call (.Attribute o "from_bytes" apos) [e1,e2] [] pos) (.int (qa9 ks)):=.mk fun imm s R Q E q=>by
 have hpl:=he.plain pos
 refine qh0 hbase hline hpl (by simp) (ho.go imm s R _ _ fun ov i1 s1 hs1 R1 hov pl=>?_)
 cases hov
 refine Rel.elim R1 fun m os kc fs RX=>?_
 refine KFB.getm RX.fr RX.nw O.kin qga fun x h' F N hlt=>?_
 have R2:=RX.gain F N hlt (d:=s1.drawn) (tk:=s1.toks+1)
 refine KFB.callWith_fields hpl ?_
 have key:=he.run pos ((x,KFB.bound)::i1) _ R2 (fun vs s2=>KFB.StandsAt x s2.heap∧wpAny C.M C.A (call (.ref x) ([]++vs) []) Q E s2) E fun vs i2 s2 hs2 R3 hvs=>by
  have hst:=R3.at_imm (hs2 (.head _))
  refine DAll.two hvs fun V V h1 h2=>DIn.eS h2 fun V=>DIn.eB h1 fun b t eb=>?_
  skip
  refine ⟨hst,KFB.call_of (x:=x) hst (fun z=>KFB.tree_big (by rw [← KBw.ints_length];show (bI b).length≤8;rw [eb];exact hl) z) ?_⟩
  have:KFB.value (KBw.bInts b)=qa9 ks:=by rw [← eb];rfl
  rw [this]
  exact q _ i2 _ (fun V h=>hs2 (.tail _ (hs1 h))) (R3.tok _) (.int _ _)
 cases he with
 | cons g1 g2 g3 =>
  rw [g3] at key ⊢
  exact evalArgs_plain key
theorem XM_newSet {x:Str}{p pos:Pos}{K:D→AS→Prop}{E:Value→Shared→Prop}{ρ:List Slot}{ms:List (Addr×AO)} (hx:X C ⟨ρ,ms⟩ (.Name x p) (.val (.type "set"))) (k:∀ a,K (.val (.ref a)) ⟨ρ,(a,.set [])::ms⟩):XM C ⟨ρ,ms⟩ (.Call (.Name x p) [] [] pos) K E:=.mk fun imm s R=>by
 with_reducible refine Call_Name rfl (hx.goV imm s R _ _ fun i1 s1 hs1 R1=>?_)
 refine callWith_type0 ?_
 refine Rel.elim R1 fun m os kc fs RX=>?_
 refine kse_new RX.fr RX.nw fun D' h' led F N hlt hs0 hs1'=>?_
 have ne:∀ l:List Cell,l⊆os++(kc++(imm++(fs++C.hid)))→True:=fun V V=>trivial
 have hn:=N _ (.head _)
 have hD:∀ q:Cell,q∈os++(kc++(i1++(fs++C.hid)))→q.1≠D':=fun q hq e=>Nat.lt_irrefl _ (e ▸ hlt q hq)
 refine ⟨.val (.ref D'),⟨ρ,(D',.set [])::ms⟩,i1,hs1,⟨m,(D',_)::os,kc,fs,{ RX with
  fr:=F
  nw:=N
  mu:=.cons (.set hs1' (Nat.le_refl _)) RX.mu
  nd:=by
   rw [lca,lmc,List.nodup_cons]
   refine ⟨fun h=>?_,RX.nd⟩
   obtain ⟨q,hq,e⟩:=mmj h
   exact hD q (by rw [← laa];exact mal _ hq) e
  ap:=fun q hq h=>by
   rw [lca,lmc] at h
   rcases mcj h with h | h
   ·exact hD q (mar _ (mar _ hq)) h
   ·exact RX.ap q hq h }⟩,.val _,k D'⟩
end
noncomputable def qak:Code→Bool
 | .builtin i _=>Builtin.Bytes.decodersThatHold.contains i
 | _=>false
def qdo (Γ:PySem.Ctx):Prop:=qak Γ.code=false∧∀ q∈Γ.below,qak q.1=false
theorem qdo.enter {Γ:PySem.Ctx} (h:qdo Γ) {c:Code} (hc:qak c=false) (hd:Option Value) (p:Pos):qdo (Γ.enter c hd p) :=
 ⟨hc,fun q hq=>by
  rcases mcj hq with e | hq
  ·subst e;exact h.1
  ·exact h.2 q hq⟩
theorem qdo.goto {Γ:PySem.Ctx} (h:qdo Γ) {c:Code} (hc:qak c=false):qdo (Γ.goto c):=⟨hc,h.2⟩
def wpC {α:Type} (M:Model) (A:Around) (t:Sem α) (Q:α→Shared→Prop) (E:Value→Shared→Prop) (s:Shared):Prop:=∀ Γ p,Γ.In A→qdo Γ→Sem.wp M Γ t (fun a V s'=>Q a s') (fun e V s'=>E e s') p s
def qbe (M:Model) (A:Around) (c:Code) (R:Result→Shared→Prop) (s:Shared):Prop:=∀ Γ p,Γ.code=c→Γ.Below A→qdo Γ→wpCode M Γ R p s
section
variable {α β:Type}{M:Model}{A:Around}{E E':Value→Shared→Prop}{s:Shared}
theorem qap {t:Sem α}{Q:α→Shared→Prop} (h:wpAny M A t Q E s):wpC M A t Q E s:=fun Γ p a V=>h Γ p a
theorem codeC_of {c:Code}{R:Result→Shared→Prop} (h:codeAny M A c R s):qbe M A c R s:=fun Γ p a b V=>h Γ p a b
theorem qa8 {a:α}{Q:α→Shared→Prop} (h:Q a s):wpC M A (pure a) Q E s:=fun V V V V=>h
theorem qa4 {t:Sem α}{Q Q':α→Shared→Prop} (h:wpC M A t Q E s) (hQ:∀ a s,Q a s→Q' a s) (hE:∀ e s,E e s→E' e s):wpC M A t Q' E' s :=
 fun Γ p a b=>Sem.wp_mono M Γ t (fun a V s=>hQ a s) (fun e V s=>hE e s) p s (h Γ p a b)
theorem qae {t:Sem α}{f:α→Sem β}{Q:β→Shared→Prop} (h:wpC M A t (fun a s'=>wpC M A (f a) Q E s') E s):wpC M A (t >>= f) Q E s:=fun Γ p a b=>by
 rw [Sem.wp_bind']
 exact Sem.wp_mono M Γ t (fun x p' s' h'=>h' Γ p' a b) (fun V V V h'=>h') p s (h Γ p a b)
theorem qa1 {t:Sem α}{f:α→Sem β}{Q:β→Shared→Prop} (h:wpAny M A t (fun a s'=>wpC M A (f a) Q E s') E s):wpC M A (t >>= f) Q E s:=qae (qap h)
theorem qd6 {t:Sem α}{k:Value→Sem Unit}{Q:α→Shared→Prop} (h:wpC M A t Q (fun e s'=>wpAny M A (k e) (fun V s''=>E e s'') E s') s):wpC M A (t.onRaise k) Q E s:=fun Γ p a b=>by
 rw [Sem.wp_onRaise]
 exact Sem.wp_mono M Γ t (fun V V V h'=>h') (fun e p' s' h'=>h' Γ p' a) p s (h Γ p a b)
theorem qe4 {t:Sem α}{Q:Except Value α→Shared→Prop} (h:wpC M A t (fun a=>Q (.ok a)) (fun e=>Q (.error e)) s):wpC M A t.attempt Q E s:=fun Γ p a b=>by rw [Sem.wp_attempt];exact h Γ p a b
theorem qay {vs:List Value}{t:Sem α}{Q:α→Shared→Prop} (h:wpC M A t Q E s):wpC M A (holding vs t) Q E s:=fun Γ p a b=>by rw [Sem.wp_holding];exact h Γ p a b
theorem wpC_run {c:Code}{h:Option Value}{Q:Flow→Shared→Prop} (hc:qbe M (A.mark h) c (fun r s'=>match r with | .ok f=>Q f s' | .error e=>E e s') s) (hd:qak c=false) (hnb:h≠some byPass:=by walk_at "n"):wpC M A (run c h) Q E s :=
 fun Γ p a b=>by rw [Sem.wp_run];exact hc _ p rfl (a.enter c h p hnb) (b.enter hd h p)
theorem qcx {f:Value}{pos:List Value}{kw:List (Str×Value)}{Q:Value→Shared→Prop} (hc:qbe M A (.call f ⟨pos,kw⟩) (fun r s'=>match r with | .ok (.ret v)=>Q v s' | .ok _=>False | .error e=>E e s') s):wpC M A (call f pos kw) Q E s :=
 fun Γ p a b=>by
  show Sem.wp M Γ (runValue (.call f ⟨pos,kw⟩)) _ _ p s
  rw [Sem.wp_runValue]
  exact hc _ p rfl (a.enter _ none p (by intro x;cases x)) (b.enter rfl none p)
theorem qag {c:Code}{R:Result→Shared→Prop} (h:wpC M (A.under c) (M.den c) (fun fin s'=>match fin with | .done f=>R (.ok f) s' | .again c'=>c'.quiet=true∧qak c'=false∧qbe M A c' R s') (fun e s'=>R (.error e) s') s):qbe M A c R s:=fun Γ p hc hΓ b=>by
 rw [wpCode_iff_wp,hc]
 refine Sem.wp_mono M Γ _ (fun fin p' s' h'=>?_) (fun V V V h'=>h') p s (h Γ p (hc ▸ hΓ.in) b)
 cases fin with
 | done f=>exact h'
 | again c'=>exact ⟨h'.1,h'.2.2 (Γ.goto c') p' rfl (hΓ.goto c') (b.goto h'.2.1)⟩
theorem qfm {c:Code}{R R':Result→Shared→Prop} (h:qbe M A c R s) (k:∀ r s,R r s→R' r s):qbe M A c R' s:=fun Γ p a b d=>by
 obtain ⟨r,s',h1,h2⟩:=h Γ p a b d
 exact ⟨r,s',h1,k _ _ h2⟩
theorem qfn {c:Code}{R:Result→Shared→Prop} (hq:c.quiet=true) (hd:qak c=false) (I:Nat→Shared→Prop)
 (turn:∀ n s,I n s→wpC M (A.under c) (M.den c) (fun fin s'=>match fin with
  | .done f=>R (.ok f) s'
  | .again c'=>(c'=c∧∃ m,m<n∧I m s')∨(c'.quiet=true∧qak c'=false∧qbe M A c' R s')) (fun e s'=>R (.error e) s') s)
 (n:Nat) (h:I n s):qbe M A c R s:=by
 induction n using Nat.strongRecOn generalizing s with
 | ind n ih =>
  refine qag (qa4 (turn n s h) (fun fin s' hf=>?_) fun V V h'=>h')
  cases fin with
  | done f=>exact hf
  | again c' =>
   rcases hf with ⟨rfl,m,hm,hI⟩ | hf
   ·exact ⟨hq,hd,ih m hm hI⟩
   ·exact hf
theorem qax {st:Stmt}{rest:List Stmt}{env:Env}{Q:Flow→Shared→Prop} (h:wpC M A (exec st env) (fun f s'=>match f with | .next=>wpC M A (execs rest env) Q E s' | f=>Q f s') E s):wpC M A (execs (st::rest) env) Q E s:=by
 rw [execs_cons]
 refine qae (qa4 h (fun f s' h'=>?_) fun V V x=>x)
 cases f with
 | next=>exact h'
 | brk=>exact qa8 h'
 | cont=>exact qa8 h'
 | ret v=>exact qa8 h'
end
section
variable {prog:Program}{w:World}{A:Around}{s:Shared}{R:Result→Shared→Prop}
theorem codeC_func {body:List Stmt}{env:Env} (h:wpC (model prog w) (A.deeper env) (execs body env) (fun f s'=>R (.ok (.ret (match f with | .ret v=>v | _=>.none))) s')
 (fun e s'=>wpAny (model prog w) (A.deeper env) (leaving env e) (fun V s''=>R (.error e) s'') (fun e' s''=>R (.error e') s'') s') s):qbe (model prog w) A (.func body env) R s:=by
 refine qag ?_
 show wpC _ (A.deeper env) (do point;match ← (execs body env).onRaise (leaving env) with | .ret v=>ret v | _=>ret .none) _ _ s
 refine qa1 (wpAny_point (qae ?_))
 intro Γ p a b
 rw [Sem.wp_onRaise]
 refine Sem.wp_mono _ Γ _ (fun f p' s' h'=>?_) (fun e p' s' h'=>?_) p s (h Γ p a b)
 ·cases f <;> exact qa8 h'
 ·exact h' Γ p' a
theorem codeC_call {a:Addr}{args:Args}{o:Obj}{fd:FuncData}{body:List Stmt} (hroom:A.depth<recursionLimit) (ho:s.heap.get? a=some o) (hd':o.data=.func fd) (hco:fd.scope.isCoroutine=false) (hgen:fd.scope.isGenerator=false) (hbody:fd.body=.stmts body) (hcd:s.heap.CodeRec fd.code fd.qualname)
 (h:wpAny (model prog w) A.in1 (bindArgs fd args) (fun binds s₁=>wpAny (model prog w) A.in1 (newFunctionEnv fd.scope fd.globals fd.closure binds (fd.qualname++".<locals>.") (some a) fd.code none fd.builtins)
  (fun env s₂=>s₂.heap.NoLimit∧qbe (model prog w) A (.func body env) R s₂) (fun e s'=>R (.error e) s') s₁) (fun e s'=>R (.error e) s') s) :
 qbe (model prog w) A (.call (.ref a) args) R s:=by
 refine qag ?_
 show wpC _ A.in1 (callAny (.ref a) args) _ _ s
 refine qa1 (wpAny_load ho ?_)
 obtain ⟨c,oc,vs,tq,hc,hoc,hdc,hq⟩:=hcd
 rw [hd']
 show wpC _ _ (callFunction a fd args) _ _ _
 unfold callFunction
 rw [hco,hgen,hbody,hc]
 rw [hc] at h
 refine qa1 (wpAny_field hoc hdc hq ?_)
 refine qa1 (wpAny_pure ?_)
 refine qa1 (wpAny_mono h (fun binds s₁ h₁=>?_) fun V V x=>x)
 refine qa1 (wpAny_mono h₁ (fun env s₂ h₂=>?_) fun V V x=>x)
 refine qa1 (wpAny_enterFrame h₂.1 hroom ?_)
 exact qa8 ⟨rfl,rfl,h₂.2⟩
end
namespace FBA
theorem owner:Manifest.owners.lookup (String.ofList ['y','a','r','r','a','e','t','y','b'].reverse)=some Manifest.sig_bytearray:=by kernel_rfl
theorem slot_iadd:PySem.Slot "bytearray" "__iadd__" "bytearray.__iadd__" :=
 .of (owner:="bytearray") (n:="__iadd__") (by rw [typeLookup_type,builtinLookup_eq_fast];kernel_rfl) (by decide +kernel) (by decide +kernel) (by decide +kernel)
  (by first | exact .inl (by decide +kernel) | exact .inr (by decide +kernel)) (by rw [isSubtype_type];kernel_rfl)
theorem entry_iadd:entryFor table "bytearray.__iadd__"=some Builtin.«bytearray.__iadd__»:=entryFor_of_tree (by kernel_rfl)
theorem args_iadd (a b:Value):argsOk "bytearray.__iadd__" ⟨[a,b],[]⟩:=by
 unfold argsOk;rw [signature?_of (id:="bytearray.__iadd__") (n:=['_','_','d','d','a','i','_','_']) (o:=['y','a','r','r','a','e','t','y','b']) (by kernel_rfl) owner];kernel_rfl
theorem slot_len:PySem.Slot "bytearray" "__len__" "bytearray.__len__" :=
 .of (owner:="bytearray") (n:="__len__") (by rw [typeLookup_type,builtinLookup_eq_fast];kernel_rfl) (by decide +kernel) (by decide +kernel) (by decide +kernel)
  (by first | exact .inl (by decide +kernel) | exact .inr (by decide +kernel)) (by rw [isSubtype_type];kernel_rfl)
theorem entry_len:entryFor table "bytearray.__len__"=some Builtin.«bytearray.__len__»:=entryFor_of_tree (by kernel_rfl)
theorem args_len (a:Value):argsOk "bytearray.__len__" ⟨[a],[]⟩:=by
 unfold argsOk;rw [signature?_of (id:="bytearray.__len__") (n:=['_','_','n','e','l','_','_']) (o:=['y','a','r','r','a','e','t','y','b']) (by kernel_rfl) owner];kernel_rfl
theorem slot_getitem:PySem.Slot "bytearray" "__getitem__" "bytearray.__getitem__" :=
 .of (owner:="bytearray") (n:="__getitem__") (by rw [typeLookup_type,builtinLookup_eq_fast];kernel_rfl) (by decide +kernel) (by decide +kernel) (by decide +kernel)
  (by first | exact .inl (by decide +kernel) | exact .inr (by decide +kernel)) (by rw [isSubtype_type];kernel_rfl)
theorem entry_getitem:entryFor table "bytearray.__getitem__"=some Builtin.«bytearray.__getitem__»:=entryFor_of_tree (by kernel_rfl)
theorem args_getitem (a b:Value):argsOk "bytearray.__getitem__" ⟨[a,b],[]⟩:=by
 unfold argsOk;rw [signature?_of (id:="bytearray.__getitem__") (n:=['_','_','m','e','t','i','t','e','g','_','_']) (o:=['y','a','r','r','a','e','t','y','b']) (by kernel_rfl) owner];kernel_rfl
theorem slot_delitem:PySem.Slot "bytearray" "__delitem__" "bytearray.__delitem__" :=
 .of (owner:="bytearray") (n:="__delitem__") (by rw [typeLookup_type,builtinLookup_eq_fast];kernel_rfl) (by decide +kernel) (by decide +kernel) (by decide +kernel)
  (by first | exact .inl (by decide +kernel) | exact .inr (by decide +kernel)) (by rw [isSubtype_type];kernel_rfl)
theorem entry_delitem:entryFor table "bytearray.__delitem__"=some Builtin.«bytearray.__delitem__»:=entryFor_of_tree (by kernel_rfl)
theorem args_delitem (a b:Value):argsOk "bytearray.__delitem__" ⟨[a,b],[]⟩:=by
 unfold argsOk;rw [signature?_of (id:="bytearray.__delitem__") (n:=['_','_','m','e','t','i','l','e','d','_','_']) (o:=['y','a','r','r','a','e','t','y','b']) (by kernel_rfl) owner];kernel_rfl
theorem slot_init:PySem.Slot "bytearray" "__init__" "bytearray.__init__" :=
 .of (owner:="bytearray") (n:="__init__") (by rw [typeLookup_type,builtinLookup_eq_fast];kernel_rfl) (by decide +kernel) (by decide +kernel) (by decide +kernel)
  (by first | exact .inl (by decide +kernel) | exact .inr (by decide +kernel)) (by rw [isSubtype_type];kernel_rfl)
theorem entry_init:entryFor table "bytearray.__init__"=some Builtin.«bytearray.__init__»:=entryFor_of_tree (by kernel_rfl)
theorem args_init (a:Value):argsOk "bytearray.__init__" ⟨[a],[]⟩:=by
 unfold argsOk;rw [signature?_of (id:="bytearray.__init__") (n:=['_','_','t','i','n','i','_','_']) (o:=['y','a','r','r','a','e','t','y','b']) (by kernel_rfl) owner];kernel_rfl
theorem slot_buffer:PySem.Slot "bytearray" "__buffer__" "bytearray.__buffer__" :=
 .of (owner:="bytearray") (n:="__buffer__") (by rw [typeLookup_type,builtinLookup_eq_fast];kernel_rfl) (by decide +kernel) (by decide +kernel) (by decide +kernel)
  (by first | exact .inl (by decide +kernel) | exact .inr (by decide +kernel)) (by rw [isSubtype_type];kernel_rfl)
end FBA
section
open Builtin in
set_option tactic.hygienic true in
theorem exp_one (self:Value):∀ (x:Code×Pos),qak x.1=false→x.1.isGuard=false→((fun
 | (.builtin "bytearray.__contains__" ⟨v::_,_⟩,_) | (.builtin "bytearray.__mod__" ⟨v::_,_⟩,_)
 | (.builtin "bytearray.__rmod__" ⟨_::v::_,_⟩,_) | (.builtin "_struct.pack_into.held" ⟨v::_,_⟩,_)=>Bytes.sameRef v self
 | (.builtin "bytearray.find.held" ⟨_::_::held,_⟩,_)=>held.any (Bytes.sameRef self)
 | (.builtin i ⟨v::_,_⟩,_)=>Bytes.sameRef v self && Bytes.decodersThatHold.contains i
 | _=>false:Code×Pos→Bool) x)=false:=by
 rintro ⟨c,p⟩ h1 h2
 cases c
 case builtin i args =>
  obtain ⟨pos,kw⟩:=args
  have g:∀ j:String,guardIds.contains j=true→i≠j:=fun j hj e=>by
   have h2:guardIds.contains i=false:=h2
   rw [e,hj] at h2;cases h2
  have h3:Bytes.decodersThatHold.contains i=false:=h1
  delta exp_one.match_1
  refine (dif_neg (g "bytearray.__contains__" (by decide +kernel))).trans ?_
  refine (dif_neg (g "bytearray.__mod__" (by decide +kernel))).trans ?_
  refine (dif_neg (g "bytearray.__rmod__" (by decide +kernel))).trans ?_
  refine (dif_neg (g "_struct.pack_into.held" (by decide +kernel))).trans ?_
  refine (dif_neg (g "bytearray.find.held" (by decide +kernel))).trans ?_
  cases pos
  ·rfl
  ·show (_ && Bytes.decodersThatHold.contains i)=false
   rw [h3,Bool.and_false]
 all_goals rfl
open Builtin in
theorem qdv {M:Model}{A:Around}{s:Shared}{self:Value}{Q:Bool→Shared→Prop}{E:Value→Shared→Prop} (hg:A.guards=some []) (q:Q false s):wpC M A (Bytes.exported self) Q E s:=fun Γ p a b=>by
 have gs:guardsOf ((Γ.code,p)::Γ.below)=[]:=by rw [guardsOf_cons];exact a.2.2.2.1 [] hg
 have cl:∀ x∈((Γ.code,p)::Γ.below),qak x.1=false∧x.1.isGuard=false:=fun x hx=>by
  refine ⟨?_,?_⟩
  ·rcases mcj hx with e | hx
   ·subst e;exact b.1
   ·exact b.2 x hx
  ·cases hi:x.1.isGuard with
   | false=>rfl
   | true =>
    have:x.1∈guardsOf ((Γ.code,p)::Γ.below):=List.mem_filter.mpr ⟨List.mem_map_of_mem hx,hi⟩
    rw [gs] at this;cases this
 have key:(((Γ.code,p)::Γ.below).any fun
  | (.builtin "bytearray.__contains__" ⟨v::_,_⟩,_) | (.builtin "bytearray.__mod__" ⟨v::_,_⟩,_)
  | (.builtin "bytearray.__rmod__" ⟨_::v::_,_⟩,_) | (.builtin "_struct.pack_into.held" ⟨v::_,_⟩,_)=>Bytes.sameRef v self
  | (.builtin "bytearray.find.held" ⟨_::_::held,_⟩,_)=>held.any (Bytes.sameRef self)
  | (.builtin i ⟨v::_,_⟩,_)=>Bytes.sameRef v self && Bytes.decodersThatHold.contains i
  | _=>false)=false:=by
  rw [List.any_eq_false]
  intro x hx
  obtain ⟨h1,h2⟩:=cl x hx
  exact Bool.eq_false_iff.mp (exp_one self x h1 h2)
 exact Eq.mpr (congrArg (fun b=>Q b s) key) q
end
section
variable {prog:Program}{w:World}{A:Around}{E:Value→Shared→Prop}{s:Shared}
theorem qbg {T:String}{name:Str}{id:String}{b:Builtin}{self:Value}{rest:List Value}{Q:Value→Shared→Prop} (h:PySem.Slot T name id) (hT:s.TypeIs self T) (hb:entryFor table id=some b) (hd:qak (.builtin id ⟨self::rest,[]⟩)=false)
 (hc:wpC (model prog w) A.in1 (b ⟨self::rest,[]⟩) (fun fin s'=>∃ v,fin=.done (.ret v)∧Q v s') E s) (ha:argsOk id ⟨self::rest,[]⟩):wpC (model prog w) A (call (.builtin id) (self::rest)) Q E s:=by
 refine qcx (qag ?_)
 show wpC _ A.in1 (do checkBuiltinCall id ⟨self::rest,[]⟩;again (.builtin id ⟨self::rest,[]⟩)) _ _ s
 refine qa1 (h.check _ _ _ _ _ _ _ _ hT ha ?_)
 refine qa8 ⟨plainId_quiet h.plain _,hd,qag ?_⟩
 show wpC _ _ (match entryFor table id with | some b=>b ⟨self::rest,[]⟩ | none=>unsupported ((withoutEnding? id "#data").getD id)) _ _ s
 rw [hb,Around.under_plainId h.plain _]
 exact qa4 hc (fun fin s' ⟨v,e,hv⟩=>by subst e;exact hv) fun V V x=>x
open Builtin in
theorem qcn {a:Addr}{b:Array UInt8}{Q:Unit→Shared→Prop} (hg:A.guards=some []) (ho:s.heap.get? a=some (baO b)) (q:Q () s):wpC (model prog w) A (Bytes.checkResize (.ref a)) Q E s:=by
 unfold Bytes.checkResize
 refine qae (qae (qdv hg ?_))
 refine qap ?_
 show wpAny _ _ (Bytes.exportsOf (.ref a) >>= fun n=>pure (decide (n > 0))) _ _ _
 refine wpAny_bind ?_
 show wpAny _ _ (load a >>= fun o=>_) _ _ _
 refine wpAny_bind (wpAny_load ho ?_)
 refine wpAny_pure (wpAny_pure ?_)
 show wpC _ _ (if decide ((0:Nat) > 0)=true then _ else _) _ _ _
 rw [if_neg (by decide)]
 exact qa8 q
open Builtin in
theorem qb8 {a:Addr}{b:Array UInt8}{Q:Array UInt8→Shared→Prop} (ho:s.heap.get? a=some (baO b)) (q:Q b s):wpAny (model prog w) A (Bytes.payload (.ref a)) Q E s:=by
 unfold Bytes.payload
 refine wpAny_bind (m:=Bytes.payload? (.ref a)) ?_
 show wpAny _ _ (load a >>= fun o=>_) _ _ _
 refine wpAny_bind (wpAny_load ho ?_)
 exact wpAny_pure (wpAny_pure q)
theorem qd7 {a:Addr}{b:Array UInt8}{f:Array UInt8→Array UInt8}{Q:Unit→Shared→Prop} (ho:s.heap.get? a=some (baO b)) (hz:(f b).size≤sizeLine)
 (q:∀ h',h'.get? a=some (baO (f b))→Heap.SameBut a s.heap h'→Q () { s with heap:=h' }):wpAny (model prog w) A (updateBytearray a f) Q E s:=by
 unfold updateBytearray
 refine wpAny_bind (wpAny_load ho ?_)
 refine wpAny_bind (wpAny_update ho ?_)
 have e:Obj.mapBytearray f (baO b)=baO (f b):=rfl
 have hg:(s.heap.update a (Obj.mapBytearray f)).get? a=some (baO (f b)):=by rw [Heap.get?_update_self _ ho (by rw [e];rfl),e]
 refine wpAny_lookBehind hg ?_ (q _ hg (Heap.SameBut.update ..))
 show (if (f b).size > sizeLine then some "bytearray:memory" else none)=none
 exact if_neg (Nat.not_lt.mpr hz)
end
namespace FBA
theorem fills_add_barr:fillsNumberSlot (.type "bytearray") "add"=pure false:=by
 simp only [fillsNumberSlot,typeLookup_type,builtinLookup_eq_fast];kernel_rfl
theorem fills_add_bytes:fillsNumberSlot (.type "bytes") "add"=pure false:=by
 simp only [fillsNumberSlot,typeLookup_type,builtinLookup_eq_fast];kernel_rfl
theorem fillsI_add_barr:fillsInplaceSlot (.type "bytearray") "add" (Operator.Add == .Add)=pure false:=by
 show (typeLookup (.type "bytearray") (dunderI "add") >>= fun fi=>pure (fi.isSome && !isSeqSlot fi))=pure false
 rw [typeLookup_type,builtinLookup_eq_fast];kernel_rfl
theorem seq_iadd:seqSlot? (.type "bytearray") (dunderI "add")=pure (some (.builtin "bytearray.__iadd__")):=by
 simp only [seqSlot?,typeLookup_type,builtinLookup_eq_fast];kernel_rfl
end FBA
section
variable {prog:Program}{w:World}{A:Around}{E:Value→Shared→Prop}{s:Shared}
open Builtin in
theorem qfv {a:Addr}{b c:Array UInt8}{t:Tok}{P:Fin→Shared→Prop} (hg:A.guards=some []) (ho:s.heap.get? a=some (baO b)) (hz:(b++c).size≤16777216)
 (q:∀ h',h'.get? a=some (baO (b++c))→Heap.SameBut a s.heap h'→P (.done (.ret (.ref a))) { s with heap:=h' }) :
 wpC (model prog w) A (Builtin.«bytearray.__iadd__» ⟨[.ref a,.bytes c t],[]⟩) P E s:=by
 unfold Builtin.«bytearray.__iadd__»
 refine qa1 (t:=slotArgs "__iadd__" 1 _) (wpAny_pure ?_)
 show wpC _ _ (Bytes.takeBufferQuiet? "bytearray.__iadd__" (.bytes c t) 0 >>= fun r=>_) _ _ _
 rw [FJ.takeQ_eq,pure_bind]
 show wpC _ _ (Bytes.thenGiveBack none _) _ _ _
 unfold Bytes.thenGiveBack
 have tail:wpC (model prog w) A (do
  let __do_lift ← Bytes.payload (.ref a)
  if Bytes.tooLong (__do_lift.size+c.size)=true then do
   (unsupported "bytearray.__iadd__:memory":Sem Unit)
   Bytes.write (.ref a) (·++c)
   ret (.ref a)
  else do
   Bytes.write (.ref a) (·++c)
   ret (.ref a)) P E s:=by
  refine qap (wpAny_bind (qb8 ho ?_))
  have hn:¬ Bytes.tooLong (b.size+c.size)=true:=by
   have:b.size+c.size≤sizeLine:=by rw [sizeLine_eq,← Array.size_append];exact hz
   unfold Bytes.tooLong;rw [decide_eq_true_iff];lia
  rw [if_neg hn]
  refine wpAny_bind (m:=updateBytearray a (·++c)) (qd7 ho (by rw [sizeLine_eq];exact hz) fun h' g sb=>?_)
  exact wpAny_pure (q h' g sb)
 show wpC _ _ (if (!c.isEmpty)=true then _ else _) _ _ _
 by_cases hc:(!c.isEmpty)=true
 ·rw [if_pos hc]
  show wpC _ _ (if Bytes.sameRef (.ref a) (.bytes c t)=true then _ else _) _ _ _
  rw [if_neg (show ¬ Bytes.sameRef (.ref a) (.bytes c t)=true from bft)]
  exact qae (qcn hg ho tail)
 ·rw [if_neg hc];exact tail
theorem qdy {a:Addr}{b c:Array UInt8}{t:Tok}{Q:Value→Shared→Prop} (hg:A.guards=some []) (ho:s.heap.get? a=some (baO b)) (hz:(b++c).size≤16777216)
 (q:∀ h',h'.get? a=some (baO (b++c))→Heap.SameBut a s.heap h'→Q (.ref a) { s with heap:=h' }):wpC (model prog w) A (inplaceOp .Add (.ref a) (.bytes c t)) Q E s:=by
 have hT:s.TypeIs (.ref a) "bytearray":=⟨_,ho,rfl⟩
 have hU:s.TypeIs (.bytes c t) "bytes":=rfl
 unfold inplaceOp
 refine qay ?_
 refine qa1 (wpAny_typeOf hT ?_)
 refine qa1 (wpAny_of_eq FBA.fillsI_add_barr ?_)
 show wpC _ _ (if false=true then _ else _) Q E s
 rw [if_neg bft]
 refine qa1 (t:=binaryOp1 "add" _ _) ?_
 ·show wpAny _ _ (typeOf _ >>= fun V=>_) _ _ _
  refine wpAny_bind (wpAny_typeOf hT (wpAny_bind (wpAny_typeOf hU (wpAny_bind (wpAny_of_eq FBA.fills_add_barr ?_)))))
  refine wpAny_bind (wpAny_of_eq FBA.fills_add_bytes (wpAny_of_eq (a:=none) rfl ?_))
  refine qa1 (wpAny_of_eq FBA.seq_iadd ?_)
  refine qa1 (wpAny_rule ?_)
  refine qbg FBA.slot_iadd hT FBA.entry_iadd (show Builtin.Bytes.decodersThatHold.contains "bytearray.__iadd__"=false by decide +kernel) ?_ (FBA.args_iadd _ _)
  exact qfv hg ho hz fun h' g sb=>⟨_,rfl,q h' g sb⟩
end
section
variable {prog:Program}{w:World}{A:Around}{E:Value→Shared→Prop}{s:Shared}
open Builtin KBy KBc in
theorem qc3 {a:Addr}{l u:Value}{lo hi:Option Int}{Q:Value×Value×Value→Shared→Prop} (hs:s.heap.IsSliceOf a l u .none) (hl:IsPart l lo) (hu:IsPart u hi) (q:Q (rawPart lo,rawPart hi,.none) s) :
 wpAny (model prog w) A (Bytes.sliceParts (.ref a)) Q E s:=by
 obtain ⟨o,ho,hc,hd⟩:=hs
 unfold Bytes.sliceParts
 refine wpAny_bind (wpAny_field (x:=.none) ho hd rfl ?_)
 kby_none
 refine wpAny_ite (KBy.ite_no (show ¬ ((Value.none == rawInt 0)=true) from bft) ?_)
 refine wpAny_bind (wpAny_field (x:=l) ho hd rfl ?_)
 cases hl <;> cases hu <;> (first
  | (kby_none;(refine wpAny_bind (wpAny_field (x:=.none) ho hd rfl ?_));kby_none)
  | (kby_none;(refine wpAny_bind (wpAny_field (x:=.int _ _) ho hd rfl ?_));kby_int)
  | (kby_int;(refine wpAny_bind (wpAny_field (x:=.none) ho hd rfl ?_));kby_none)
  | (kby_int;(refine wpAny_bind (wpAny_field (x:=.int _ _) ho hd rfl ?_));kby_int)) <;> exact wpAny_pure q
noncomputable def kept (b:Array UInt8) (start stop step:Int):Array UInt8:=(b.toList.zipIdx.filterMap fun (x:UInt8×Nat)=>if Builtin.Bytes.selects start stop step x.2 then none else some x.1).toArray
theorem kept_size (b:Array UInt8) (i j k:Int):(kept b i j k).size≤b.size:=by
 unfold kept
 rw [List.size_toArray]
 refine Nat.le_trans (List.length_filterMap_le _ _) ?_
 simp
theorem kept_pre (b:Array UInt8) (k:Nat):(kept b 0 k 1).toList=b.toList.drop k:=by
 unfold kept
 rw [List.toList_toArray]
 have key:∀ (l:List UInt8) (n:Nat),((l.zipIdx n).filterMap fun (x:UInt8×Nat)=>if Builtin.Bytes.selects 0 k 1 x.2 then none else some x.1)=l.drop (k - n):=by
  intro l
  induction l with
  | nil=>intro n;simp
  | cons x l ih =>
   intro n
   rw [List.zipIdx_cons,List.filterMap_cons]
   have hs:Builtin.Bytes.selects 0 (k:Int) 1 n=decide (n<k):=by
    unfold Builtin.Bytes.selects
    rw [if_pos (by decide)]
    have h1:((n:Int) - 0) % 1=0:=Int.emod_one _
    simp
   by_cases h:n<k
   ·rw [ih]
    simp only [hs,h,decide_true,if_true]
    have e:k - n=(k - (n+1))+1:=(Nat.sub_add_cancel (Nat.sub_pos_of_lt h)).symm
    rw [e,List.drop_succ_cons]
   ·rw [ih]
    simp only [hs,h,decide_false,if_false,Bool.false_eq_true]
    have e:k - n=0:=Nat.sub_eq_zero_of_le (Nat.not_lt.mp h)
    have e':k - (n+1)=0:=Nat.sub_eq_zero_of_le (Nat.le_succ_of_le (Nat.not_lt.mp h))
    rw [e,e'];simp
 simpa using key b.toList 0
open Builtin in
theorem qdz {a sl:Addr}{l u:Value}{lo hi:Option Int}{b:Array UInt8}{P:Fin→Shared→Prop} (hg:A.guards=some []) (ho:s.heap.get? a=some (baO b)) (hs:s.heap.IsSliceOf sl l u .none) (hl:IsPart l lo) (hu:IsPart u hi) (hz:b.size≤16777216)
 (q:∀ h',h'.get? a=some (baO (kept b (sliceBounds lo hi none b.size).1 (sliceBounds lo hi none b.size).2.1 (sliceBounds lo hi none b.size).2.2))→Heap.SameBut a s.heap h'→P (.done (.ret .none)) { s with heap:=h' }) :
 wpC (model prog w) A (Builtin.«bytearray.__delitem__» ⟨[.ref a,.ref sl],[]⟩) P E s:=by
 have hT:s.TypeIs (.ref sl) "slice":=by obtain ⟨o,ho,hc,_⟩:=id hs;exact ⟨o,ho,hc⟩
 unfold Builtin.«bytearray.__delitem__»
 refine qa1 (t:=slotArgs "__delitem__" 1 _) (wpAny_pure ?_)
 show wpC _ _ (Bytes.subscript? (.ref sl) >>= fun r=>_) _ _ s
 refine qa1 ?_
 unfold Bytes.subscript?
 refine wpAny_bind (wpAny_specialOf hT slice_no_index (wpAny_pure ?_))
 refine qa1 (wpAny_typeOf hT ?_)
 show wpC _ _ (Bytes.sliceParts (.ref sl) >>= fun r=>_) _ _ s
 refine qa1 (qc3 hs hl hu ?_)
 refine qa1 (qb8 ho ?_)
 have go:wpAny (model prog w) A (sliceIndices (rawPart lo) (rawPart hi) (rawPart none) b.size) (fun r s'=>r=sliceBounds lo hi none b.size∧s'=s) E s :=
  wpAny_of_eq (sliceIndices_raw lo hi none b.size (fun e=>nomatch e)) ⟨rfl,rfl⟩
 refine qa1 (wpAny_mono go (fun r s' hr=>?_) fun V V e=>e)
 obtain ⟨hr1,hr2⟩:=hr
 subst hr1 hr2
 refine qa1 (wpAny_rule ?_)
 have tail:wpC (model prog w) A (do
  updateBytearray a fun b'=>kept b' (sliceBounds lo hi none b.size).1 (sliceBounds lo hi none b.size).2.1 (sliceBounds lo hi none b.size).2.2
  ret .none) P E s':=by
  refine qap (wpAny_bind (qd7 ho (Nat.le_trans (kept_size _ _ _ _) (by rw [sizeLine_eq];exact hz)) fun h' g sb=>?_))
  exact wpAny_pure (q h' g sb)
 show wpC _ _ (if ((sliceBounds lo hi none b.size).2.2 != 1 || decide ((sliceBounds lo hi none b.size).1<(sliceBounds lo hi none b.size).2.1))=true then _ else _) _ _ _
 by_cases hc:((sliceBounds lo hi none b.size).2.2 != 1 || decide ((sliceBounds lo hi none b.size).1<(sliceBounds lo hi none b.size).2.1))=true
 ·rw [if_pos hc]
  exact qae (qcn hg ho tail)
 ·rw [if_neg hc];exact tail
end
section
variable {prog:Program}{w:World}{A:Around}{E:Value→Shared→Prop}{s:Shared}
theorem qbp {self:Value}{T:String}{name:Str}{id:String}{args:List Value}{Q:Option Value→Shared→Prop} (hT:s.TypeIs self T) (h:PySem.Slot T name id)
 (hc:wpC (model prog w) A (call (.builtin id) (self::args) []) (fun v=>Q (some v)) E s):wpC (model prog w) A (callSpecial? self name args []) Q E s:=by
 simp only [callSpecial?]
 refine qa1 (wpAny_specialOf hT h.lookup ?_)
 simp only [h.bind]
 exact qay (qa1 (wpAny_pure (qae (qa4 hc (fun v s' h'=>qa8 h') fun V V h'=>h'))))
theorem wpC_delItem {a sl:Addr}{l u:Value}{lo hi:Option Int}{b:Array UInt8}{Q:Unit→Shared→Prop} (hg:A.guards=some []) (ho:s.heap.get? a=some (baO b)) (hs:s.heap.IsSliceOf sl l u .none) (hl:IsPart l lo) (hu:IsPart u hi) (hz:b.size≤16777216)
 (q:∀ h',h'.get? a=some (baO (kept b (sliceBounds lo hi none b.size).1 (sliceBounds lo hi none b.size).2.1 (sliceBounds lo hi none b.size).2.2))→Heap.SameBut a s.heap h'→Q () { s with heap:=h' }) :
 wpC (model prog w) A (delItem (.ref a) (.ref sl)) Q E s:=by
 have hT:s.TypeIs (.ref a) "bytearray":=⟨_,ho,rfl⟩
 unfold delItem
 refine qay ?_
 refine qa1 (wpAny_sequenceKey hT (by decide) ?_)
 refine qae (qbp hT FBA.slot_delitem ?_)
 refine qbg FBA.slot_delitem hT FBA.entry_delitem (show Builtin.Bytes.decodersThatHold.contains "bytearray.__delitem__"=false by decide +kernel) ?_ (FBA.args_delitem _ _)
 exact qdz hg ho hs hl hu hz fun h' g sb=>⟨_,rfl,qa8 (q h' g sb)⟩
theorem wpC_operate {vs:List Value}{m:Sem Value}{Q:Value→Shared→Prop} (h:wpC (model prog w) A m Q E s):wpC (model prog w) A (operate vs m) Q E s :=
 fun Γ p a b=>by rw [Sem.wp_operate];exact h Γ p a b
theorem qfw {o i:Expr}{p pos:Pos}{env:Env}{Q:Flow→Shared→Prop}
 (h:wpAny (model prog w) A (eval o env) (fun ov s1=>wpAny (model prog w) A (eval i env) (fun iv s2=>wpC (model prog w) A (delItem ov iv) (fun V s3=>Q .next s3) E s2) E s1) E s) :
 wpC (model prog w) A (exec (.Delete [.Subscript o i p] pos) env) Q E s:=by
 rw [arm_exec_Delete]
 refine qa1 (wpAny_standAt ?_)
 refine qae ?_
 rw [arm_deleteEach_cons]
 refine qae ?_
 rw [arm_delete_Subscript]
 refine qa1 (wpAny_mono h (fun ov s1 h1=>?_) fun V V e=>e)
 refine qa1 (wpAny_holding (wpAny_mono h1 (fun iv s2 h2=>?_) fun V V e=>e))
 refine qa1 (wpAny_standAt ?_)
 refine qae (qay (qa4 h2 (fun V s3 h3=>?_) fun V V e=>e))
 refine qap (wpAny_release ?_)
 rw [arm_deleteEach_nil]
 exact qa8 (qa8 h3)
theorem qe5 {o e:Expr}{x:Str}{p pos:Pos}{op:Operator}{env:Env}{Q:Flow→Shared→Prop}
 (h:wpAny (model prog w) A (eval o env) (fun ov s1=>wpAny (model prog w) A (getAttr ov x true) (fun old s2=>wpAny (model prog w) A (eval e env) (fun v s3=>wpC (model prog w) A (inplaceOp op old v) (fun new s4=>wpAny (model prog w) A (setAttr ov x new) (fun V s5=>Q .next s5) E s4) E s3) E s2) E s1) E s) :
 wpC (model prog w) A (exec (.AugAssign (.Attribute o x p) op e pos) env) Q E s:=by
 rw [arm_exec_AugAssign_2]
 refine qa1 (wpAny_standAt ?_)
 refine qa1 (wpAny_mono h (fun ov s1 h1=>?_) fun V V e=>e)
 refine qae (qay ?_)
 refine qa1 (wpAny_standAt ?_)
 refine qa1 (wpAny_mono h1 (fun old s2 h2=>?_) fun V V e=>e)
 refine qa1 (wpAny_holding (wpAny_mono h2 (fun v s3 h3=>?_) fun V V e=>e))
 refine qa1 (wpAny_standAt ?_)
 refine wpC_operate (qa4 h3 (fun new s4 h4=>?_) fun V V e=>e)
 refine qa1 (wpAny_standAt ?_)
 refine qa1 (wpAny_holding (wpAny_mono h4 (fun V s5 h5=>?_) fun V V e=>e))
 refine qa1 (wpAny_release ?_)
 exact qa8 h5
end
theorem qca (b:Array UInt8):(bI b).length=b.size:=KBw.ints_length b
section
variable {prog:Program}{w:World}{A:Around}{E:Value→Shared→Prop}{s:Shared}
open Builtin in
theorem qh6 {a sl:Addr}{l u:Value}{lo hi:Option Int}{b:Array UInt8}{P:Fin→Shared→Prop} (ho:s.heap.get? a=some (baO b)) (hs:s.heap.IsSliceOf sl l u .none) (hl:IsPart l lo) (hu:IsPart u hi) (hz:b.size≤16777216)
 (q:P (.done (.ret (.ref s.heap.objs.size))) { s with heap:=s.heap.push (baO (KBy.picked b lo hi)) }) :
 wpAny (model prog w) A (Builtin.«bytearray.__getitem__» ⟨[.ref a,.ref sl],[]⟩) P E s:=by
 have hT:s.TypeIs (.ref sl) "slice":=by obtain ⟨o,ho,hc,_⟩:=id hs;exact ⟨o,ho,hc⟩
 unfold Builtin.«bytearray.__getitem__»
 refine wpAny_bind (m:=slotArgs "__getitem__" 1 _) (wpAny_pure ?_)
 show wpAny _ _ (Bytes.subscript? (.ref sl) >>= fun r=>_) _ _ s
 refine wpAny_bind ?_
 unfold Bytes.subscript?
 refine wpAny_bind (wpAny_specialOf hT slice_no_index (wpAny_pure ?_))
 refine wpAny_bind (wpAny_typeOf hT ?_)
 show wpAny _ _ (Bytes.sliceParts (.ref sl) >>= fun r=>_) _ _ s
 refine wpAny_bind (qc3 hs hl hu ?_)
 refine wpAny_bind (qb8 ho ?_)
 have go:wpAny (model prog w) A (sliceIndices (rawPart lo) (rawPart hi) (rawPart none) b.size) (fun r s'=>r=sliceBounds lo hi none b.size∧s'=s) E s :=
  wpAny_of_eq (sliceIndices_raw lo hi none b.size (fun e=>nomatch e)) ⟨rfl,rfl⟩
 refine wpAny_bind (wpAny_mono go (fun r s' hr=>?_) fun V V e=>e)
 obtain ⟨hr1,hr2⟩:=hr
 subst hr1 hr2
 refine wpAny_bind (m:=newObj (.type "bytearray") (.bytearray (KBy.picked b lo hi))) (wpAny_newObj_type ?_ ?_)
 ·exact wpAny_pure q
 ·show (KBy.picked b lo hi).size≤sizeLine
  exact Nat.le_trans (KBc.size_picked_le b lo hi) (by rw [sizeLine_eq];exact hz)
open Builtin in
theorem len_ba {a:Addr}{b:Array UInt8}{Q:Value→Shared→Prop} (ho:s.heap.get? a=some (baO b)) (hz:b.size≤1099511627776) (q:∀ t k,Q (.int b.size t) { s with toks:=k }) :
 wpAny (model prog w) A (call (.builtin "len") [.ref a]) Q E s:=by
 have hT:s.TypeIs (.ref a) "bytearray":=⟨_,ho,rfl⟩
 refine call_len_slot (n:=b.size) hT FBA.slot_len (fun Q' q'=>?_) (by lia) (by lia) (q _ _)
 refine wpAny_call_entry FBA.slot_len hT FBA.entry_len ?_ (FBA.args_len _)
 unfold Builtin.«bytearray.__len__»
 refine wpAny_bind (m:=slotArgs "__len__" 0 _) (wpAny_pure ?_)
 refine wpAny_bind (qb8 ho ?_)
 exact wpAny_bind (wpAny_mkInt (wpAny_pure ⟨_,rfl,q'⟩))
end
section
variable {C:Cx}{σ:AS}{n:Nat}{imm:List Cell}{s:Shared}
theorem X_lenBa {x:Str}{p pos:Pos}{e:Expr}{a:Addr}{ks:List Int} (hx:X C σ (.Name x p) (.val (.builtin "len"))) (h:Xs C σ [e] [.val (.ref a)]) (hm:(a,AO.ba ks)∈σ.ms) (hz:ks.length≤1099511627776):X C σ (.Call (.Name x p) [e] [] pos) (.int ks.length) :=
 qbt hx h fun imm vs hv s R Q E q=>by
  refine DAll.one hv fun V h1=>DIn.eV h1 ?_
  obtain ⟨o,ho,hA⟩:=R.at_ms hm
  cases hA with
  | @ba b _ e =>
   subst e
   rw [qca] at hz q
   exact len_ba ho hz fun t k=>q _ _ _ qa2 (R.tok _) (.int _ _)
theorem X_sliceBa {value:Expr}{lo hi:Option Expr}{p pos:Pos}{a:Addr}{ks:List Int}{l u:Option Int} (h1:X C σ value (.val (.ref a))) (hm:(a,AO.ba ks)∈σ.ms) (h2:Pt C σ lo l) (h3:Pt C σ hi u) (hz:ks.length≤16777216) :
 X C σ (.Subscript value (.Slice lo hi none p) pos) (.barr ((ks.drop (l.elim 0 (clipAt ks.length))).take (u.elim ks.length (clipAt ks.length) - l.elim 0 (clipAt ks.length)))):=.mk fun imm s R Q E q=>by
 with_reducible refine Subscript_ (h1.go imm s R _ _ fun v1 i1 s1 hs1 R1 hv1=>?_)
 with_reducible refine wpAny_Slice (h2.run i1 s1 R1 _ _ fun vl i2 s2 hs2 R2 hl=>h3.run i2 s2 R2 _ _ fun vu i3 s3 hs3 R3 hu=>?_)
 refine wpAny_pure ?_
 cases hv1
 obtain ⟨o,ho,hA⟩:=R3.at_ms hm
 cases hA with
 | @ba b _ e =>
  refine Rel.elim R3 fun m os kc fs RX=>?_
  have ho':(s3.heap.push { cls:=.type "slice",data:=.fields #[vl,vu,.none] }).get? a=some (baO b):=Heap.get?_push_of_some _ ho
  have hT:({ s3 with heap:=s3.heap.push { cls:=.type "slice",data:=.fields #[vl,vu,.none] } }:Shared).TypeIs (.ref a) "bytearray":=⟨_,ho',rfl⟩
  refine tail_any hT FBA.slot_getitem.lookup (getItem_slot hT (by decide) FBA.slot_getitem ?_) rfl
  refine wpAny_call_entry FBA.slot_getitem hT FBA.entry_getitem ?_ (FBA.args_getitem _ _)
  refine qh6 ho' (Heap.IsSliceOf.new _ _ _ _) hl hu (by rw [← qca,e];exact hz) ⟨_,rfl,?_⟩
  have F1:=RX.fr.push { cls:=.type "slice",data:=.fields #[vl,vu,.none] }
  have N1:=RX.nw.pushKeep { cls:=.type "slice",data:=.fields #[vl,vu,.none] }
  refine q _ _ _ (fun V h=>.tail _ (hs3 (hs2 (hs1 h)))) (RX.gain (F1.push (baO (KBy.picked b l u))) (N1.push F1 (baO (KBy.picked b l u))) fun p hp=>Heap.lt_size (N1 p hp).1) (.barr (.head _) ?_)
  exact KBc.ints_picked e l u
end
namespace FBA
theorem noBytes:typeLookup (.type "bytearray") "__bytes__"=pure none:=by rw [typeLookup_type,builtinLookup_eq_fast];kernel_rfl
theorem noIndex:typeLookup (.type "bytearray") "__index__"=pure none:=by rw [typeLookup_type,builtinLookup_eq_fast];kernel_rfl
theorem release:typeLookup (.type "bytearray") "__release_buffer__"=pure (some (.builtin "bytearray.__release_buffer__")):=by rw [typeLookup_type,builtinLookup_eq_fast];kernel_rfl
theorem sub_self:isSubtype (.type "bytearray") (.type "bytearray")=pure true:=by rw [isSubtype_type];kernel_rfl
end FBA
section
variable {prog:Program}{w:World}{A:Around}{E:Value→Shared→Prop}{s:Shared}
open Builtin in
theorem qco {x:Value}{name:String}{id:String}{Q:Bool→Shared→Prop} (hT:s.TypeIs x "bytearray") (hl:typeLookup (.type "bytearray") (name:Str)=pure (some (.builtin id))) (h1:id.endsWith ("."++name)=true) (h2:id.dropRight (name.length+1)="bytearray") (q:Q true s) :
 wpAny (model prog w) A (Bytes.slotIsOwn x name) Q E s:=by
 unfold Bytes.slotIsOwn
 refine wpAny_bind (wpAny_specialOf hT hl ?_)
 dsimp only
 rw [h1,h2]
 simp only [Bool.not_true,Bool.false_eq_true,if_false,pure_bind]
 exact wpAny_isInstance hT FBA.sub_self q
open Builtin in
theorem buffer_ba {a:Addr}{b:Array UInt8}{id:String}{full:Bool}{Q:Option (Array UInt8)→Shared→Prop} (ho:s.heap.get? a=some (baO b)) (q:Q (some b) s):wpAny (model prog w) A (Bytes.buffer? id (.ref a) full) Q E s:=by
 have hT:s.TypeIs (.ref a) "bytearray":=⟨_,ho,rfl⟩
 unfold Bytes.buffer?
 refine wpAny_bind (wpAny_specialOf hT FBA.slot_buffer.lookup ?_)
 dsimp only
 refine wpAny_bind (qco hT FBA.slot_buffer.lookup (by decide +kernel) (by decide +kernel) ?_)
 refine bm_if_false rfl ?_
 refine wpAny_bind (wpAny_specialOf hT FBA.slot_buffer.lookup ?_)
 refine wpAny_bind ?_
 unfold Bytes.ownRelease
 refine wpAny_bind (qco hT FBA.release (by decide +kernel) (by decide +kernel) (wpAny_pure ?_))
 refine bm_if_false rfl ?_
 exact wpAny_bind (qb8 ho (wpAny_pure q))
theorem new_ba {a:Addr}{b:Array UInt8}{Q:Value→Shared→Prop} (ho:s.heap.get? a=some (baO b)) (hz:b.size≤sizeLine) (hQ:∀ t k,Q (.bytes b t) { s with toks:=k }) :
 codeAny (model prog w) A (.call (.builtin "bytes.__new__") ⟨[.type "bytes",.ref a],[]⟩) (wants Q E) s:=by
 refine codeAny_of_tree ?_
 show wpAny _ A.in1 (do checkBuiltinCall "bytes.__new__" ⟨[.type "bytes",.ref a],[]⟩;again (.builtin "bytes.__new__" ⟨[.type "bytes",.ref a],[]⟩)) _ _ s
 refine wpAny_bind (wpAny_of_eq (F.bm_newCall _) (wpAny_pure ⟨plainId_quiet F.bm_plain _,codeAny_builtin F.bm_entry ?_⟩))
 rw [Around.under_plainId F.bm_plain _]
 have hT:s.TypeIs (.ref a) "bytearray":=⟨_,ho,rfl⟩
 unfold Builtin.«bytes.__new__»
 refine wpAny_bind (wpAny_of_eq (a:=true) rfl ?_)
 refine bm_if_false rfl ?_
 refine wpAny_bind (wpAny_of_eq F.bm_sub ?_)
 refine bm_if_false rfl ?_
 refine wpAny_bind (wpAny_of_eq (F.bm_bind _) ?_)
 refine wpAny_bind (wpAny_of_eq (a:=()) rfl ?_)
 refine wpAny_bind (wpAny_of_eq (a:=()) rfl ?_)
 refine bm_if_false rfl ?_
 refine wpAny_bind (wpAny_specialOf hT FBA.noBytes ?_)
 refine wpAny_bind (wpAny_bind ?_)
 show wpAny _ _ (load a >>= _) _ _ _
 refine wpAny_bind (wpAny_load ho ?_)
 refine wpAny_pure (wpAny_pure ?_)
 refine bm_if_false rfl ?_
 refine wpAny_bind (wpAny_specialOf hT FBA.noIndex ?_)
 refine bm_if_true rfl ?_
 first
  | show wpAny _ _ (Builtin.Bytes.buffer? "bytes.__new__" (.ref a) true >>= _) _ _ _
  | (refine wpAny_bind ?_;show wpAny _ _ (Builtin.Bytes.buffer? "bytes.__new__" (.ref a) true >>= _) _ _ _)
 refine wpAny_bind (buffer_ba ho ?_)
 dsimp only
 refine wpAny_bind (wpAny_rule ?_)
 refine wpAny_bind (wpAny_mkBytes ?_ hz)
 refine bm_if_true rfl ?_
 exact wpAny_pure (hQ _ _)
theorem qgi {a:Addr}{b:Array UInt8}{Q:Value→Shared→Prop} (ho:s.heap.get? a=some (baO b)) (hz:b.size≤sizeLine) (hQ:∀ t k,Q (.bytes b t) { s with toks:=k }):wpAny (model prog w) A (call (.type "bytes") [.ref a]) Q E s:=by
 refine callType_codes (Q₁:=fun obj s₁=>s₁.TypeIs obj "bytes"∧Q obj s₁) F.bm_called (F.bm_typeCall _) F.entry_object_init
  (new_ba ho hz fun t k=>⟨PySem.W.typeIs_bytes _ _ _,hQ t k⟩) fun obj s₁ h₁=>?_
 exact ⟨h₁.1,F.args_object_init_2 obj _,object_init_meets F.bm_called.init.lookup F.bm_called.made (by decide) prog w A.in1 _ s₁ ⟨h₁.1,rfl,h₁.2⟩⟩
end
section
variable {C:Cx}{σ:AS}{n:Nat}{imm:List Cell}{s:Shared}
theorem X_bytesBa {x:Str}{p pos:Pos}{e:Expr}{ks:List Int} (hx:X C σ (.Name x p) (.val (.type "bytes"))) (h:Xs C σ [e] [.barr ks]) (hz:ks.length≤16777216):X C σ (.Call (.Name x p) [e] [] pos) (.bytes ks) :=
 X_type hx h fun imm vs hv s R Q E q=>by
  refine DAll.one hv fun V h1=>DIn.eA h1 fun a b hm e=>?_
  exact qgi (R.at_imm hm) (by rw [sizeLine_eq,← qca,e];exact hz) fun t k=>q _ _ _ qa2 (R.tok _) (.bytes e)
end
section
variable {prog:Program}{w:World}{A:Around}{E:Value→Shared→Prop}{s:Shared}{R:Result→Shared→Prop}
theorem qcm {α:Type}{M:Model}{c:Bool}{a b:Sem α}{Q:α→Shared→Prop} (hc:c=false) (h:wpC M A b Q E s):wpC M A (if c=true then a else b) Q E s:=by
 subst hc;exact h
theorem qcs {id:String}{args:Args}{b:Builtin} (hq:(Code.builtin id args).quiet=true) (hb:entryFor table id=some b) (hd:qak (.builtin id args)=false)
 (h:wpAny (model prog w) A.in1 (checkBuiltinCall id args) (fun V s₁=>wpC (model prog w) (A.under (.builtin id args)) (b args)
  (fun fin s'=>match fin with | .done f=>R (.ok f) s' | .again c'=>c'.quiet=true∧qak c'=false∧qbe (model prog w) A c' R s') (fun e s'=>R (.error e) s') s₁)
  (fun e s'=>R (.error e) s') s):qbe (model prog w) A (.call (.builtin id) args) R s:=by
 refine qag ?_
 show wpC _ A.in1 (do checkBuiltinCall id args;again (.builtin id args)) _ _ s
 refine qa1 (wpAny_mono h (fun V s₁ h₁=>qa8 (And.intro hq (And.intro hd (qag ?_)))) fun V V h'=>h')
 show wpC _ _ (match entryFor table id with | some b=>b args | none=>unsupported ((withoutEnding? id "#data").getD id)) _ _ s₁
 rw [hb];exact h₁
end
section
variable {prog:Program}{w:World}{A:Around}{K:Frag}{C:Addr}{R:Result→Shared→Prop}{h:Heap}{g:Array GenState}{d:Drawn}{t:Nat}{os:OsState}
theorem makeC_core {rest:List Value}{kw:List (Str×Value)}{init:Value} (Y:Makes (model prog w) h C) (hi:Looks (model prog w) h (typeLookup (.ref C) "__init__") (some init))
 (hb:∀ self,Looks (model prog w) h (bindSpecial init self) (init,[self])) (hne:(some init != some (Value.builtin "object.__init__"))=true∨(rest=[]∧kw=[]))
 (hq:qbe (model prog w) (A.under (.builtin "type.__call__" ⟨.ref C::rest,kw⟩)) (.call init ⟨.ref (h.objs.size+1)::rest,kw⟩) (InitBack (h.objs.size+1) R) ⟨(h.push emptyDict).push (instObj C h.objs.size),g,d,t,os⟩) :
 qbe (model prog w) A (.call (.ref C) ⟨rest,kw⟩) R ⟨h,g,d,t,os⟩:=by
 have Y':=Y
 obtain ⟨⟨oc,od,cd,sl,hC,e1,e2,e4⟩,made,base,self,top,call,typ⟩:=Y
 refine qag ?_
 show wpC _ _ (callAny (.ref C) _) _ _ _
 show wpC _ _ (load C >>= fun o=>_) _ _ _
 refine qa1 (wpAny_load hC ?_)
 show wpC _ _ (callAny.viaDunder (.ref C) _) _ _ _
 unfold callAny.viaDunder
 refine qa1 (call.at ?_)
 dsimp only
 rw [tc_bind]
 refine qa1 (wpAny_pure (qa1 (wpAny_pure ?_)))
 refine qa8 (a:=Fin.again (.call (.builtin "type.__call__") ⟨.ref C::rest,kw⟩)) (And.intro rfl (And.intro rfl ?_))
 refine qcs (Code.quiet_builtin _ (by decide +kernel)) entry_typeCall (show Builtin.Bytes.decodersThatHold.contains "type.__call__"=false by decide +kernel) (check_slot tc_kind tc_split typ (tc_args _ _ _) ?_)
 unfold Builtin.«type.__call__»
 have hm:Looks (model prog w) h (mroOf (.ref C)) cd.mro:=((Looks.ld (part:=none) hC).andThen .now).andThen .now
 refine qcm rfl ?_
 refine qa1 (hm.at ?_)
 refine qcm e4 ?_
 refine qa1 (made.at ?_)
 refine qa1 (wpAny_pure ?_)
 refine qa1 (wpAny_holding (wpAny_call (new_K Y' hi hne ?_)))
 have k:∀ b o,h.get? b=some o→((h.push emptyDict).push (instObj C h.objs.size)).get? b=some o:=fun b o e=>Heap.get?_push_of_some _ (Heap.get?_push_of_some _ e)
 have hx:((h.push emptyDict).push (instObj C h.objs.size)).get? (h.objs.size+1)=some (instObj C h.objs.size):=by heap_get
 have t1:Looks (model prog w) ((h.push emptyDict).push (instObj C h.objs.size)) (typeOf (.ref (h.objs.size+1))) (.ref C):=(Looks.ld hx).andThen .now
 have s1:=self.keeps k
 have i1:=hi.keeps k
 have b1:=(hb (.ref (h.objs.size+1))).keeps k
 refine qa1 ((t1.andThen s1:Looks (model prog w) _ (isInstance (.ref (h.objs.size+1)) (.ref C)) true).at ?_)
 refine qcm rfl ?_
 refine qae (qay ?_)
 unfold callSpecial? specialOf
 refine qa1 (wpAny_bind (t1.at (i1.at ?_)))
 dsimp only
 refine qay (qa1 (b1.at ?_))
 dsimp only
 refine qae (qcx (qfm hq fun r s' z=>?_))
 rcases r with e | (v | _ | _ | _) <;> first | exact z | exact z.elim | skip
 obtain ⟨rfl,z⟩:=z
 exact qa8 (qcm rfl (qa8 z))
end
section
variable {prog:Program}{w:World}{A:Around}{K:Frag}{C x:Addr}{s:Shared}{h₀:Heap}{L:Addr}{m:Str→Option Value}{news:List (Addr×Obj)}{R:Result→Shared→Prop}
theorem makeC {rest:List Value}{kw:List (Str×Value)}{fI:Addr} (F:Fr h₀ L s.heap m) (N:News h₀ L s.heap news) (X:K.In s.heap) (hm:makesIn K C=true)
 (hi:findIn K (.ref C) "__init__"=some (some (.ref fI))) (hf:typeIn K (.ref fI)=some (.type "function"))
 (h:∀ x dx h',Fr h₀ L h' m→News h₀ L h' ((x,instObj C dx)::(dx,emptyDict)::news)→(∀ p∈news,p.1<dx)→dx<x →
  qbe (model prog w) (A.under (.builtin "type.__call__" ⟨.ref C::rest,kw⟩)) (.call (.ref fI) ⟨.ref x::rest,kw⟩) (InitBack x R) { s with heap:=h' }) :
 qbe (model prog w) A (.call (.ref C) ⟨rest,kw⟩) R s:=by
 obtain ⟨hh,g,d,t,os⟩:=s
 refine makeC_core (makes_of X hm) (looks_findIn X hi) (fun self=>bind_fn X self hf) (.inl rfl) (h _ hh.objs.size _ ((F.push _).push _) ?_ (fun p hp=>Heap.lt_size (N p hp).1) (Nat.lt_succ_self _))
 have:=(N.push F emptyDict).push (F.push _) (instObj C hh.objs.size)
 rwa [Heap.size_push] at this
end
namespace FBA
theorem mro:mroOf (.type "bytearray")=pure [.type "bytearray",.type "object"]:=by rw [mroOf_type];kernel_rfl
theorem lookup_new:typeLookup (.type "bytearray") "__new__"=pure (some (.builtin "bytearray.__new__")):=by rw [typeLookup_type,builtinLookup_eq_fast];kernel_rfl
theorem called:TypeCalled "bytearray" "bytearray.__new__" "bytearray.__init__" :=
 ⟨by decide +kernel,by decide +kernel,⟨_,_,mro⟩,madeBy_type mro lookup_new (by decide +kernel),by decide +kernel,by rw [isSubtype_type];kernel_rfl,slot_init⟩
theorem typeCall:checkTypeCall "bytearray" ⟨[],[]⟩=pure ():=by kernel_rfl
theorem newCall:checkBuiltinCall "bytearray.__new__" ⟨[.type "bytearray"],[]⟩=pure ():=by kernel_rfl
theorem entry_new:entryFor table "bytearray.__new__"=some Builtin.«list.__new__»:=entryFor_alias (id':="list.__new__") (by kernel_rfl) (by decide +kernel) (by decide +kernel) (by kernel_rfl)
theorem plain_new:plainId "bytearray.__new__"=true:=by decide +kernel
end FBA
set_option maxRecDepth 1000000 in
set_option maxHeartbeats 4000000 in
theorem qgy:("bytearray.__new__".splitOn ".__new__").headD ""="bytearray":=by rw [split_bytearray];rfl
section
variable {prog:Program}{w:World}{A:Around}{E:Value→Shared→Prop}{s:Shared}
theorem code_ba_new {Q₁:Value→Shared→Prop}
 (h:Q₁ (.ref s.heap.objs.size) { s with heap:=s.heap.push (baO #[]) }) :
 codeAny (model prog w) A (.call (.builtin "bytearray.__new__") ⟨[.type "bytearray"],[]⟩) (wants Q₁ E) s:=by
 refine codeAny_of_tree ?_
 show wpAny _ A.in1 (do checkBuiltinCall "bytearray.__new__" ⟨[.type "bytearray"],[]⟩;again (.builtin "bytearray.__new__" ⟨[.type "bytearray"],[]⟩)) _ _ s
 refine wpAny_bind (wpAny_of_eq FBA.newCall (wpAny_pure ⟨plainId_quiet FBA.plain_new _,codeAny_builtin_stack FBA.entry_new rfl fun p st=>?_⟩))
 rw [Around.under_plainId FBA.plain_new _]
 have hsub:=FBA.sub_self
 have hown:=qgy
 obtain ⟨hp,g,d,tk,os⟩:=s
 refine wpAny_bind (wpAny_of_eq (a:=true) rfl ?_)
 rw [hown]
 wp_walk
 exact h
theorem qgf {R:Result→Shared→Prop}{id:String}{args:Args}{b:Builtin} (hb:entryFor table id=some b)
 (h:wpC (model prog w) (A.under (.builtin id args)) (b args)
  (fun fin s'=>match fin with | .done f=>R (.ok f) s' | .again c'=>c'.quiet=true∧qak c'=false∧qbe (model prog w) A c' R s') (fun e s'=>R (.error e) s') s):qbe (model prog w) A (.builtin id args) R s:=by
 refine qag ?_
 show wpC _ _ (match entryFor table id with | some b=>b args | none=>unsupported ((withoutEnding? id "#data").getD id)) _ _ s
 rw [hb];exact h
theorem callTypeC {T newId initId:String}{Bi:Builtin}{args:List Value}{Q Q₁:Value→Shared→Prop} (ft:TypeCalled T newId initId)
 (hct:checkTypeCall T ⟨args,[]⟩=pure ()) (entryI:entryFor table initId=some Bi) (hdI:Builtin.Bytes.decodersThatHold.contains initId=false)
 (hnew:codeAny (model prog w) A.in1 (.call (.builtin newId) ⟨.type T::args,[]⟩) (wants Q₁ E) s)
 (hnext:∀ obj s₁,Q₁ obj s₁→s₁.TypeIs obj T∧argsOk initId ⟨obj::args,[]⟩ ∧
  wpC (model prog w) A.in1.in1 (Bi ⟨obj::args,[]⟩) (fun fin s'=>∃ v,fin=.done (.ret v)∧v=.none∧Q obj s') E s₁) :
 wpC (model prog w) A (call (.type T) args) Q E s:=by
 obtain ⟨c,tl,hmro⟩:=ft.mro
 refine qcx (qag ?_)
 show wpC _ _ (callAny (.type T) _) _ _ _
 refine qa8 ⟨Code.quiet_builtin _ (by decide +kernel),show Builtin.Bytes.decodersThatHold.contains "type.__call__"=false by decide +kernel,qgf F.entry_type_call ?_⟩
 rw [Around.under_plain (weight_type_call_type T args []) rfl]
 unfold Builtin.«type.__call__»
 refine qcm ft.notType ?_
 refine qcm ft.canCreate ?_
 refine qa1 (wpAny_of_eq hct ?_)
 refine qa1 (wpAny_of_eq hmro ?_)
 refine qcm rfl ?_
 refine qa1 (wpAny_of_eq ft.made ?_)
 refine qa1 (wpAny_pure ?_)
 refine qa1 (wpAny_holding (wpAny_call (codeAny_mono hnew fun r s₁ hr=>?_)))
 rcases r with e | (obj | _ | _ | _) <;> first | exact hr | exact hr.elim | skip
 obtain ⟨hT,hok,hsi⟩:=hnext _ _ hr
 refine qa1 (wpAny_isInstance hT ft.sub ?_)
 refine qcm rfl ?_
 refine qae (qay (qbp hT ft.init ?_))
 refine qbg ft.init hT entryI hdI (qa4 hsi (fun fin s' ⟨v,e,e',hq⟩=>⟨v,e,?_⟩) fun V V x=>x) hok
 subst e'
 exact qcm rfl (qa8 hq)
end
theorem FBA.bind0:Builtin.Bytes.bindOptional "bytearray.__init__" "bytearray" ["source","encoding","errors"] [] []=pure [none,none,none]:=by kernel_rfl
theorem fn_put {h₀ h h':Heap}{L a:Addr}{m:Str→Option Value}{pre post:List (Addr×Obj)}{o o':Obj} (F:Fr h₀ L h m) (N:News h₀ L h (pre++(a,o)::post))
 (h1:∀ p∈pre,p.1≠a) (h2:∀ p∈post,p.1≠a) (hs:Heap.SameBut a h h') (ho:h'.get? a=some o'):Fr h₀ L h' m∧News h₀ L h' (pre++(a,o')::post):=by
 have hm:(a,o)∈pre++(a,o)::post:=mar _ (.head _)
 refine ⟨F.update N hm hs,fun p hp=>?_⟩
 rcases maj hp with h | h
 ·have:=N p (mal _ h)
  exact ⟨(hs.2 _ (h1 p h)).trans this.1,this.2⟩
 ·rcases mcj h with e | h
  ·subst e
   exact ⟨ho,N.ne hm,N.fresh hm⟩
  ·have:=N p (mar _ (.tail _ h))
   exact ⟨(hs.2 _ (h2 p h)).trans this.1,this.2⟩
section
variable {prog:Program}{w:World}{A:Around}{E:Value→Shared→Prop}{s:Shared}
open Builtin in
theorem wpC_init_ba {a:Addr}{b:Array UInt8}{P:Fin→Shared→Prop} (hg:A.guards=some []) (ho:s.heap.get? a=some (baO b))
 (q:∀ h',h'.get? a=some (baO #[])→Heap.SameBut a s.heap h'→P (.done (.ret .none)) { s with heap:=h' }) :
 wpC (model prog w) A (Builtin.«bytearray.__init__» ⟨[.ref a],[]⟩) P E s:=by
 have hT:s.TypeIs (.ref a) "bytearray":=⟨_,ho,rfl⟩
 unfold Builtin.«bytearray.__init__»
 unfold Bytes.ownRelease
 refine qa1 (wpAny_bind (qco hT FBA.release (by decide +kernel) (by decide +kernel) (wpAny_pure ?_)))
 refine qcm rfl ?_
 refine qa1 (wpAny_of_eq FBA.bind0 ?_)
 refine qa1 (wpAny_of_eq (a:=()) rfl ?_)
 refine qa1 (wpAny_of_eq (a:=()) rfl ?_)
 refine qae (qae (qdv hg ?_))
 refine qap ?_
 show wpAny _ _ (Bytes.exportsOf (.ref a) >>= fun n=>pure (decide (n > 0))) _ _ _
 refine wpAny_bind ?_
 show wpAny _ _ (load a >>= fun o=>_) _ _ _
 refine wpAny_bind (wpAny_load ho ?_)
 refine wpAny_pure (wpAny_pure ?_)
 refine qcm rfl ?_
 refine qa1 (t:=updateBytearray a fun V=>#[]) (qd7 ho (Nat.zero_le _) fun h' g sb=>?_)
 refine qa1 (wpAny_of_eq (a:=()) rfl ?_)
 exact qa8 (q h' g sb)
theorem wpC_newBa {Q:Value→Shared→Prop}{h₀:Heap}{L:Addr}{m:Str→Option Value}{news:List (Addr×Obj)} (hg:A.guards=some []) (F:Fr h₀ L s.heap m) (N:News h₀ L s.heap news)
 (q:∀ a h',Fr h₀ L h' m→News h₀ L h' ((a,baO #[])::news)→(∀ p∈news,p.1<a)→Q (.ref a) { s with heap:=h' }) :
 wpC (model prog w) A (call (.type "bytearray") []) Q E s:=by
 refine callTypeC (Q₁:=fun obj s₁=>obj=.ref s.heap.objs.size∧s₁={ s with heap:=s.heap.push (baO #[]) }) FBA.called FBA.typeCall FBA.entry_init (by decide +kernel) (code_ba_new ⟨rfl,rfl⟩) fun obj s₁ ⟨e1,e2⟩=>?_
 subst e1 e2
 have ho:(s.heap.push (baO #[])).get? s.heap.objs.size=some (baO #[]):=Heap.get?_push_size _ rfl
 refine ⟨⟨_,ho,rfl⟩,FBA.args_init _,?_⟩
 refine wpC_init_ba hg ho fun h' g sb=>⟨_,rfl,rfl,?_⟩
 have F1:=F.push (baO #[])
 have N1:=N.push F (baO #[])
 have hlt:∀ p∈news,p.1<s.heap.objs.size:=fun p hp=>Heap.lt_size (N p hp).1
 obtain ⟨F2,N2⟩:=fn_put (pre:=[]) (post:=news) (o':=baO #[]) F1 N1 (fun V h=>nomatch h) (fun p hp=>Nat.ne_of_lt (hlt p hp)) sb g
 exact q _ h' F2 N2 hlt
end
section
variable {C:Cx}{σ:AS}{n:Nat}{imm:List Cell}{s:Shared}
theorem Rel.putBa {ρ:List Slot}{m1 m2:List (Addr×AO)}{a:Addr}{ks:List Int} (R:Rel C ⟨ρ,m1++(a,.ba ks)::m2⟩ imm s):∃ b,s.heap.get? a=some (baO b)∧bI b=ks ∧
 ∀ h' b' d tk,h'.get? a=some (baO b')→Heap.SameBut a s.heap h'→Rel C ⟨ρ,m1++(a,.ba (bI b'))::m2⟩ imm ⟨h',s.gens,d,tk,s.os⟩:=by
 obtain ⟨m,news,o,g,F,N,ho,hx,U,fin⟩:=R.updF
 cases hx with
 | @ba b _ e =>
  refine ⟨b,ho,e,fun h' b' d tk hg sb=>?_⟩
  obtain ⟨pre,post,rfl,hgg,h1,h2⟩:=U.split
  obtain ⟨F2,N2⟩:=fn_put (o':=baO b') F N h1 h2 sb hg
  exact fin (baO b') (.ba (bI b')) h' d tk (.ba rfl) F2 (by rw [hgg];exact N2)
end
structure SC (C:Cx) (σ:AS) (t:Sem Flow) (K:Fl→AS→Prop) (E:Value→Shared→Prop):Prop where
 go:∀ imm s,Rel C σ imm s→wpC C.M C.A t (qd2 C imm K) E s
abbrev SLC (C:Cx) (σ:AS) (ss:List Stmt) (K:Fl→AS→Prop) (E:Value→Shared→Prop):Prop:=SC C σ (execs ss C.env) K E
section
variable {C:Cx}{σ:AS}{n:Nat}{imm:List Cell}{s:Shared}{K:Fl→AS→Prop}{E:Value→Shared→Prop}{rest:List Stmt}
theorem SL.toC {ss:List Stmt} (h:SL C σ ss K E):SLC C σ ss K E:=.mk fun imm s R=>qap (h.go imm s R)
theorem SC_bind {st:Stmt} (K1:AS→Prop) (h:∀ imm s,Rel C σ imm s→wpC C.M C.A (exec st C.env) (fun f s'=>f=.next∧∃ σ' imm',imm⊆imm'∧Rel C σ' imm' s'∧K1 σ') E s) (k:∀ σ',K1 σ'→SLC C σ' rest K E):SLC C σ (st::rest) K E:=.mk fun imm s R =>
 qax (qa4 (h imm s R) (fun f s' ⟨hf,σ',i',hs,R',k1⟩=>by
  subst hf
  exact qa4 ((k σ' k1).go i' s' R') (fun V V h=>h.up hs) fun V V x=>x) fun V V x=>x)
theorem qgw {x:Str}{d:D}:∀ {fs:List (Str×D)},fs.lookup x=some d→putF x d fs=fs
 | [],h=>by simp at h
 | (y,e)::fs,h=>by
  rw [List.lookup_cons] at h
  rw [qej]
  by_cases c:x=y
  ·subst c;simp at h;simp [h]
  ·rw [beq_eq_false_iff_ne.mpr c] at h
   rw [if_neg (by simp [Ne.symm c]),qgw h]
end
section
variable {prog:Program}{w:World}{A:Around}{E:Value→Shared→Prop}{s:Shared}
end
section
variable {C:Cx}{n:Nat}{imm:List Cell}{s:Shared}{ρ:List Slot}{M1 M2:List (Addr×AO)}{f:Addr}{fd:FuncData}{body:List Stmt}{ps:List Str}{vs:List Value}{ds:List D}
end
section
variable {C:Cx}{σ:AS}{n:Nat}{imm:List Cell}{s:Shared}{E:Value→Shared→Prop}
theorem ms_mid {m1 m2:List (Addr×AO)}{x dx:Addr}{a b:AO} (hx:(x,a)∈m1++m2):(x,a)∈m1++(dx,b)::m2:=by
 rcases maj hx with h | h
 ·exact mal _ h
 ·exact mar _ (.tail _ h)
theorem ms_swap {m1 m2:List (Addr×AO)}{x a:Addr}{c d b:AO} (hx:(x,c)∈m1++(a,d)::m2) (hn:c=d→False):(x,c)∈m1++(a,b)::m2:=by
 rcases maj hx with h | h
 ·exact mal _ h
 ·rcases mcj h with e | h
  ·exact (hn (Prod.mk.inj e).2).elim
  ·exact mar _ (.tail _ h)
theorem qdp {ρ:List Slot}{m1 m2:List (Addr×AO)}{attr:Str}{x Cc dx:Addr}{fs:List (Str×D)}{d:D}{v:Value}{Q:Unit→Shared→Prop} (O:Ok C n) (R:Rel C ⟨ρ,m1++(dx,.dict fs)::m2⟩ imm s)
 (hx:(x,AO.inst Cc dx)∈m1++m2) (ha:setA C.w.params Cc attr=true) (hl:fs.length≤900) (hv:DIn imm v d) (q:∀ s',Rel C ⟨ρ,m1++(dx,.dict (putF attr d fs))::m2⟩ imm s'→Q () s'):wpAny C.M C.A (setAttr (.ref x) attr v) Q E s:=by
 obtain ⟨ox,hox,hax⟩:=R.at_ms (ms_mid hx)
 cases hax
 obtain ⟨m,news,od,F,N,hod,hAO,up⟩:=R.upd
 cases hAO with
 | @dict es nn _ hF =>
  unfold setA at ha
  simp only [Bool.and_eq_true,beq_iff_eq] at ha
  obtain ⟨⟨⟨h1,h2⟩,h3⟩,h4⟩:=ha
  obtain ⟨news',hU,hfin⟩:=up (dictOf (putL attr (PyData.keyHash C.w.params attr) (.str attr (s.toks+1)) v es) (putN attr es nn)) (.dict (putF attr d fs)) (.dict (hF.put hv _))
  refine set_dict (es:=es) (n:=nn) (dx:=dx) F O.kin N ⟨hox,rfl,rfl,hod⟩ rfl h1 h2 h3 h4 hF.get rfl hU ?_ fun h' F' N'=>?_
  ·have:=qei hF (x:=attr) (v:=v) (tk:=s.toks+1)
   have:=hF.length
   lia
  ·exact q _ (hfin h' s.drawn (s.toks+2) F' N')
end
section
variable {prog:Program}{w:World}{A:Around}{E:Value→Shared→Prop}{s:Shared}
theorem qd0 {M:Model}{env:Env}{o:Expr}{attr:Str}{pos':Pos}{value:Expr}{pos:Pos}{Q:Flow→Shared→Prop}
 (h:wpC M A (eval value env) (fun v s₁=>wpAny M A (eval o env) (fun ov s₂=>wpAny M A (setAttr ov attr v) (fun V=>Q .next) E s₂) E s₁) E s)
 (hs:swapsWith value (some (.Attribute o attr pos')) pos.line env=pure false) :
 wpC M A (exec (.Assign [.Attribute o attr pos'] value pos) env) Q E s:=fun Γ p hΓ b=>by
 simp only [plainObj_exec_Assign_Attribute o attr pos' value pos hs,assign_Attribute,Sem.wp_bind',Sem.wp_holding,Sem.wp_cmd_standAt,Sem.wp_release,Sem.wp_pure']
 exact Sem.wp_mono M Γ _ (fun v p₁ s₁ h₁=>Sem.wp_mono M Γ _ (fun ov V s₂ h₂=>h₂ Γ _ hΓ) (fun V V V h'=>h') _ _ (h₁ Γ p₁ hΓ)) (fun V V V h'=>h') _ _ (h Γ _ hΓ b)
end
structure XC (C:Cx) (σ:AS) (e:Expr) (K:D→AS→Prop) (E:Value→Shared→Prop):Prop where
 go:∀ imm s,Rel C σ imm s→wpC C.M C.A (eval e C.env) (VPost C imm K) E s
section
variable {C:Cx}{σ:AS}{n:Nat}{imm:List Cell}{s:Shared}{K:Fl→AS→Prop}{E:Value→Shared→Prop}{rest:List Stmt}
theorem SC_delBa {ρ:List Slot}{m1 m2:List (Addr×AO)}{o e:Expr}{ap sp dp pos:Pos}{a:Addr}{ks:List Int}{k:Nat} (hg:C.A.guards=some [])
 (ho:X C ⟨ρ,m1++(a,.ba ks)::m2⟩ o (.val (.ref a))) (he:X C ⟨ρ,m1++(a,.ba ks)::m2⟩ e (.int k)) (hz:ks.length≤16777216) (hk:k≤ks.length)
 (kk:SLC C ⟨ρ,m1++(a,.ba (ks.drop k))::m2⟩ rest K E):SLC C ⟨ρ,m1++(a,.ba ks)::m2⟩ (.Delete [.Subscript o (.Slice none (some e) none sp) dp] pos::rest) K E:=by
 refine SC_bind (fun σ'=>σ'=⟨ρ,m1++(a,.ba (ks.drop k))::m2⟩) (fun imm s R=>?_) fun σ' e=>by subst e;exact kk
 refine qfw (ho.goV imm s R _ _ fun i1 s1 hs1 R1=>?_)
 with_reducible refine wpAny_Slice ((Pt.none (C:=C)).run i1 s1 R1 _ _ fun vl i2 s2 hs2 R2 hl=>(Pt.some he).run i2 s2 R2 _ _ fun vu i3 s3 hs3 R3 hu=>?_)
 refine wpAny_pure ?_
 have R3':=R3
 refine Rel.elim R3' fun m os kc fs RX=>?_
 have R4:Rel C ⟨ρ,m1++(a,.ba ks)::m2⟩ i3 ⟨s3.heap.push { cls:=.type "slice",data:=.fields #[vl,vu,.none] },s3.gens,s3.drawn,s3.toks,s3.os⟩ :=
  (RX.ofFN (RX.fr.push _) (RX.nw.pushKeep _)).rel
 obtain ⟨c,hc,ec,fin⟩:=R4.putBa
 have hsz:c.size=ks.length:=by rw [← ec,qca]
 refine wpC_delItem hg hc (Heap.IsSliceOf.new _ _ _ _) hl hu (by rw [hsz];exact hz) fun h' g sb=>?_
 have R5:=fin h' _ s3.drawn s3.toks g sb
 have e1:sliceBounds none (some (k:Int)) none c.size=(0,(k:Int),1):=by
  have hk':(k:Int)≤(c.size:Int):=by lia
  refine Prod.ext rfl (Prod.ext ?_ rfl)
  show max (0:Int) (min (if (k:Int)<0 then (k:Int)+c.size else (k:Int)) (c.size:Int))=_
  rw [if_neg (by lia)]
  show max (0:Int) (min (k:Int) (c.size:Int))=(k:Int)
  lia
 have e2:bI (kept c (sliceBounds none (some (k:Int)) none c.size).1 (sliceBounds none (some (k:Int)) none c.size).2.1 (sliceBounds none (some (k:Int)) none c.size).2.2)=ks.drop k:=by
  rw [e1]
  show (kept c 0 k 1).toList.map _=_
  rw [kept_pre,List.map_drop,← ec]
  rfl
 rw [e2] at R5
 exact ⟨rfl,_,i3,qa0 hs1 (qa0 hs2 hs3),R5,rfl⟩
end
section
variable {M:Model}{A:Around}{E:Value→Shared→Prop}{s:Shared}
theorem wpC_keep {α:Type}{vs:List Value}{m:Sem α}{Q:α→Shared→Prop} (h:wpC M A m Q E s):wpC M A (m.keep vs) Q E s :=
 fun Γ p hΓ b=>by rw [Sem.wp_keep];exact h Γ p hΓ b
theorem qe6 {env:Env}{x:Str}{pos':Pos}{value:Expr}{pos:Pos}{Q:Flow→Shared→Prop}
 (h:wpC M A (eval value env) (fun v s₁=>wpAny M A (storeName env x v) (fun V=>Q .next) E s₁) E s)
 (hs:swapsWith value (some (.Name x pos')) pos.line env=pure false) :
 wpC M A (exec (.Assign [.Name x pos'] value pos) env) Q E s:=fun Γ p hΓ b=>by
 simp only [exec_Assign_Name env x pos' value pos hs,Sem.wp_bind',Sem.wp_cmd_standAt,Sem.wp_bindName,Sem.wp_pure']
 exact Sem.wp_mono M Γ _ (fun v V s₁ h₁=>h₁ Γ _ hΓ) (fun V V V h'=>h') _ _ (h Γ _ hΓ b)
theorem qct {pos:Pos}{f:Value}{first:List Value}{Q:Value→Shared→Prop}{P:Heap→Prop}{args:List (Bool×Sem Value)}{keywords:List (Option Str×Sem Value)} (hplain:(args.any (·.1) || keywords.any (·.1.isNone))=false)
 (hk:∀ h,P h→∃ k,(k=Keeper.frame∨k=Keeper.machine∨k=Keeper.boundFrame)∧Looks M h (keeperOf f) k)
 (h:wpAny M A (evalArgs f true args keywords) (fun a s₁=>P s₁.heap∧wpC M A (call f (first++a.pos) a.kw) Q E s₁) E s):wpC M A (callWith pos f first args keywords) Q E s:=by
 unfold callWith
 refine qa1 (wpAny_holding (wpAny_mono h (fun a s₁ h₁=>qa1 (wpAny_standAt ?_)) fun V V x=>x))
 obtain ⟨k,hk',L⟩:=hk _ h₁.1
 rw [hplain]
 refine qa1 (L.here ?_)
 have tail:∀ {t:Sem Value},wpC M A t Q E s₁→wpC M A (t >>= fun r=>holding [r] point >>= fun V=>pure r) Q E s₁ :=
  fun ht=>qae (qa4 ht (fun r s₂ hr=>qa1 (wpAny_holding (wpAny_point (qa8 hr)))) fun V V x=>x)
 have marked (mk:Value):wpC M A (callMarked mk f (first++a.pos) a.kw) Q E s₁:=by unfold callMarked;exact wpC_keep h₁.2
 rcases hk' with rfl | rfl | rfl <;> dsimp only <;> first | exact tail h₁.2 | (split <;> first | exact tail h₁.2 | exact tail (marked _))
end
section
variable {C:Cx}{σ:AS}{n:Nat}{imm:List Cell}{s:Shared}{K:Fl→AS→Prop}{E:Value→Shared→Prop}{rest:List Stmt}
theorem qdt {x:Str}{p pos:Pos}{args:List Expr}{Q:Value→Shared→Prop}
 (h:wpAny C.M C.A (eval (.Name x p) C.env) (fun f s₁=>wpC C.M C.A (callWith pos f [] (backTo pos (starEach args C.env)) []) Q E s₁) E s) :
 wpC C.M C.A (eval (.Call (.Name x p) args [] pos) C.env) Q E s:=qa1 h
theorem qfk {o:Expr}{name:Str}{apos pos:Pos}{args:List Expr}{Q:Value→Shared→Prop}
 (hbase:attributeBase o name C.env (eval o C.env)=eval o C.env) (hline:(apos.endLine == pos.line)=true) (hst:(backTo pos (starEach args C.env)).any (·.1)=false) (hlen:args.length<30)
 (h:wpAny C.M C.A (eval o C.env) (fun ov s₁=>∀ pl,wpAny C.M C.A (getMethod ov name pl) (fun fx s₂=>wpC C.M C.A (callWith pos fx.1 fx.2 (backTo pos (starEach args C.env)) []) Q E s₂) E s₁) E s) :
 wpC C.M C.A (eval (.Call (.Attribute o name apos) args [] pos) C.env) Q E s:=by
 rw [arm_eval_Call,hbase]
 refine qa1 (wpAny_mono h (fun ov s₁ h₁=>?_) fun V V e=>e)
 refine qa1 (wpAny_standAt ?_)
 have hall:(backTo pos (starEach args C.env)).all (fun x=>!x.1)=true:=by
  rw [List.all_eq_true]
  intro x hx
  have:=List.any_eq_false.mp hst x hx
  simpa using this
 have hform:methodCallForm (args.length+([]:List Keyword).length) (backTo pos (starEach args C.env)) (backToKw pos (keywordEach [] C.env))=true:=by
  unfold methodCallForm
  rw [hall]
  simp only [List.length_nil,Nat.add_zero,Bool.true_and]
  show (true && decide (args.length+0<30))=true
  simp;lia
 have hpos:methodCallPos true o C.env apos pos=pure pos:=by unfold methodCallPos;simp [hline]
 unfold methodCall
 rw [hform]
 refine qa1 (wpAny_holding (wpAny_mono (h₁ _) (fun fx s₂ h₂=>?_) fun V V e=>e))
 obtain ⟨f,first⟩:=fx
 exact qa1 (wpAny_of_eq hpos h₂)
theorem XC_newBa {x:Str}{p pos:Pos}{K:D→AS→Prop}{ρ:List Slot}{ms:List (Addr×AO)} (hg:C.A.guards=some []) (hx:X C ⟨ρ,ms⟩ (.Name x p) (.val (.type "bytearray"))) (k:∀ a,K (.val (.ref a)) ⟨ρ,(a,.ba [])::ms⟩):XC C ⟨ρ,ms⟩ (.Call (.Name x p) [] [] pos) K E:=.mk fun imm s R=>by
 refine qdt (hx.goV imm s R _ _ fun i1 s1 hs1 R1=>?_)
 refine qct (P:=fun V=>True) rfl (fun h V=>⟨.machine,.inr (.inl rfl),Looks.of_pure rfl⟩) (evalArgs_nil3 ⟨trivial,?_⟩)
 refine Rel.elim R1 fun m os kc fs RX=>?_
 refine wpC_newBa hg RX.fr RX.nw fun a h' F N hlt=>?_
 have hD:∀ q:Cell,q∈os++(kc++(i1++(fs++C.hid)))→q.1≠a:=fun q hq e=>Nat.lt_irrefl _ (e ▸ hlt q hq)
 refine ⟨.val (.ref a),⟨ρ,(a,.ba [])::ms⟩,i1,hs1,⟨m,(a,_)::os,kc,fs,{ RX with
  fr:=F
  nw:=N
  mu:=.cons (.ba (b:=#[]) rfl) RX.mu
  nd:=by
   rw [lca,lmc,List.nodup_cons]
   refine ⟨fun h=>?_,RX.nd⟩
   obtain ⟨q,hq,e⟩:=mmj h
   exact hD q (by rw [← laa];exact mal _ hq) e
  ap:=fun q hq h=>by
   rw [lca,lmc] at h
   rcases mcj h with h | h
   ·exact hD q (mar _ (mar _ hq)) h
   ·exact RX.ap q hq h }⟩,.val _,k a⟩
end
noncomputable abbrev Cx.in1 (C:Cx) (Cc:Addr) (vs:List Value):Cx:={ C with A:=C.A.under (.builtin "type.__call__" ⟨.ref Cc::vs,[]⟩) }
section
variable {C:Cx}{σ:AS}{n:Nat}{imm:List Cell}{s:Shared}{Cc:Addr}{vs:List Value}
theorem Rel.in1 (R:Rel C σ imm s):Rel (C.in1 Cc vs) σ imm s:=by
 refine Rel.elim R fun m os kc fs R=>?_
 exact ⟨m,os,kc,fs,{ fr:=R.fr,nw:=R.nw,mu:=R.mu,kd:=R.kd,nd:=R.nd,ap:=R.ap,ah:=R.ah,hn:=R.hn,ou:=R.ou,nm:=R.nm,kn:=R.kn,va:=R.va,cc:=R.cc,gn:=R.gn,so:=R.so }⟩
theorem Rel.out1 (R:Rel (C.in1 Cc vs) σ imm s):Rel C σ imm s:=by
 refine Rel.elim R fun m os kc fs R=>?_
 exact ⟨m,os,kc,fs,{ fr:=R.fr,nw:=R.nw,mu:=R.mu,kd:=R.kd,nd:=R.nd,ap:=R.ap,ah:=R.ah,hn:=R.hn,ou:=R.ou,nm:=R.nm,kn:=R.kn,va:=R.va,cc:=R.cc,gn:=R.gn,so:=R.so }⟩
theorem Ok.in1 (O:Ok C (n+1)):Ok (C.in1 Cc vs) n:={ O with
 dep:=by show C.A.depth+1+n<recursionLimit;have:=O.dep;lia
 un:=by show C.A.units+1+20 * n+20<cLine;have:=O.un;lia
 hn:=O.hn }
theorem guards_in1 (h:C.A.guards=some []):(C.in1 Cc vs).A.guards=some []:=by
 unfold Cx.in1 Around.under
 simp only [h]
 rfl
end
section
variable {C:Cx}{n:Nat}{ρ:List Slot}{ms:List (Addr×AO)}{K:D→AS→Prop}{E:Value→Shared→Prop}
end
section
variable {P:Params}
theorem qdd:setA P 330 "_data"=true:=by kernel_rfl
theorem FB_set_hb:setA P 330 "_headers_buffer"=true:=by kernel_rfl
end
section
variable {P:Params}
theorem sl_fb {d0 d1:D}:qa7 (fdAt P 292).scope.names ["self","server"] [d0,d1]=[⟨"self",.local,some d0⟩,⟨"server",.local,some d1⟩,⟨"bytearray",.globalImplicit,none⟩,⟨"len",.globalImplicit,none⟩]:=by kernel_rfl
end
section
variable {C:Cx}{σ:AS}{n:Nat}{imm:List Cell}{s:Shared}{K:Fl→AS→Prop}{E:Value→Shared→Prop}{rest:List Stmt}
theorem qfs {ρ:List Slot}{ms:List (Addr×AO)}{lp:Pos}:XM C ⟨ρ,ms⟩ (.List [] lp) (fun d σ'=>∃ a,d=.val (.ref a)∧σ'=⟨ρ,(a,.lst [])::ms⟩) E:=.mk fun imm s R=>by
 with_reducible refine List_ (spliced_nil ?_)
 refine wpAny_newObj_type ?_
 exact ⟨_,_,imm,qa2,Rel.newMut (ρ:=ρ) (ms:=ms) (o:=lstO [] 0) R (fun V V e=>Heap.get?_push_of_some _ e) (AOIs.lst (o:=lstO [] 0) (n:=0) rfl rfl rfl .nil) (Heap.get?_push_size _ rfl) (Heap.get?_none_of_le (Nat.le_refl _)),.val _,_,rfl,rfl⟩
end
section
variable {prog:Program}{w:World}{A:Around}{E:Value→Shared→Prop}{s:Shared}
theorem qc8 {R:Result→Shared→Prop}{a:Addr}{o:Obj}{fd:FuncData}{body:List Stmt}{vals:List Value}{binds:List (Str×Value)}
 (hroom:A.depth<recursionLimit) (ho:s.heap.get? a=some o) (hdata:o.data=.func fd) (hlim:s.heap.NoLimit) (hcd:s.heap.CodeRec fd.code fd.qualname)
 (hbody:fd.body=.stmts body) (hbind:BindsTo s fd ⟨vals,[]⟩ binds) (hclo:fd.closure=[])
 (hkind:∀ x∈binds,fd.scope.names.lookup x.1=some .local∨(fd.scope.names.lookup x.1=some .cell∧((cellsFrom (s.heap.objs.size+1) fd.scope.names []).lookup x.1).isSome=true))
 (h:∀ s₁,InCallC s (callEnvC fd s.heap.objs.size a).locals (bindL (callEnvC fd s.heap.objs.size a).kindOf binds fun V=>none) (callEnvC fd s.heap.objs.size a).cells
  (bindC (callEnvC fd s.heap.objs.size a).kindOf binds fun V=>none) s₁ →
  wpC (model prog w) (A.deeper (callEnvC fd s.heap.objs.size a)) (execs body (callEnvC fd s.heap.objs.size a)) (fun f s'=>R (.ok (.ret (match f with | .ret v=>v | _=>.none))) s')
   (fun e s'=>wpAny (model prog w) (A.deeper (callEnvC fd s.heap.objs.size a)) (leaving (callEnvC fd s.heap.objs.size a) e) (fun V s''=>R (.error e) s'') (fun e' s''=>R (.error e') s'') s') s₁)
 (hco:fd.scope.isCoroutine=false:=by rfl) (hgen:fd.scope.isGenerator=false:=by rfl) (hk:fd.scope.kind=.function:=by rfl) :
 qbe (model prog w) A (.call (.ref a) ⟨vals,[]⟩) R s:=by
 refine codeC_call hroom ho hdata hco hgen hbody hcd ?_
 rw [hclo]
 refine hbind _ _ _ _ (wpAny_newFunctionEnv_cells hk hkind fun env he s' x=>?_)
 subst he
 exact ⟨hlim.keeps x.toInCall.keep,codeC_func (h s' x)⟩
end
section
variable {C:Cx}{n:Nat}{imm:List Cell}{s:Shared}{ρ:List Slot}{M1 M2:List (Addr×AO)}{f:Addr}{fd:FuncData}{body:List Stmt}{ps:List Str}{vs:List Value}{ds:List D}
end
section
variable {P:Params}
theorem fb_defs:(fdAt P 292).defaults=.ref 285:=by kernel_rfl
noncomputable def tupAt (P:Params) (a:Addr):Array Value×Nat:=match (K39 P).lookup a with
 | some ⟨_,_,.seq xs n,_⟩=>(xs,n)
 | _=>(#[],0)
theorem fb_tup:(K39 P).lookup 285=some { cls:=.type "tuple",data:=.seq (tupAt P 285).1 (tupAt P 285).2 }:=by kernel_rfl
theorem rec_fb:qdn P 292 (fdAt P 292) (qad (fdAt P 292)) ["self","server"] where
 lk:=by kernel_rfl
 code:=by kernel_rfl
 body:=by kernel_rfl
 bind:=fun s vs h X=>bndS (P:=fun vs=>BindsTo s (fdAt P 292) ⟨vs,[]⟩ ([("self":Str),"server"].zip vs)) (fun v0=>bndS fun v1=>bnd0 (BindsTo.of_defaults fb_defs (X _ _ fb_tup) rfl rfl (by kernel_rfl))) vs h
 gl:=by kernel_rfl
 bi:=by kernel_rfl
 clo:=by kernel_rfl
 hk:=by kernel_rfl
 hg:=by kernel_rfl
 hc:=by kernel_rfl
 nd:=of_decide_eq_true (by kernel_rfl)
 nb:=by kernel_rfl
 pk:=by kernel_rfl
 pn:=by decide +kernel
end
section
variable {C:Cx}{n:Nat}{ρ:List Slot}{ms:List (Addr×AO)}{K:D→AS→Prop}{E:Value→Shared→Prop}
end
def Fw (base:Heap) (l:List Env) (e:Addr) (cls c2:Value) (fl:Option Value) (h:Heap):Prop :=
 base.StaysIn h∧base.get? e=none∧h.FunFrames base l∧∃ oe vs,h.get? e=some oe∧oe.cls=cls∧oe.data=.fields vs∧vs[2]?=some c2 ∧
  match fl with
  | none=>vs[1]?=some .none
  | some f=>∃ T oT ts,vs[1]?=some (.ref T)∧base.get? T=none∧T≠e∧h.get? T=some oT∧oT.data=.fields ts∧ts[3]?=some f
abbrev FlOk (L:Addr) (fl:Option Value):Prop:=fl=none∨fl=some .none∨fl=some (rawInt L)
section
variable {M:Model}{A:Around}{E:Value→Shared→Prop}{s:Shared}{base:Heap}{env:Env}{outer l:List Env}{L e:Addr}{cls c2:Value}{Q:Unit→Shared→Prop}
theorem Fw.pop {fl:Option Value}{h:Heap} (x:Fw base (env::outer) e cls c2 fl h):Fw base outer e cls c2 fl h :=
 by obtain ⟨a,b,⟨_,_,c⟩,d⟩:=x;exact ⟨a,b,c,d⟩
theorem Fw.ty {fl:Option Value}{h:Heap} (x:Fw base l e cls c2 fl h):∃ ob,h.get? e=some ob∧ob.cls=cls :=
 by obtain ⟨_,_,_,oe,_,h1,h2,_⟩:=x;exact ⟨oe,h1,h2⟩
theorem ups_of {h h':Heap}{x:Addr}{vs:Array Value}{o:Obj} (ho:h.get? x=some o) (hd:o.data=.fields vs) (k:∀ b,b≠x→h'.get? b=h.get? b):h.UpToSlots h':=fun b ob hb hn=>by
 have:b≠x:=fun q=>by subst q;rw [ho] at hb;cases hb;exact hn vs hd
 exact ⟨ob.slots,(k b this).trans hb⟩
theorem FunFrames.ups {h h':Heap} (hl:h.FunFrames base l) (k:h.UpToSlots h'):h'.FunFrames base l :=
 hl.of_keeps fun b o hb hn=>by obtain ⟨sl,e⟩:=k b o hb hn;exact ⟨_,e,rfl⟩
theorem entryT {oe:Obj}{vs:Array Value}{head:Value}{hadNext:Bool} (hfr:A.frames=some (env::outer)) (hl:s.heap.FunFrames base (env::outer)) (hf:env.frame=some L)
 (he:s.heap.get? e=some oe) (hkb:base.StaysIn s.heap) (hen:base.get? e=none) (hd:oe.data=.fields vs) (hsz:1<vs.size) (h2:vs[2]?=some c2)
 (h:∀ h',Fw base (env::outer) e oe.cls c2 (some (rawInt L)) h'→s.heap.UpToSlots h'→Q () { s with heap:=h' }) :
 wpAny M A (do let a ← frameOf env;let pl ← entryPlaceOf L hadNext;let b ← EntryCells.newEntry head a .none (rawInt L) .none pl;setField (.ref e) 1 b) Q E s:=by
 have hene:e ∉ (env::outer).filterMap (·.frame):=fun hm=>by
  obtain ⟨_,o,ho,hnf⟩:=hl.mem hm
  rw [he] at ho;cases ho;exact hnf vs hd
 refine wpAny_bind (wpAny_frameOf_fun hfr hl hf fun h₁ x₁=>wpAny_bind (wpAny_entryPlaceOf fun pl hpl=>?_))
 unfold EntryCells.newEntry newFields
 refine wpAny_bind (wpAny_newObj_type ?_ (hpl.sizeOk5 _ _ _ _ _))
 generalize hts:([head,.ref L,.none,rawInt L,.none]++(if pl.isEmpty then List.replicate 6 Value.none else pl))=ts
 have he₁:h₁.get? e=some oe:=(x₁.2.1 e hene).trans he
 have kb₁:base.StaysIn h₁:=fun b o hbo=>(x₁.2.1 b fun hm=>by rw [(hl.mem hm).1] at hbo;cases hbo).trans (hkb b o hbo)
 have he₂:=Heap.get?_push_of_some (h:=h₁) { cls:=.type "traceback",dict:=none,data:=.fields ts.toArray } he₁
 have hT:h₁.objs.size≠e:=Nat.ne_of_gt (Heap.lt_size he₁)
 have hd₃:=Obj.data_mapFields hd (·.setIfInBounds 1 (Value.ref h₁.objs.size))
 have keep:∀ b o,b≠e→h₁.get? b=some o→((h₁.push { cls:=.type "traceback",dict:=none,data:=.fields ts.toArray }).update e (Obj.mapFields (·.setIfInBounds 1 (Value.ref h₁.objs.size)))).get? b=some o :=
  fun b o hbe hb=>by rw [Heap.get?_update_other _ _ (Ne.symm hbe)];exact Heap.get?_push_of_some _ hb
 have ups:s.heap.UpToSlots ((h₁.push { cls:=.type "traceback",dict:=none,data:=.fields ts.toArray }).update e (Obj.mapFields (·.setIfInBounds 1 (Value.ref h₁.objs.size)))):=fun b o hb hn=>by
  obtain ⟨sl,hs⟩:=x₁.2.2 b o hb
  exact ⟨sl,keep b _ (fun q=>by rw [q,he] at hb;cases hb;exact hn vs hd) hs⟩
 refine wpAny_setField he₂ hd hsz (h _ ⟨fun b o hbo=>keep b o (fun q=>by rw [q,hen] at hbo;cases hbo) (kb₁ b o hbo),hen,FunFrames.ups hl ups,_,_,
  Heap.get?_update_self _ he₂ (Obj.isFreed_of_fields hd₃),Obj.cls_mapFields _ _,hd₃,by rw [Array.getElem?_setIfInBounds_ne (by decide)];exact h2,
  h₁.objs.size,_,ts.toArray,by simp [hsz],kb₁.fresh,hT,(Heap.get?_update_other _ _ (Ne.symm hT)).trans (Heap.get?_push_size h₁ rfl),rfl,?_⟩ ups)
 subst hts
 first | (simp;done) | (rcases hpl with rfl | ⟨_,_,_,_,_,_,_,rfl⟩ <;> simp)
theorem noteT {fl:Option Value} (hfl:FlOk L fl) (hfr:A.frames=some (env::outer)) (hf:env.frame=some L) (x:Fw base (env::outer) e cls c2 fl s.heap)
 (h:∀ h',Fw base (env::outer) e cls c2 (some (rawInt L)) h'→s.heap.UpToSlots h'→Q () { s with heap:=h' }):wpAny M A (noteFrame (.ref e) env) Q E s:=by
 obtain ⟨k1,k2,k3,oe,vs,he,hc,hd,h2,z⟩:=x
 have hs2:2<vs.size:=(Array.getElem?_eq_some_iff.mp h2).1
 subst hc
 unfold noteFrame
 simp only [hf]
 rcases hfl with rfl | rfl | rfl
 ·refine wpAny_bind (wpAny_field he hd z ?_)
  rw [if_neg (by decide)]
  exact entryT hfr k3 hf he k1 k2 hd (by lia) h2 h
 ·obtain ⟨T,oT,ts,h1,hnT,hTe,hT,hdT,h3⟩:=z
  refine wpAny_bind (wpAny_field he hd h1 ?_)
  rw [if_pos (show (Value.ref T != Value.none)=true from by simp)]
  refine wpAny_bind (wpAny_field hT hdT h3 ?_)
  rw [if_neg (show ¬ ((Value.none == rawInt L)=true) from by simp [rawInt])]
  refine wpAny_bind (wpAny_setField hT hdT (Array.getElem?_eq_some_iff.mp h3).1 ?_)
  have ot:∀ b,b≠T→(s.heap.update T (Obj.mapFields (·.setIfInBounds 3 Value.none))).get? b=s.heap.get? b:=fun b hb=>Heap.get?_update_other _ _ (Ne.symm hb)
  have up:=ups_of hT hdT ot
  exact entryT hfr (FunFrames.ups k3 up) hf ((ot e (Ne.symm hTe)).trans he) (fun b o hbo=>(ot b fun q=>by rw [q,hnT] at hbo;cases hbo).trans (k1 b o hbo)) k2 hd (by lia) h2
   fun h' x' u'=>h h' x' (up.trans u')
 ·obtain ⟨T,oT,ts,h1,hnT,hTe,hT,hdT,h3⟩:=z
  refine wpAny_bind (wpAny_field he hd h1 ?_)
  rw [if_pos (show (Value.ref T != Value.none)=true from by simp)]
  refine wpAny_bind (wpAny_field hT hdT h3 ?_)
  rw [if_pos (show (rawInt L == rawInt L)=true from by simp)]
  exact wpAny_pure (h _ ⟨k1,k2,k3,oe,vs,he,rfl,hd,h2,T,oT,ts,h1,hnT,hTe,hT,hdT,h3⟩ (Heap.UpToSlots.refl _))
theorem landT {fl:Option Value} (x:Fw base l e cls c2 fl s.heap) (h:∀ h' fl',(∀ L',FlOk L' fl')→Fw base l e cls c2 fl' h'→s.heap.UpToSlots h'→Q () { s with heap:=h' }) :
 wpAny M A (setFlight (.ref e) none) Q E s:=by
 obtain ⟨k1,k2,k3,oe,vs,he,hc,hd,h2,z⟩:=x
 unfold setFlight
 cases fl with
 | none =>
  refine wpAny_bind (wpAny_field he hd z ?_)
  rw [if_neg (by decide)]
  exact wpAny_pure (h _ none (fun V=>.inl rfl) ⟨k1,k2,k3,oe,vs,he,hc,hd,h2,z⟩ (Heap.UpToSlots.refl _))
 | some f =>
  obtain ⟨T,oT,ts,h1,hnT,hTe,hT,hdT,h3⟩:=z
  have hs3:3<ts.size:=(Array.getElem?_eq_some_iff.mp h3).1
  refine wpAny_bind (wpAny_field he hd h1 ?_)
  rw [if_pos (show (Value.ref T != Value.none)=true from by simp)]
  have ot:∀ b,b≠T→(s.heap.update T (Obj.mapFields (·.setIfInBounds 3 ((none:Option Addr).elim Value.none fun f=>rawInt f)))).get? b=s.heap.get? b:=fun b hb=>Heap.get?_update_other _ _ (Ne.symm hb)
  have up:=ups_of hT hdT ot
  have hd':=Obj.data_mapFields hdT (·.setIfInBounds 3 ((none:Option Addr).elim Value.none fun f=>rawInt f))
  exact wpAny_setField hT hdT hs3 (h _ (some .none) (fun V=>.inr (.inl rfl)) ⟨fun b o hbo=>(ot b fun q=>by rw [q,hnT] at hbo;cases hbo).trans (k1 b o hbo),k2,FunFrames.ups k3 up,oe,vs,(ot e (Ne.symm hTe)).trans he,hc,hd,h2,
   T,_,_,h1,hnT,hTe,Heap.get?_update_self _ hT (Obj.isFreed_of_fields hd'),hd',by simp [hs3]⟩ up)
theorem setOnT (x:Fw base l e cls c2 (some (rawInt L)) s.heap) (h:∀ h',Fw base l e cls c2 (some (rawInt L)) h'→s.heap.UpToSlots h'→Q () { s with heap:=h' }):wpAny M A (setFlight (.ref e) (some L)) Q E s:=by
 obtain ⟨k1,k2,k3,oe,vs,he,hc,hd,h2,T,oT,ts,h1,hnT,hTe,hT,hdT,h3⟩:=x
 have hs3:3<ts.size:=(Array.getElem?_eq_some_iff.mp h3).1
 unfold setFlight
 refine wpAny_bind (wpAny_field he hd h1 ?_)
 rw [if_pos (show (Value.ref T != Value.none)=true from by simp)]
 have ot:∀ b,b≠T→(s.heap.update T (Obj.mapFields (·.setIfInBounds 3 ((some L:Option Addr).elim Value.none fun f=>rawInt f)))).get? b=s.heap.get? b:=fun b hb=>Heap.get?_update_other _ _ (Ne.symm hb)
 have up:=ups_of hT hdT ot
 have hd':=Obj.data_mapFields hdT (·.setIfInBounds 3 ((some L:Option Addr).elim Value.none fun f=>rawInt f))
 exact wpAny_setField hT hdT hs3 (h _ ⟨fun b o hbo=>(ot b fun q=>by rw [q,hnT] at hbo;cases hbo).trans (k1 b o hbo),k2,FunFrames.ups k3 up,oe,vs,(ot e (Ne.symm hTe)).trans he,hc,hd,h2,
  T,_,_,h1,hnT,hTe,Heap.get?_update_self _ hT (Obj.isFreed_of_fields hd'),hd',by simp [hs3]⟩ up)
theorem backT {E':Value→Shared→Prop} (hf:env.frame=some L) (x:Fw base l e cls c2 (some (rawInt L)) s.heap) (h:∀ h',Fw base l e cls c2 (some (rawInt L)) h'→s.heap.UpToSlots h'→E' (.ref e) { s with heap:=h' }):cameBackBy M A env E' (.ref e) s:=by
 obtain ⟨k1,k2,k3,oe,vs,he,hc,hd,h2,T,oT,ts,h1,hr⟩:=id x
 unfold cameBackBy
 refine wpAny_bind (wpAny_field he hd h1 ?_)
 rw [if_neg (show ¬ (Value.ref T == Value.none)=true from by simp),hf]
 exact setOnT x h
theorem passT {α:Type}{what:String}{Q:α→Shared→Prop} (hf:env.frame=some L) (x:Fw base l e cls c2 (some (rawInt L)) s.heap) (h:∀ h',Fw base l e cls c2 (some (rawInt L)) h'→s.heap.UpToSlots h'→E (.ref e) { s with heap:=h' }):wpAny M A (PySem.passOn what (.ref e) env:Sem α) Q E s:=by
 obtain ⟨k1,k2,k3,oe,vs,he,hc,hd,h2,T,oT,ts,h1,hr⟩:=id x
 unfold PySem.passOn
 refine wpAny_bind (wpAny_field he hd h1 ?_)
 rw [if_neg (show ¬ (Value.ref T == Value.none)=true from by simp),hf]
 exact wpAny_bind (setOnT x fun h' y u=>wpAny_throw (h h' y u))
theorem leaveT {fl:Option Value} (hfl:FlOk L fl) (hfr:A.frames=some (env::outer)) (hf:env.frame=some L) (x:Fw base (env::outer) e cls c2 fl s.heap)
 (h:∀ h' fl',(∀ L',FlOk L' fl')→Fw base outer e cls c2 fl' h'→s.heap.UpToSlots h'→Q () { s with heap:=h' }):wpAny M A (leaving env (.ref e)) Q E s :=
 wpAny_bind (noteT hfl hfr hf x fun h' x' u=>landT x' fun h'' fl' f' x'' u'=>h h'' fl' f' x''.pop (u.trans u'))
end
structure OkR (C:Cx):Prop where
 ex:∃ frs,C.A.frames=some (C.env::frs)∧∀ e∈frs,e.scope.kind=.function∧∃ L,e.frame=some L∧L∈C.outs.map (·.1)
 fr:C.env.frame=some C.env.locals
 gd:C.A.guards=some []
inductive Fly (C:Cx) (σ:AS) (imm:List Cell) (e cls c2:Value) (s:Shared):Prop
 | mk (frs:List Env) (m:Str→Option Value) (os kc fs:List Cell) (B:Heap) (a:Addr) (fl:Option Value):e=.ref a→FlOk C.env.locals fl→C.A.frames=some (C.env::frs)→RelX C σ imm s m os kc fs →
  (∀ p∈os++(kc++(imm++C.hid)),B.get? p.1=some p.2)→C.base.StaysIn B→Fw B (C.env::frs) a cls c2 fl s.heap→Fly C σ imm e cls c2 s
inductive qcw (C:Cx) (imm:List Cell) (KE:Value→Value→AS→Prop) (e:Value) (s':Shared):Prop
 | mk (σ':AS) (imm':List Cell) (cls c2:Value):imm⊆imm'→Fly C σ' imm' e cls c2 s'→KE cls c2 σ'→qcw C imm KE e s'
theorem qcw.up {C:Cx}{imm i1:List Cell}{K:Value→Value→AS→Prop}{e:Value}{s':Shared} (hs:imm⊆i1) (h:qcw C i1 K e s'):qcw C imm K e s':=by
 cases h with | mk σ' i cls c2 a b c=>exact ⟨σ',i,cls,c2,qa0 hs a,b,c⟩
structure SR (C:Cx) (σ:AS) (t:Sem Flow) (K:Fl→AS→Prop) (KE:Value→Value→AS→Prop):Prop where
 go:∀ imm s,Rel C σ imm s→wpC C.M C.A t (qd2 C imm K)
  (qcw C imm KE) s
abbrev SLR (C:Cx) (σ:AS) (ss:List Stmt) (K:Fl→AS→Prop) (KE:Value→Value→AS→Prop):Prop:=SR C σ (execs ss C.env) K KE
noncomputable abbrev Cx.calledR (C:Cx) (fd:FuncData) (L f:Addr) (hid:List Cell) (m:Str→Option Value):Cx:={ C.called fd L f hid with outs:=(C.env.locals,m)::C.outs }
theorem Outs.ups {h h':Heap} (u:h.UpToSlots h') {fs:List Cell}{ms} (x:Outs fs ms) (k:∀ p∈fs,h.get? p.1=some p.2):∃ fs',Outs fs' ms∧fs'.map (·.1)=fs.map (·.1)∧∀ p∈fs',h'.get? p.1=some p.2:=by
 induction x with
 | nil=>exact ⟨[],.nil,rfl,fun V h=>nomatch h⟩
 | @cons L o m os ms hN _ ih =>
  obtain ⟨fs',h1,h2,h3⟩:=ih fun p hp=>k p (.tail _ hp)
  obtain ⟨o',es,ep,ho,hd,hk,hf⟩:=hN h (k _ (.head _))
  have:o=o':=Option.some.inj ((k _ (.head _)).symm.trans ho)
  subst this
  obtain ⟨sl,hs⟩:=u L o ho fun vs q=>by rw [hd] at q;cases q
  refine ⟨(L,{ o with slots:=sl })::fs',.cons (fun h'' q=>⟨_,es,ep,q,hd,hk,hf⟩) h1,by rw [lmc,lmc,h2],fun p hp=>?_⟩
  rcases mcj hp with rfl | hp
  ·exact hs
  ·exact h3 p hp
theorem Outs.funs {base h:Heap}{fs:List Cell}{ms} (x:Outs fs ms) (k:∀ p∈fs,h.get? p.1=some p.2):∀ L∈ms.map (·.1),∃ o,(L,o)∈fs∧h.get? L=some o∧∀ vs,o.data≠.fields vs:=by
 induction x with
 | nil=>intro L h;cases h
 | @cons L o m os ms hN _ ih =>
  intro L' hL
  rcases mcj hL with e | hL
  ·subst e
   obtain ⟨o',es,ep,ho,hd,hk,hf⟩:=hN h (k _ (.head _))
   have:o=o':=Option.some.inj ((k _ (.head _)).symm.trans ho)
   subst this
   exact ⟨o,.head _,ho,fun vs q=>by rw [hd] at q;cases q⟩
  ·obtain ⟨o',h1,h2,h3⟩:=ih (fun p hp=>k p (.tail _ hp)) L' hL
   exact ⟨o',.tail _ h1,h2,h3⟩
section
variable {C:Cx}{σ:AS}{n:Nat}{imm:List Cell}{s:Shared}{K:Fl→AS→Prop}{KE:Value→Value→AS→Prop}{rest:List Stmt}
theorem SC.toR {t:Sem Flow} (h:SC C σ t K (fun V V=>False)):SR C σ t K KE:=.mk fun imm s R=>qa4 (h.go imm s R) (fun V V x=>x) fun V V x=>x.elim
theorem SR_pre {pre:List Stmt} (J:AS→Prop) (h:SLR C σ pre (fun f σ'=>match f with | .next=>J σ' | f=>K f σ') KE) (k:∀ σ',J σ'→SLR C σ' rest K KE):SLR C σ (pre++rest) K KE:=.mk fun imm s R=>by
 intro Γ p a b
 rw [qb7]
 refine Sem.wp_mono _ Γ _ (fun f p' s' ⟨f',σ',i',hs,R',hf,z⟩=>?_) (fun V V V x=>x) p s (h.go imm s R Γ p a b)
 cases hf with
 | next=>exact qa4 ((k σ' z).go i' s' R') (fun V V h=>h.up hs) (fun V V h=>h.up hs) Γ p' a b
 | brk=>exact ⟨.brk,σ',i',hs,R',.brk,z⟩
 | cont=>exact ⟨.cont,σ',i',hs,R',.cont,z⟩
 | ret hv=>exact ⟨_,σ',i',hs,R',.ret hv,z⟩
theorem SR_step {st:Stmt} (J:AS→Prop) (h:SLC C σ [st] (fun f σ'=>match f with | .next=>J σ' | f=>K f σ') (fun V V=>False)) (k:∀ σ',J σ'→SLR C σ' rest K KE):SLR C σ (st::rest) K KE :=
 SR_pre (pre:=[st]) J h.toR k
theorem qaw (h:K .next σ):SLR C σ [] K KE:=SC.toR (SL.toC (qam h))
theorem SR_return {e:Expr}{pos:Pos}{d:D} (h:X C σ e d) (k:K (.ret d) σ):SLR C σ (.Return (some e) pos::rest) K KE:=SC.toR (SL.toC (S_return h k))
theorem SR_if {t:Expr}{body orelse:List Stmt}{pos:Pos}{b:Bool} (h:T C σ t b) (h1:b=true→SLR C σ (body++rest) K KE) (h2:b=false→SLR C σ (orelse++rest) K KE):SLR C σ (.If t body orelse pos::rest) K KE:=by
 constructor
 intro imm s R Γ p hΓ hC
 rw [execs_cons,Sem.wp_bind']
 simp only [exec_If,Sem.wp_bind',Sem.wp_cmd_standAt]
 have key:=h.go imm s R (fun b' s1=>∀ p',Sem.wp C.M Γ (if b'=true then execs body C.env else execs orelse C.env) (fun f p' s'=>Sem.wp C.M Γ (match f with | .next=>execs rest C.env | f=>pure f)
  (fun f V s'=>qd2 C imm K f s') (fun e V s'=>qcw C imm KE e s') p' s')
  (fun e V s'=>qcw C imm KE e s') p' s1) (qcw C imm KE) (fun i1 s1 hs1 R1 p'=>?_) Γ pos hΓ
 ·exact Sem.wp_mono C.M Γ _ (fun b p2 s2 h2=>h2 p2) (fun V V V x=>x) _ _ key
 ·have lift:∀ ss,SLR C σ (ss++rest) K KE→Sem.wp C.M Γ (execs ss C.env) (fun f p' s'=>Sem.wp C.M Γ (match f with | .next=>execs rest C.env | f=>pure f)
   (fun f V s'=>qd2 C imm K f s') (fun e V s'=>qcw C imm KE e s') p' s')
   (fun e V s'=>qcw C imm KE e s') p' s1:=fun ss hS=>by
   refine Eq.mp (qb7 (xs:=ss) (ys:=rest)) ?_
   exact Sem.wp_mono C.M Γ _ (fun V V V h=>h.up hs1) (fun V V V h=>h.up hs1) _ _ (hS.go i1 s1 R1 Γ p' hΓ hC)
  cases b with
  | true=>exact lift _ (h1 rfl)
  | false=>exact lift _ (h2 rfl)
end
theorem Outs.addrs {fs:List Cell}{ms} (x:Outs fs ms):fs.map (·.1)=ms.map (·.1):=by
 induction x with
 | nil=>rfl
 | cons _ _ ih=>rw [lmc,lmc,ih]
section
variable {C:Cx}{σ:AS}{imm:List Cell}{s:Shared}{m:Str→Option Value}{os kc fs:List Cell}
theorem RelX.ups (R:RelX C σ imm s m os kc fs) {h':Heap} (hc:∀ p∈os++(kc++(imm++C.hid)),h'.get? p.1=some p.2) (hb:C.base.StaysIn h') (u:s.heap.UpToSlots h') {d:Drawn}{tk:Nat} :
 ∃ fs',fs'.map (·.1)=fs.map (·.1)∧RelX C σ imm ⟨h',s.gens,d,tk,s.os⟩ m os kc fs':=by
 obtain ⟨fs',ho,ha,hf⟩:=Outs.ups u R.ou fun p hp=>(R.mem_fs hp).1
 have ha':(fs'++C.hid).map (·.1)=(fs++C.hid).map (·.1):=by rw [lma,ha,lma]
 have old:∀ q∈fs'++C.hid,∃ q0∈fs++C.hid,q0.1=q.1:=fun q hq=>by
  have:q.1∈(fs++C.hid).map (·.1):=by rw [← ha'];exact List.mem_map_of_mem hq
  obtain ⟨z,hz,e⟩:=mmj this
  exact ⟨z,hz,e⟩
 refine ⟨fs',ha,{ R with
  fr:=Fr.of_stays R.fr hb u
  nw:=fun q hq=>?_
  ap:=fun q hq=>?_
  ah:=fun q hq=>by rw [ha'];exact R.ah q hq
  hn:=by rw [ha'];exact R.hn
  ou:=ho }⟩
 ·rcases maj hq with h | h
  ·exact ⟨hc q (mal _ h),(R.mem_os h).2⟩
  rcases maj h with h | h
  ·exact ⟨hc q (mar _ (mal _ h)),(R.mem_kc h).2⟩
  rcases maj h with h | h
  ·exact ⟨hc q (mar _ (mar _ (mal _ h))),(R.mem_imm h).2⟩
  ·obtain ⟨q0,h0,e0⟩:=old q h
   have:=R.nw q0 (mar _ (mar _ (mar _ h0)))
   rw [e0] at this
   refine ⟨?_,this.2⟩
   rcases maj h with h | h
   ·exact hf q h
   ·exact hc q (mar _ (mar _ (mar _ h)))
 ·rcases maj hq with h | h
  ·exact R.ap q (mal _ h)
  ·obtain ⟨q0,h0,e0⟩:=old q h
   rw [← e0]
   exact R.ap q0 (mar _ h0)
theorem RelX.rehid (R:RelX C σ imm s m os kc fs) {hid' fs':List Cell}{outs':List (Addr×(Str→Option Value))} (hp:(fs++C.hid).Perm (fs'++hid')) (ho:Outs fs' outs') (hcap:∀ p∈C.cap,p∈hid') :
 RelX { C with hid:=hid',outs:=outs',capH:=hcap } σ imm s m os kc fs':=by
 have hm:∀ q,q∈fs'++hid'↔q∈fs++C.hid:=fun q=>hp.mem_iff.symm
 have ha:∀ b,b∈(fs'++hid').map (·.1)↔b∈(fs++C.hid).map (·.1):=fun b=>(hp.map (·.1)).mem_iff.symm
 have sub:∀ {A B:List Cell},A⊆B→∀ {X:List Cell},X++A⊆X++B:=fun k X q hq=>(maj hq).elim (mal _) fun z=>mar _ (k z)
 have s0:(fs'++hid')⊆(fs++C.hid):=fun q hq=>(hm q).mp hq
 exact {
  fr:=R.fr,mu:=R.mu,kd:=R.kd,nd:=R.nd,nm:=R.nm,kn:=R.kn,va:=R.va,cc:=R.cc,gn:=R.gn,so:=R.so,ou:=ho
  nw:=fun q hq=>R.nw q (sub (sub (sub s0)) hq)
  ap:=fun q hq=>R.ap q (sub s0 hq)
  ah:=fun q hq h=>R.ah q hq ((ha q.1).mp h)
  hn:=(hp.map (·.1)).nodup_iff.mp R.hn }
end
theorem perm_mid {α:Type} (x:α) (a b c d:List α):(a++(b++(x::(c++d)))).Perm ((x::c)++(a++(b++d))):=by
 have h1:(b++(x::(c++d))).Perm ((x::c)++(b++d)):=by
  rw [← lca,← laa,← laa]
  exact List.Perm.append_right _ List.perm_append_comm
 refine (List.Perm.append_left a h1).trans ?_
 rw [← laa a,← laa (x::c)]
 exact List.Perm.append_right _ List.perm_append_comm
section
variable {C:Cx}{n:Nat}{imm:List Cell}{s:Shared}{ρ:List Slot}{M1 M2:List (Addr×AO)}{f:Addr}{fd:FuncData}{body:List Stmt}{ps:List Str}{vs:List Value}{ds:List D}
theorem call_goR (O:Ok C (n+1)) (G:OkR C) (FR:qdn C.w.params f fd body ps) (R:Rel C ⟨ρ,M1++M2⟩ imm s) (hv:DAll imm vs ds) (hl:ds.length=ps.length) {K:D→List (Addr×AO)→Prop}{KE:Value→Value→List (Addr×AO)→Prop}
 (hb:∀ L hid m,Ok (C.calledR fd L f hid m) n→OkR (C.calledR fd L f hid m)→SLR (C.calledR fd L f hid m) ⟨qa7 fd.scope.names ps ds,M1⟩ body (fun fl σ'=>match fl with | .ret d=>K d σ'.ms | .next=>K .none σ'.ms | _=>False) (fun a b σ'=>KE a b σ'.ms))
 {Q E:Value→Shared→Prop} (q:∀ v d M1' imm' s',imm⊆imm'→Rel C ⟨ρ,M1'++M2⟩ imm' s'→DIn imm' v d→K d M1'→Q v s')
 (r:∀ e cls c2 M1' imm' s',imm⊆imm'→Fly C ⟨ρ,M1'++M2⟩ imm' e cls c2 s'→KE cls c2 M1'→E e s'):qbe C.M C.A (.call (.ref f) ⟨vs,[]⟩) (fun r s'=>match r with | .ok (.ret v)=>Q v s' | .ok _=>False | .error e=>E e s') s:=by
 refine Rel.elim R fun m os kc fs R=>?_
 obtain ⟨o1,o2,rfl,mu1,mu2⟩:=Muts.split R.mu
 obtain ⟨p,loose,mg,mb,TT⟩:=O.top
 have kin:=O.kin.keeps R.fr.keep
 have hvl:vs.length=ps.length:=hv.length.trans hl
 obtain ⟨oL,esL,epL,hoL,hdL,hkL,hfL⟩:=R.fr.ns
 have hN:∀ h:Heap,h.get? C.env.locals=some oL→h.Ns C.env.locals m:=fun h e=>⟨oL,esL,epL,e,hdL,hkL,hfL⟩
 refine id (qc8 (fd:=fd) (body:=body) (binds:=ps.zip vs) (Nat.lt_of_le_of_lt (Nat.le_add_right _ _) O.dep) (kin _ _ FR.lk) rfl (TT.nolimit.keeps R.fr.keep) (codeRec_of kin FR.code) FR.body (FR.bind _ vs hvl kin) FR.clo (qf2 FR _) ?_ FR.hc FR.hg FR.hk)
 intro s₁ x
 obtain ⟨O',m₁,kc₁,R₁⟩:=enterX O FR R mu1 hoL hv x
 have R₂:=R₁.rehid (hid':=o2++(kc++C.hid)) (fs':=(C.env.locals,oL)::fs) (by rw [lna];exact perm_mid _ _ _ _ _) (.cons hN R.ou) fun V h=>nomatch h
 obtain ⟨frs,hfr,hfs⟩:=G.ex
 have G':OkR (C.calledR fd s.heap.objs.size f (o2++(kc++C.hid)) m):=⟨⟨C.env::frs,Around.frames_deeper hfr,fun e he=>by
  rcases mcj he with rfl | he
  ·exact ⟨O.fk,_,G.fr,.head _⟩
  ·obtain ⟨a,L,b,c⟩:=hfs e he
   exact ⟨a,L,b,.tail _ c⟩⟩,rfl,by
    have:(C.calledR fd s.heap.objs.size f (o2++(kc++C.hid)) m).A.guards=C.A.guards:=rfl
    rw [this];exact G.gd⟩
 have back:∀ {σ':AS}{imm':List Cell}{s':Shared}{m':Str→Option Value}{os' kc'' fs'':List Cell},imm⊆imm'→RelX (C.calledR fd s.heap.objs.size f (o2++(kc++C.hid)) m) σ' imm' s' m' os' kc'' fs'' →
  ∃ fs2,RelX C ⟨ρ,σ'.ms++M2⟩ imm' s' m (os'++o2) kc fs2:=by
  intro σ' imm' s' m' os' kc'' fs'' hs RR
  have ho:=RR.ou
  cases ho with
  | @cons _ oL' _ fs2 _ hN' ho' =>
   refine ⟨fs2,backX R mu2 (oL':=oL') (fs':=fs2) hN' (ho'.addrs.trans R.ou.addrs.symm) ho' (C':=C.called fd s.heap.objs.size f (o2++(kc++((C.env.locals,oL')::(fs2++C.hid))))) rfl rfl rfl rfl rfl rfl (m':=m') (kc'':=kc'') hs (RR.rehid (by rw [lna];exact (perm_mid _ _ _ _ _).symm) .nil fun V h=>nomatch h)⟩
 refine qa4 ((hb _ _ _ { fk:=O'.fk,gl:=O'.gl,bi:=O'.bi,dep:=O'.dep,un:=O'.un,hn:=O'.hn,nb:=O'.nb,ci:=O'.ci,kin:=O'.kin,top:=O'.top } G').go imm _ R₂.rel) (fun fl s' hfl=>?_) fun e s' he=>?_
 ·obtain ⟨fl',σ',imm',hs,⟨m',os',kc'',fs',RR⟩,hf,hK⟩:=hfl
  obtain ⟨fs2,RB⟩:=back hs RR
  have RB:Rel C ⟨ρ,σ'.ms++M2⟩ imm' s':=RB.rel
  cases hf with
  | ret hd=>exact q _ _ _ imm' s' hs RB hd hK
  | next=>exact q _ _ _ imm' s' hs RB .none hK
  | brk=>exact hK.elim
  | cont=>exact hK.elim
 ·obtain ⟨σ',imm',cls,c2,hs,⟨frs',m',os',kc'',fs',B,a,fl,rfl,hfl,hA,RR,hB,hbB,hF⟩,hK⟩:=he
  have hA':=Around.frames_deeper (env:=callEnvC fd s.heap.objs.size f) hfr
  have:frs'=C.env::frs:=by
   have:=Option.some.inj (hA.symm.trans hA')
   exact (List.cons.inj this).2
  subst this
  refine leaveT hfl hA' rfl hF fun h' fl' hfl' hF' hu=>?_
  obtain ⟨fs2,_,RR2⟩:=RR.ups (h':=h') (d:=s'.drawn) (tk:=s'.toks) (fun p hp=>hF'.1 _ _ (hB p hp)) (fun b o e=>hF'.1 _ _ (hbB b o e)) hu
  obtain ⟨fs3,RB⟩:=back hs RR2
  refine r _ cls c2 _ imm' _ hs ⟨frs,m,os'++o2,kc,fs3,B,a,fl',rfl,hfl' _,hfr,RB,fun p hp=>?_,hbB,hF'⟩ hK
  rcases maj hp with h | h
  ·rcases maj h with h | h
   ·exact hB p (mal _ h)
   ·exact hB p (mar _ (mar _ (mar _ (mal _ h))))
  rcases maj h with h | h
  ·exact hB p (mar _ (mar _ (mar _ (mar _ (mal _ h)))))
  rcases maj h with h | h
  ·exact hB p (mar _ (mar _ (mal _ h)))
  ·exact hB p (mar _ (mar _ (mar _ (mar _ (mar _ h)))))
end
section
noncomputable abbrev bmX:List Value:=[.type "Exception",.type "BaseException",.type "object"]
structure EC (P:Params) (x:Str) (Cc:Addr):Prop where
 g:nsIn (K39 P) mainGlobals x=some (some (.ref Cc))
 q:excIn (K39 P) Cc bmX "Exception.__new__"=true
section
variable {C:Cx}{σ:AS}{n:Nat}{imm:List Cell}{s:Shared}{K:Fl→AS→Prop}{KE:Value→Value→AS→Prop}{rest:List Stmt}
theorem EC.obj {x:Str}{Cc:Addr} (H:EC C.w.params x Cc) (kin:(K39 C.w.params).In C.base) (top:TopAt C.base):∃ mg,OwnCls x Cc bmX "Exception.__new__" mg C.base:=by
 obtain ⟨p,loose,mg,mb,TT⟩:=top
 exact ⟨mg,own_of_in kin TT H.g H.q⟩
theorem frames_of (O:Ok C n) (G:OkR C) {m:Str→Option Value}{os kc fs:List Cell} (R:RelX C σ imm s m os kc fs):∃ (frs:List Env) (as:List Addr),C.A.frames=some (C.env::frs)∧(∀ L∈as,L=C.env.locals∨L∈C.outs.map (·.1)) ∧
 s.heap.FunFrames C.base (C.env::frs)∧(∀ e∈C.env::frs,∀ L,e.frame=some L→L∈as):=by
 obtain ⟨frs,hA,hf⟩:=G.ex
 refine ⟨frs,C.env.locals::C.outs.map (·.1),hA,fun L hL=>mcj hL,⟨by rw [O.fk];decide,?_,?_⟩,fun e he L hL=>?_⟩
 ·obtain ⟨oL,es,ep,hoL,hdL,_⟩:=R.fr.ns
  refine ⟨_,oL,G.fr,?_,hoL,fun vs q=>by rw [hdL] at q;cases q⟩
  cases hq:C.base.get? C.env.locals with
  | none=>rfl
  | some o=>exact absurd (Heap.lt_size hq) (Nat.not_lt.mpr R.fr.above)
 ·clear hA
  induction frs with
  | nil=>trivial
  | cons e frs ih =>
   obtain ⟨hk,L,hL,hm⟩:=hf e (.head _)
   obtain ⟨o,h1,h2,h3⟩:=Outs.funs (base:=C.base) R.ou (fun p hp=>(R.mem_fs hp).1) L hm
   exact ⟨by rw [hk];decide,⟨L,o,hL,(R.mem_fs h1).2.2,h2,h3⟩,ih fun e' he=>hf e' (.tail _ he)⟩
 ·rcases mcj he with rfl | he
  ·rw [G.fr] at hL;cases hL;exact .head _
  ·obtain ⟨_,L',h1,h2⟩:=hf e he
   rw [h1] at hL;cases hL;exact .tail _ h2
theorem Fly.made (O:Ok C n) (G:OkR C) (R:Rel C σ imm s) {h':Heap}{e:Addr}{oe:Obj}{vs:Array Value}{c2:Value} (hk:∀ b o,s.heap.get? b=some o→h'.get? b=some o) (hn:s.heap.get? e=none)
 (ho:h'.get? e=some oe) (hd:oe.data=.fields vs) (h1:vs[1]?=some .none) (h2:vs[2]?=some c2) {d:Drawn}{tk:Nat}:Fly C σ imm (.ref e) oe.cls c2 ⟨h',s.gens,d,tk,s.os⟩:=by
 refine Rel.elim R fun m os kc fs R=>?_
 obtain ⟨frs,as,hA,has,hF,hin⟩:=frames_of O G R
 have hcell:∀ p∈os++(kc++(imm++C.hid)),p.1 ∉ as:=fun p hp hm=>by
  rcases has _ hm with h | h
  ·rcases maj hp with q | q
   ·exact (R.mem_os q).2.1 h
   rcases maj q with q | q
   ·exact (R.mem_kc q).2.1 h
   rcases maj q with q | q
   ·exact (R.mem_imm q).2.1 h
   ·exact (R.mem_hid q).2.1 h
  ·rw [← R.ou.addrs] at h
   obtain ⟨z,hz,ez⟩:=mmj h
   have apz:z.1 ∉ (os++kc).map (·.1):=R.ap z (mar _ (mal _ hz))
   rcases maj hp with q | q
   ·exact apz (by rw [ez,lma];exact mal _ (List.mem_map_of_mem q))
   rcases maj q with q | q
   ·exact apz (by rw [ez,lma];exact mar _ (List.mem_map_of_mem q))
   rcases maj q with q | q
   ·exact R.ah p q (by rw [← ez,lma];exact mal _ (List.mem_map_of_mem hz))
   ·have:=R.hn
    rw [lma,List.nodup_append] at this
    exact this.2.2 z.1 (List.mem_map_of_mem hz) p.1 (List.mem_map_of_mem q) ez
 have hst:(hideAll s.heap as).StaysIn h':=fun b o q=>hk b o (of_hideAll _ q)
 refine ⟨frs,m,os,kc,fs,hideAll s.heap as,e,none,rfl,.inl rfl,hA,R.grow hk,fun p hp=>hideAll_get _ ?_ (hcell p hp),fun b o q=>hideAll_get _ (R.fr.keep b o q) fun hm=>?_,hst,?_,?_,oe,vs,ho,rfl,hd,h2,h1⟩
 ·rcases maj hp with q | q
  ·exact (R.mem_os q).1
  rcases maj q with q | q
  ·exact (R.mem_kc q).1
  rcases maj q with q | q
  ·exact (R.mem_imm q).1
  ·exact (R.mem_hid q).1
 ·rcases has _ hm with h | h
  ·subst h;exact absurd (Heap.lt_size q) (Nat.not_lt.mpr R.fr.above)
  ·rw [← R.ou.addrs] at h
   obtain ⟨z,hz,ez⟩:=mmj h
   rw [← ez,(R.mem_fs hz).2.2] at q;cases q
 ·cases hq:(hideAll s.heap as).get? e with
  | none=>rfl
  | some o=>have:=of_hideAll _ hq;rw [hn] at this;cases this
 ·exact (funFrames_hide hF hin).of_keeps fun b o hb V=>⟨o,hk b o hb,rfl⟩
inductive ECo (Cc:Addr) (h:Heap):Prop
 | mk (tl N nm q bs hdct sn sub ab col dd k0 k1 k2 k3 k5 mN):h.get? Cc=some (excClassObj nm q Cc N bs tl hdct sn sub ab col dd k0 k1 k2 k3 k5 "Exception.__new__")→h.Ns N mN→mN "__init__"=none→OwnTail h bmX tl→ECo Cc h
theorem EC.objE {x:Str}{Cc:Addr} (H:EC C.w.params x Cc) (O:Ok C n):ECo Cc C.base:=by
 obtain ⟨mg,OC⟩:=H.obj O.kin O.top
 obtain ⟨tl,N,nm,q,bs,hdct,sn,sub,ab,col,dd,k0,k1,k2,k3,k5,mN,hC,hN,hni,T⟩:=OC.obj
 exact ⟨tl,N,nm,q,bs,hdct,sn,sub,ab,col,dd,k0,k1,k2,k3,k5,mN,hC,hN,hni,T⟩
theorem SR_raise {x:Str}{np cpos pos:Pos}{args:List Expr}{ds:List D}{Cc:Addr} (O:Ok C n) (G:OkR C) (hx:X C σ (.Name x np) (.val (.ref Cc))) (H:EC C.w.params x Cc) (ha:Xs C σ args ds) (hl:ds.length≤sizeLine)
 (k:KE (.ref Cc) .none σ):SLR C σ (.Raise (some (.Call (.Name x np) args [] cpos)) none pos::rest) K KE:=.mk fun imm s R=>by
 obtain ⟨tl,N,nm,q,bs,hdct,sn,sub,ab,col,dd,k0,k1,k2,k3,k5,mN,hC,hN,hni,T⟩:=H.objE O
 refine qax (qap ?_)
 refine wpAny_Raise_call_subT (C:=Cc) (nm:=nm) (q:=q) (N:=N) (bs:=bs) (bm:=tl) (hdct:=hdct) (sn:=sn) (sub:=sub) (ab:=ab) (col:=col) (dd:=dd) (k0:=k0) (k1:=k1) (k2:=k2) (k3:=k3) (k5:=k5)
  PySem.F.excBase_Exception (mN:=mN) (T.hasType PySem.F.excBase_Exception.hasBase) O.hn (ha.plain cpos) hni (hx.goV imm s R _ _ fun i1 s1 hs1 R1=>?_)
 refine ⟨rfl,?_⟩
 have fin:∀ (i2:List Cell) (s2:Shared) (vs:List Value),Rel C σ i2 s2→vs.length=ds.length→imm⊆i2→([]:List (Str×Value))=[]∧vs.length≤sizeLine∧s2.heap.get? Cc=some (excClassObj nm q Cc N bs tl hdct sn sub ab col dd k0 k1 k2 k3 k5 "Exception.__new__")∧s2.heap.Ns N mN∧OwnTail s2.heap bmX tl ∧
  ∀ h' e,Heap.MadeExcOf s2.heap h' e (.ref Cc) vs→qcw C imm KE (.ref e) { s2 with heap:=h' }:=fun i2 s2 vs R2 hvs hs2 =>
  ⟨rfl,by lia,R2.base_keep _ _ hC,hN.keeps R2.base_keep,T.keeps R2.base_keep,fun h' e hm=>by
   obtain ⟨t,ht,_,_⟩:=hm.there
   exact ⟨σ,i2,.ref Cc,.none,hs2,Fly.made O G R2 hm.keeps hm.new ht rfl rfl rfl,k⟩⟩
 cases ha with
 | nil=>exact evalArgs_nil3 (fin i1 s1 [] R1 rfl hs1)
 | cons h1 h2 h3 =>
  have hh:=Xs.cons h1 h2 h3
  rw [h3]
  refine evalArgs_plain ?_
  have:=hh.run cpos i1 s1 R1 (fun vs s2=>([]:List (Str×Value))=[]∧vs.length≤sizeLine∧s2.heap.get? Cc=some (excClassObj nm q Cc N bs tl hdct sn sub ab col dd k0 k1 k2 k3 k5 "Exception.__new__")∧s2.heap.Ns N mN∧OwnTail s2.heap bmX tl ∧
   ∀ h' e,Heap.MadeExcOf s2.heap h' e (.ref Cc) vs→qcw C imm KE (.ref e) { s2 with heap:=h' })
   (qcw C imm KE) fun vs i2 s2 hs2 R2 hvs=>fin i2 s2 vs R2 hvs.length (qa0 hs1 hs2)
  rw [h3] at this
  exact this
end
variable {P:Params}
theorem ec_IF:EC P "InvalidFrameError" 24:=⟨by kernel_rfl,by kernel_rfl⟩
theorem ec_ID:EC P "InvalidDataError" 37:=⟨by kernel_rfl,by kernel_rfl⟩
theorem ec_PE:EC P "ProtocolError" 251:=⟨by kernel_rfl,by kernel_rfl⟩
theorem ec_TL:EC P "FrameTooLargeError" 263:=⟨by kernel_rfl,by kernel_rfl⟩
theorem ec_DM:EC P "FrameDataMissingError" 275:=⟨by kernel_rfl,by kernel_rfl⟩
end
structure FnR (P:Params) (f:Addr) (k:Nat) (ds:List D) (M1:List (Addr×AO)) (K:D→List (Addr×AO)→Prop) (KE:Value→Value→List (Addr×AO)→Prop):Prop where
 go:∀ (C:Cx) (ρ:List Slot) (M2:List (Addr×AO)) (imm:List Cell) (vs:List Value),C.w.params=P→Ok C k→OkR C→DAll imm vs ds→∀ s,Rel C ⟨ρ,M1++M2⟩ imm s→∀ (Q E:Value→Shared→Prop),
  (∀ v d M1' imm' s',imm⊆imm'→Rel C ⟨ρ,M1'++M2⟩ imm' s'→DIn imm' v d→K d M1'→Q v s')→(∀ e cls c2 M1' imm' s',imm⊆imm'→Fly C ⟨ρ,M1'++M2⟩ imm' e cls c2 s'→KE cls c2 M1'→E e s') →
  qbe C.M C.A (.call (.ref f) ⟨vs,[]⟩) (fun r s'=>match r with | .ok (.ret v)=>Q v s' | .ok _=>False | .error e=>E e s') s
theorem qc1 {P:Params}{f:Addr}{fd:FuncData}{body:List Stmt}{ps:List Str}{ds:List D}{k:Nat}{M1:List (Addr×AO)}{K:D→List (Addr×AO)→Prop}{KE:Value→Value→List (Addr×AO)→Prop} (FR:qdn P f fd body ps) (hl:ds.length=ps.length)
 (hb:∀ C:Cx,C.w.params=P→C.cap=[]→Ok C k→OkR C→SLR C ⟨qa7 fd.scope.names ps ds,M1⟩ body (fun fl σ'=>match fl with | .ret d=>K d σ'.ms | .next=>K .none σ'.ms | _=>False) (fun a b σ'=>KE a b σ'.ms)) :
 FnR P f (k+1) ds M1 K KE:=.mk fun C ρ M2 imm vs hP O G hv s R Q E q r=>by
 subst hP
 exact call_goR O G FR R hv hl (fun L hid m O' G'=>hb _ rfl rfl O' G') q r
structure XR (C:Cx) (σ:AS) (e:Expr) (K:D→AS→Prop) (KE:Value→Value→AS→Prop):Prop where
 go:∀ imm s,Rel C σ imm s→wpC C.M C.A (eval e C.env) (VPost C imm K) (qcw C imm KE) s
section
variable {M:Model}{A:Around}{E:Value→Shared→Prop}{s:Shared}{env:Env}
theorem qci {elts:List Expr}{k:Nat}{tpos pos:Pos}{value:Expr}{Q:Flow→Shared→Prop} (h:wpC M A (eval value env) (fun v s₁=>wpAny M A (assign (.Tuple elts k tpos) env v) (fun V=>Q .next) E s₁) E s)
 (hs:swapsWithSole [.Tuple elts k tpos] value pos.line env=pure false) (hw:swappedStores [.Tuple elts k tpos] value env=pure none):wpC M A (exec (.Assign [.Tuple elts k tpos] value pos) env) Q E s:=by
 rw [exec_Assign]
 refine qa1 (wpAny_standAt ?_)
 rw [hs]
 refine qa1 (wpAny_pure ?_)
 rw [if_neg (by decide)]
 refine qae (qa4 h (fun v s₁ h₁=>?_) fun V V x=>x)
 rw [hw]
 refine qa1 (wpAny_pure ?_)
 show wpC M A (do assignAll v [assign (.Tuple elts k tpos) env];pure .next) Q E s₁
 exact qa1 (wpAny_mono h₁ (fun V V x=>qa8 x) fun V V x=>x)
theorem wpC_Expr {e:Expr}{pos:Pos}{Q:Flow→Shared→Prop} (h:wpC M A (eval e env) (fun V=>Q .next) E s) (hi:interactive env=false) (hs:swapsWith e none pos.line env=pure false) (hd:∀ v s',Q .next s'→wpAny M A (dropValue e pos v) Q E s') :
 wpC M A (exec (.Expr e pos) env) Q E s:=by
 rw [exec_Expr env e pos hi hs]
 exact qa1 (wpAny_standAt (qae (qa4 h (fun v s' h'=>qap (hd v s' h')) fun V V x=>x)))
end
section
variable {C:Cx}{σ:AS}{n:Nat}{imm:List Cell}{s:Shared}{ρ:List Slot}{ms M1 M2:List (Addr×AO)}{K:D→AS→Prop}{KF:Fl→AS→Prop}{KE:Value→Value→AS→Prop}{rest:List Stmt}
theorem qf1 {pos:Pos}{f:Addr}{first:List Value}{args:List Expr}{ds0 ds:List D}{k:Nat}{K1:D→List (Addr×AO)→Prop}{KE1:Value→Value→List (Addr×AO)→Prop} (hfst:∀ imm,DAll imm first ds0) (O:Ok C k) (G:OkR C) (hk:keepIn (KK C.w.params) (.ref f)=true)
 (ha:Xs C ⟨ρ,ms⟩ args ds) (hp:ms.Perm (M1++M2)) (F:FnR C.w.params f k (ds0++ds) M1 K1 KE1) (R:Rel C ⟨ρ,ms⟩ imm s) {Q E:Value→Shared→Prop}
 (q:∀ v d M1' imm' s',imm⊆imm'→Rel C ⟨ρ,M1'++M2⟩ imm' s'→DIn imm' v d→K1 d M1'→Q v s') (r:∀ e cls c2 M1' imm' s',imm⊆imm'→Fly C ⟨ρ,M1'++M2⟩ imm' e cls c2 s'→KE1 cls c2 M1'→E e s') :
 wpC C.M C.A (callWith pos (.ref f) first (backTo pos (starEach args C.env)) []) Q E s:=by
 refine qct (P:=fun h=>(KK C.w.params).In h) (by rw [ha.plain pos];rfl) (keeps_K hk) ?_
 have main:∀ (i2:List Cell) (s2:Shared) (vs:List Value),Rel C ⟨ρ,ms⟩ i2 s2→DAll i2 vs ds→imm⊆i2→(KK C.w.params).In s2.heap∧wpC C.M C.A (call (.ref f) (first++vs) []) Q E s2:=fun i2 s2 vs R2 hvs hs2 =>
  ⟨O.kin.keeps R2.base_keep,qcx (F.go C ρ M2 i2 (first++vs) rfl O G ((hfst i2).append hvs) s2 (R2.perm hp) Q E (fun v d M1' i3 s3 h3=>q v d M1' i3 s3 (qa0 hs2 h3)) fun e cls c2 M1' i3 s3 h3=>r e cls c2 M1' i3 s3 (qa0 hs2 h3))⟩
 cases ha with
 | nil=>exact evalArgs_nil3 (main imm s [] R .nil qa2)
 | cons h1 h2 h3 =>
  have hh:=Xs.cons h1 h2 h3
  rw [h3]
  refine evalArgs_plain ?_
  have:=hh.run pos imm s R (fun vs s2=>(KK C.w.params).In s2.heap∧wpC C.M C.A (call (.ref f) (first++vs) []) Q E s2) E fun vs i2 s2 hs2 R2 hvs=>main i2 s2 vs R2 hvs hs2
  rw [h3] at this
  exact this
theorem XR_name {x:Str}{p pos:Pos}{args:List Expr}{ds:List D}{f:Addr}{k:Nat}{K1:D→List (Addr×AO)→Prop}{KE1:Value→Value→List (Addr×AO)→Prop} (O:Ok C k) (G:OkR C) (hx:X C ⟨ρ,ms⟩ (.Name x p) (.val (.ref f))) (hk:keepIn (KK C.w.params) (.ref f)=true)
 (ha:Xs C ⟨ρ,ms⟩ args ds) (hp:ms.Perm (M1++M2)) (F:FnR C.w.params f k ds M1 K1 KE1) (q:∀ d M1',K1 d M1'→K d ⟨ρ,M1'++M2⟩) (r:∀ cls c2 M1',KE1 cls c2 M1'→KE cls c2 ⟨ρ,M1'++M2⟩):XR C ⟨ρ,ms⟩ (.Call (.Name x p) args [] pos) K KE:=.mk fun imm s R=>by
 refine qdt (hx.goV imm s R _ _ fun i1 s1 hs1 R1=>?_)
 exact qf1 (ds0:=[]) (fun V=>.nil) O G hk ha hp F R1 (fun v d M1' i2 s2 hs R2 hv h=>⟨d,_,i2,qa0 hs1 hs,R2,hv,q d M1' h⟩) fun e cls c2 M1' i2 s2 hs hF h=>⟨_,i2,cls,c2,qa0 hs1 hs,hF,r _ _ _ h⟩
theorem qcu {o:Expr}{name:Str}{apos pos:Pos}{args:List Expr}{ds:List D}{x Cc dx f:Addr}{fs:List (Str×D)}{k:Nat}{K1:D→List (Addr×AO)→Prop}{KE1:Value→Value→List (Addr×AO)→Prop} (O:Ok C k) (G:OkR C)
 (ho:X C ⟨ρ,ms⟩ o (.val (.ref x))) (hx:(x,AO.inst Cc dx)∈ms) (hd:(dx,AO.dict fs)∈ms) (hf:fs.lookup name=none) (hm:methA C.w.params Cc name f=true)
 (ha:Xs C ⟨ρ,ms⟩ args ds) (hp:ms.Perm (M1++M2)) (F:FnR C.w.params f k (.val (.ref x)::ds) M1 K1 KE1) (q:∀ d M1',K1 d M1'→K d ⟨ρ,M1'++M2⟩) (r:∀ cls c2 M1',KE1 cls c2 M1'→KE cls c2 ⟨ρ,M1'++M2⟩)
 (hbase:attributeBase o name C.env (eval o C.env)=eval o C.env) (hline:(apos.endLine == pos.line)=true) (hlen:args.length<30):XR C ⟨ρ,ms⟩ (.Call (.Attribute o name apos) args [] pos) K KE:=.mk fun imm s R=>by
 refine qfk hbase hline (ha.plain pos) hlen (ho.go imm s R _ _ fun ov i1 s1 hs1 R1 hov pl=>?_)
 cases hov
 unfold methA at hm
 simp only [Bool.and_eq_true,beq_iff_eq] at hm
 obtain ⟨⟨⟨m1,m2⟩,m3⟩,m4⟩:=hm
 obtain ⟨es,nn,hF,I⟩:=R1.inst hx hd
 have R1':=R1
 obtain ⟨m,os,kc,fs',RX⟩:=R1'
 refine method_inst RX.fr O.kin I m1 m2 m3 (hF.none hf) ?_
 exact qf1 (ds0:=[.val (.ref x)]) (fun V=>.cons (.val _) .nil) O G m4 ha hp F R1 (fun v d M1' i2 s2 hs R2 hv h=>⟨d,_,i2,qa0 hs1 hs,R2,hv,q d M1' h⟩) fun e cls c2 M1' i2 s2 hs hF h=>⟨_,i2,cls,c2,qa0 hs1 hs,hF,r _ _ _ h⟩
noncomputable def statA (P:Params) (C p f:Addr):Bool:=(specialIn (KK P) (.ref C) "__getattribute__" == some (some (.builtin "type.__getattribute__"))) && (typeIn (KK P) (.ref C) == some (.type "type")) && readsIn (KK P) C (.type "type") &&
 ((recIn (KK P) p "staticmethod").bind List.head? == some (.ref f)) && handedIn (.ref f) && keepIn (KK P) (.ref f)
set_option tactic.hygienic true in
theorem XR_static {o:Expr}{name:Str}{apos pos:Pos}{args:List Expr}{ds:List D}{Cc p f:Addr}{k:Nat}{K1:D→List (Addr×AO)→Prop}{KE1:Value→Value→List (Addr×AO)→Prop} (O:Ok C k) (G:OkR C)
 (ho:X C ⟨ρ,ms⟩ o (.val (.ref Cc))) (hm:statA C.w.params Cc p f=true) (hc:findCls (KK C.w.params) (.ref Cc) (.type "type") name=some (.get (.builtin "staticmethod.__get__") (.ref p) .none (.ref Cc)))
 (ha:Xs C ⟨ρ,ms⟩ args ds) (hp:ms.Perm (M1++M2)) (F:FnR C.w.params f k ds M1 K1 KE1) (q:∀ d M1',K1 d M1'→K d ⟨ρ,M1'++M2⟩) (r:∀ cls c2 M1',KE1 cls c2 M1'→KE cls c2 ⟨ρ,M1'++M2⟩)
 (hbase:attributeBase o name C.env (eval o C.env)=eval o C.env) (hline:(apos.endLine == pos.line)=true) (hlen:args.length<30):XR C ⟨ρ,ms⟩ (.Call (.Attribute o name apos) args [] pos) K KE:=.mk fun imm s R=>by
 refine qfk hbase hline (ha.plain pos) hlen (ho.go imm s R _ _ fun ov i1 s1 hs1 R1 hov pl=>?_)
 cases hov
 unfold statA at hm
 simp only [Bool.and_eq_true,beq_iff_eq] at hm
 obtain ⟨⟨⟨⟨⟨m1,m2⟩,m3⟩,m4⟩,m5⟩,m6⟩:=hm
 have R1':=R1
 obtain ⟨m,os,kc,fs',RX⟩:=R1'
 obtain ⟨l,hr,hl⟩:=Option.bind_eq_some_iff.mp m4
 obtain ⟨rest',rfl⟩:=List.head?_eq_some_iff.mp hl
 refine method_of_cls RX.fr O.kin m1 (cls_sm RX.fr O.kin m2 m3 hc hr m5 ?_)
 exact qf1 (ds0:=[]) (fun V=>.nil) O G m6 ha hp F (R1.tok _) (fun v d M1' i2 s2 hs R2 hv h=>⟨d,_,i2,qa0 hs1 hs,R2,hv,q d M1' h⟩) fun e cls c2 M1' i2 s2 hs hF h=>⟨_,i2,cls,c2,qa0 hs1 hs,hF,r _ _ _ h⟩
theorem qda {st:Stmt} (K1:AS→Prop) (h:∀ imm s,Rel C σ imm s→wpC C.M C.A (exec st C.env) (fun f s'=>f=.next∧∃ σ' imm',imm⊆imm'∧Rel C σ' imm' s'∧K1 σ') (qcw C imm KE) s)
 (k:∀ σ',K1 σ'→SLR C σ' rest KF KE):SLR C σ (st::rest) KF KE:=.mk fun imm s R =>
 qax (qa4 (h imm s R) (fun f s' ⟨hf,σ',i',hs,R',k1⟩=>by
  subst hf
  exact qa4 ((k σ' k1).go i' s' R') (fun V V h=>h.up hs) fun V V h=>h.up hs) fun V V x=>x)
theorem qbo {x:Str}{p pos:Pos}{e:Expr} (O:Ok C n) (h:XR C σ e K KE) (k:∀ d σ',K d σ'→∃ ρ',Put x .local d σ'.ρ ρ'∧SLR C ⟨ρ',σ'.ms⟩ rest KF KE) (hn:qbj e=true):SLR C σ (.Assign [.Name x p] e pos::rest) KF KE :=
 qda (fun σ''=>SLR C σ'' rest KF KE) (fun imm s R=>by
  refine qe6 (qa4 (h.go imm s R) (fun v s' ⟨d,σ',i',a,b,c,z⟩=>?_) fun V V x=>x) (qbw hn)
  obtain ⟨ρ',hP,hk⟩:=k d σ' z
  exact qbf O hP (ms:=σ'.ms) b c fun s2 R2=>⟨rfl,_,i',a,R2,hk⟩) fun σ' h=>h
theorem SR_assignTR {ts:List Expr}{kk:Nat}{tp pos:Pos}{e:Expr} (O:Ok C n) (h:XR C σ e K KE) (k:∀ d σ',K d σ'→∃ ds ρ',d=.tup ds∧Asgs C ts ds σ'.ρ ρ'∧SLR C ⟨ρ',σ'.ms⟩ rest KF KE)
 (hs:swapsWithSole [.Tuple ts kk tp] e pos.line C.env=pure false) (hw:swappedStores [.Tuple ts kk tp] e C.env=pure none):SLR C σ (.Assign [.Tuple ts kk tp] e pos::rest) KF KE :=
 qda (fun σ''=>SLR C σ'' rest KF KE) (fun imm s R=>by
  refine qci (qa4 (h.go imm s R) (fun v s' ⟨d,σ',i',a,b,c,z⟩=>?_) fun V V x=>x) hs hw
  obtain ⟨ds,ρ',rfl,hA,hk⟩:=k d σ' z
  exact (qdu O hA).go σ'.ms i' s' v b c _ _ fun s2 R2=>⟨rfl,_,i',a,R2,hk⟩) fun σ' h=>h
theorem qdm {e:Expr}{pos:Pos} (O:Ok C n) (h:XR C σ e K KE) (k:∀ d σ',K d σ'→SLR C σ' rest KF KE) (hn:qbj e=true) (hi:interactive C.env=false):SLR C σ (.Expr e pos::rest) KF KE :=
 qda (fun σ''=>SLR C σ'' rest KF KE) (fun imm s R =>
  wpC_Expr (qa4 (h.go imm s R) (fun v s' ⟨d,σ',i',a,b,c,z⟩=>⟨rfl,σ',i',a,b,k d σ' z⟩) fun V V x=>x) hi (qbw hn) fun v s' q=>wpAny_dropValue q) fun σ' h=>h
theorem SR_setAttrR {o e:Expr}{attr:Str}{ap pos:Pos}{x Cc dx:Addr} (O:Ok C n) (h:XR C σ e K KE) (hsA:setA C.w.params Cc attr=true)
 (k:∀ d σ',K d σ'→X C σ' o (.val (.ref x))∧∃ n1 n2 fs,σ'.ms=n1++(dx,.dict fs)::n2∧(x,AO.inst Cc dx)∈n1++n2∧fs.length≤900∧SLR C ⟨σ'.ρ,n1++(dx,.dict (putF attr d fs))::n2⟩ rest KF KE) (hn:qbj e=true):SLR C σ (.Assign [.Attribute o attr ap] e pos::rest) KF KE :=
 qda (fun σ''=>SLR C σ'' rest KF KE) (fun imm s R=>by
  refine qd0 (qa4 (h.go imm s R) (fun v s' ⟨d,σ',i',a,b,c,z⟩=>?_) fun V V x=>x) (qbw hn)
  obtain ⟨ho,n1,n2,fs,em,hx,hl,hk⟩:=k d σ' z
  refine ho.go i' s' b _ _ fun ov i2 s2 hs2 R2 hov=>?_
  cases hov
  obtain ⟨ρ,ms⟩:=σ'
  dsimp only at em hk
  subst em
  exact qdp O R2 hx hsA hl (c.mono hs2) fun s3 R3=>⟨rfl,_,i2,qa0 a hs2,R3,hk⟩) fun σ' h=>h
end
theorem Fw.keeps {base:Heap}{l:List Env}{e:Addr}{cls c2:Value}{fl:Option Value}{h h':Heap} (x:Fw base l e cls c2 fl h) (k:∀ b o,h.get? b=some o→h'.get? b=some o):Fw base l e cls c2 fl h':=by
 obtain ⟨k1,k2,k3,oe,vs,he,hc,hd,h2,z⟩:=x
 refine ⟨fun b o q=>k b o (k1 b o q),k2,k3.of_keeps fun b o hb V=>⟨o,k b o hb,rfl⟩,oe,vs,k e _ he,hc,hd,h2,?_⟩
 cases fl with
 | none=>exact z
 | some f=>obtain ⟨T,oT,ts,h1,hnT,hTe,hT,hr⟩:=z;exact ⟨T,oT,ts,h1,hnT,hTe,k T _ hT,hr⟩
theorem FunFrames.but {base h h':Heap}{L:Addr}{o:Obj} (hb:∀ b,b≠L→h'.get? b=h.get? b) (ho:h'.get? L=some o) (hd:∀ vs,o.data≠.fields vs):∀ {l:List Env},h.FunFrames base l→h'.FunFrames base l:=fun {l}=>by
 induction l with
 | nil=>intro _;trivial
 | cons env l ih =>
  intro x
  obtain ⟨hk,⟨L',o',hf,hn,ho',hd'⟩,hr⟩:=x
  refine ⟨hk,?_,ih hr⟩
  by_cases e:L'=L
  ·subst e;exact ⟨L',o,hf,hn,ho,hd⟩
  ·exact ⟨L',o',hf,hn,(hb L' e).trans ho',hd'⟩
theorem Fw.but {base h h':Heap}{l:List Env}{e L:Addr}{cls c2:Value}{fl:Option Value}{o o':Obj} (x:Fw base l e cls c2 fl h) (hL:base.get? L=none) (ho0:h.get? L=some o') (hd0:∀ vs,o'.data≠.fields vs) (hb:∀ b,b≠L→h'.get? b=h.get? b) (ho:h'.get? L=some o) (hd:∀ vs,o.data≠.fields vs):Fw base l e cls c2 fl h':=by
 obtain ⟨k1,k2,k3,oe,vs,he,hc,hdd,h2,z⟩:=x
 refine ⟨fun b ob q=>(hb b fun e=>by subst e;rw [hL] at q;cases q).trans (k1 b ob q),k2,FunFrames.but hb ho hd k3,oe,vs,(hb e fun q=>by subst q;rw [ho0] at he;cases he;exact hd0 _ hdd).trans he,hc,hdd,h2,?_⟩
 cases fl with
 | none=>exact z
 | some f =>
  obtain ⟨T,oT,ts,h1,hnT,hTe,hT,hdT,hr⟩:=z
  exact ⟨T,oT,ts,h1,hnT,hTe,(hb T fun q=>by subst q;rw [ho0] at hT;cases hT;exact hd0 _ hdT).trans hT,hdT,hr⟩
inductive FlyF (C:Cx) (fl:Option Value) (σ:AS) (imm:List Cell) (a:Addr) (cls c2:Value) (s:Shared):Prop
 | mk (frs:List Env) (m:Str→Option Value) (os kc fs:List Cell) (B:Heap):C.A.frames=some (C.env::frs)→RelX C σ imm s m os kc fs →
  (∀ p∈os++(kc++(imm++C.hid)),B.get? p.1=some p.2)→C.base.StaysIn B→Fw B (C.env::frs) a cls c2 fl s.heap→FlyF C fl σ imm a cls c2 s
section
variable {C:Cx}{σ:AS}{n:Nat}{imm:List Cell}{s:Shared}{fl:Option Value}{a:Addr}{cls c2:Value}{Q:Unit→Shared→Prop}{E:Value→Shared→Prop}{A':Around}
theorem FlyF.ob (x:FlyF C fl σ imm a cls c2 s):∃ oe vs,s.heap.get? a=some oe∧oe.cls=cls∧oe.data=.fields vs∧vs[2]?=some c2:=by
 cases x with | mk frs m os kc fs B h1 h2 h3 h4 h5 =>
  obtain ⟨_,_,_,oe,vs,a1,a2,a3,a4,_⟩:=h5
  exact ⟨oe,vs,a1,a2,a3,a4⟩
theorem FlyF.fly (x:FlyF C fl σ imm a cls c2 s) (h:FlOk C.env.locals fl):Fly C σ imm (.ref a) cls c2 s :=
 by obtain ⟨frs,m,os,kc,fs,B,h1,h2,h3,h4,h5⟩:=x;exact ⟨frs,m,os,kc,fs,B,a,fl,rfl,h,h1,h2,h3,h4,h5⟩
theorem Fly.open {e:Value} (x:Fly C σ imm e cls c2 s):∃ a fl,e=.ref a∧FlOk C.env.locals fl∧FlyF C fl σ imm a cls c2 s :=
 by obtain ⟨frs,m,os,kc,fs,B,a,fl,e,h,h1,h2,h3,h4,h5⟩:=x;exact ⟨a,fl,e,h,frs,m,os,kc,fs,B,h1,h2,h3,h4,h5⟩
theorem FlyF.rel (x:FlyF C fl σ imm a cls c2 s):Rel C σ imm s:=by obtain ⟨_,_,_,_,_,_,_,h2,_,_,_⟩:=x;exact h2.rel
theorem FlyF.keeps (x:FlyF C fl σ imm a cls c2 s) {h':Heap} (k:∀ b o,s.heap.get? b=some o→h'.get? b=some o) {d:Drawn}{tk:Nat}:FlyF C fl σ imm a cls c2 ⟨h',s.gens,d,tk,s.os⟩ :=
 by obtain ⟨frs,m,os,kc,fs,B,h1,h2,h3,h4,h5⟩:=x;exact ⟨frs,m,os,kc,fs,B,h1,h2.grow k,h3,h4,h5.keeps k⟩
theorem FlyF.ty (x:FlyF C fl σ imm a cls c2 s):Looks C.M s.heap (typeOf (.ref a)) cls:=by
 obtain ⟨_,_,_,_,_,_,_,_,_,_,h5⟩:=x
 obtain ⟨ob,hob,hc⟩:=h5.ty
 rw [← hc]
 exact (Looks.ld hob).andThen .now
theorem FlyF.note (G:OkR C) (hA:A'.frames=C.A.frames) (h:FlOk C.env.locals fl) (x:FlyF C fl σ imm a cls c2 s) (q:∀ s',FlyF C (some (rawInt C.env.locals)) σ imm a cls c2 s'→Q () s'):wpAny C.M A' (noteFrame (.ref a) C.env) Q E s:=by
 obtain ⟨frs,m,os,kc,fs,B,h1,h2,h3,h4,h5⟩:=x
 refine noteT h (hA.trans h1) G.fr h5 fun h' x' u=>q _ ?_
 obtain ⟨fs2,_,R2⟩:=h2.ups (h':=h') (d:=s.drawn) (tk:=s.toks) (fun p hp=>x'.1 _ _ (h3 p hp)) (fun b o e=>x'.1 _ _ (h4 b o e)) u
 exact ⟨frs,m,os,kc,fs2,B,h1,R2,h3,h4,x'⟩
theorem FlyF.land (x:FlyF C fl σ imm a cls c2 s) (q:∀ s' fl',FlOk C.env.locals fl'→FlyF C fl' σ imm a cls c2 s'→Q () s'):wpAny C.M A' (setFlight (.ref a) none) Q E s:=by
 obtain ⟨frs,m,os,kc,fs,B,h1,h2,h3,h4,h5⟩:=x
 refine landT h5 fun h' fl' hf x' u=>q _ fl' (hf _) ?_
 obtain ⟨fs2,_,R2⟩:=h2.ups (h':=h') (d:=s.drawn) (tk:=s.toks) (fun p hp=>x'.1 _ _ (h3 p hp)) (fun b o e=>x'.1 _ _ (h4 b o e)) u
 exact ⟨frs,m,os,kc,fs2,B,h1,R2,h3,h4,x'⟩
theorem FlyF.back (G:OkR C) (x:FlyF C (some (rawInt C.env.locals)) σ imm a cls c2 s) (q:∀ s',FlyF C (some (rawInt C.env.locals)) σ imm a cls c2 s'→E (.ref a) s'):cameBackBy C.M A' C.env E (.ref a) s:=by
 obtain ⟨frs,m,os,kc,fs,B,h1,h2,h3,h4,h5⟩:=x
 refine backT G.fr h5 fun h' x' u=>q _ ?_
 obtain ⟨fs2,_,R2⟩:=h2.ups (h':=h') (d:=s.drawn) (tk:=s.toks) (fun p hp=>x'.1 _ _ (h3 p hp)) (fun b o e=>x'.1 _ _ (h4 b o e)) u
 exact ⟨frs,m,os,kc,fs2,B,h1,R2,h3,h4,x'⟩
theorem Fly.passes {e:Value}{A'':Around} (G:OkR C) (hA:A'.frames=C.A.frames) (x:Fly C σ imm e cls c2 s) (q:∀ s',Fly C σ imm e cls c2 s'→E e s'):notedBy C.M A' C.env (cameBackBy C.M A'' C.env E) e s:=by
 obtain ⟨a,fl,rfl,h,x⟩:=x.open
 exact x.note G hA h fun s' x'=>x'.back G fun s'' x''=>q s'' (x''.fly (.inr (.inr rfl)))
theorem FlyF.locals (G:OkR C) {B:Heap}{frs:List Env} (h5:Fw B (C.env::frs) a cls c2 fl s.heap):B.get? C.env.locals=none:=by
 obtain ⟨_,_,⟨_,⟨L',o',hf,hn,_⟩,_⟩,_⟩:=h5
 rw [G.fr] at hf;cases hf;exact hn
theorem FlyF.store {ρ ρ':List Slot}{ms:List (Addr×AO)}{x:Str}{d:D}{v:Value} (O:Ok C n) (G:OkR C) (y:FlyF C fl ⟨ρ,ms⟩ imm a cls c2 s) (hP:Put x .local d ρ ρ') (hv:DIn imm v d) (q:∀ s',FlyF C fl ⟨ρ',ms⟩ imm a cls c2 s'→Q () s'):wpAny C.M A' (storeName C.env x v) Q E s:=by
 obtain ⟨frs,m,os,kc,fs,B,h1,h2,h3,h4,h5⟩:=y
 obtain ⟨o,ho⟩:=hP.kind
 obtain ⟨oL,es,ep,hoL,hdL,_⟩:=id h2.fr.ns
 have hBL:=FlyF.locals G h5
 refine wpAny_storeName_local (h2.kn _ ho) h2.fr.ns (fun h' hn hs=>q _ ⟨frs,_,os,kc,fs,B,h1,h2.putLocal hP hv hn hs (dr:=s.drawn) (tk:=s.toks+1),h3,h4,?_⟩) (by rw [O.fk];rfl)
 obtain ⟨oL',es',ep',hoL',hdL',_⟩:=hn
 exact h5.but hBL hoL (fun vs e=>by rw [hdL] at e;cases e) hs.2 hoL' (fun vs e=>by rw [hdL'] at e;cases e)
theorem nameB {x:Str}{k:NameKind}{d:D}{pos:Pos} (O:Ok C n) (h:Has x k (some d) σ.ρ) (R:Rel C σ imm s) {Q:Value→Shared→Prop} (q:∀ v,DIn imm v d→Q v s):wpAny C.M A' (eval (.Name x pos) C.env) Q E s:=by
 refine Rel.elim R fun m os kc fs RX=>?_
 have hk:=RX.kn _ h.mem
 obtain ⟨n1,n2⟩:=O.nb _ _ hk
 have hv:=RX.va _ h.mem d rfl
 dsimp only at hk hv
 cases hv with
 | loc h1 r=>exact wpAny_Name (wpAny_loadName_local O.fk hk RX.fr.ns h1 (q _ r)) n1
 | cell h1 h2 h3 r=>exact wpAny_Name (wpAny_loadName_cell O.fk hk h1 ⟨_,(RX.mem_kc h2).1,h3⟩ (q _ r)) n1
 | cap h1 h2 h3 r=>exact wpAny_Name (wpAny_loadName_cell O.fk hk h1 ⟨_,(RX.mem_hid (C.capH _ h2)).1,h3⟩ (q _ r)) n1
 | free h1 h2 h3 r=>exact wpAny_Name (wpAny_loadName_free O.fk hk h1 ⟨_,(RX.mem_imm h2).1,h3⟩ (q _ r) n2) n1
theorem globB {x:Str}{v:Value}{pos:Pos} (O:Ok C n) (h:Has x .globalImplicit none σ.ρ) (g:GV C.w.params x v) (R:Rel C σ imm s) {Q:Value→Shared→Prop} (q:Q v s):wpAny C.M A' (eval (.Name x pos) C.env) Q E s:=by
 refine Rel.elim R fun m os kc fs RX=>?_
 have hk:=RX.kn _ h.mem
 obtain ⟨n1,n2⟩:=O.nb _ _ hk
 obtain ⟨p,loose,mg,mb,TT⟩:=O.top
 have hg:s.heap.Ns C.env.globals mg:=by rw [O.gl];exact TT.g.keeps RX.fr.keep
 have hb:s.heap.Ns C.env.builtins mb:=by rw [O.bi];exact TT.b.keeps RX.fr.keep
 rcases g with g | ⟨g1,g2,g3⟩
 ·exact Name_function_global O.fk hk (loadGlobal_global (env:=C.env) hg (mg_of O.kin TT.g g) q) n1
 ·exact Name_function_global O.fk hk (loadGlobal_builtin (env:=C.env) hg (mg_none_of O.kin TT.g g1) hb ((TT.builtins x g3).trans g2) q) n1
end
structure HT (C:Cx) (σ:AS) (t:Expr) (cls:Value) (b:Bool):Prop where
 go:∀ (A':Around) imm s e,Rel C σ imm s→Looks C.M s.heap (typeOf (.ref e)) cls→∀ (Q:Bool→Shared→Prop) (E:Value→Shared→Prop),(∀ h',(∀ q o,s.heap.get? q=some o→h'.get? q=some o)→Q b { s with heap:=h' }) →
  wpAny C.M A' (eval t C.env) (fun c s1=>wpAny C.M A' (excMatches (.ref e) c) Q E s1) E s
section
variable {C:Cx}{σ:AS}{n:Nat}{imm:List Cell}{s:Shared}{fl:Option Value}{a:Addr}{cls c2:Value}{E:Value→Shared→Prop}{A':Around}{b:Bool}
theorem qch {x:Str}{c:Value}{np:Pos} (O:Ok C n) (h:Has x .globalImplicit none σ.ρ) (g:GV C.w.params x c) (he:exmOne (KK C.w.params) cls c=some b):HT C σ (.Name x np) cls b:=.mk fun A' imm s e R L Q E q =>
 globB O h g R ((exm_one (O.kin.keeps R.base_keep) L he).here (q s.heap fun V V z=>z))
theorem HT_tup {x1 x2:Str}{k1 k2:Value}{p1 p2 tp:Pos}{kk:Nat} (O:Ok C n) (h1:Has x1 .globalImplicit none σ.ρ) (g1:GV C.w.params x1 k1) (h2:Has x2 .globalImplicit none σ.ρ) (g2:GV C.w.params x2 k2) (he:exmAny (KK C.w.params) cls [k1,k2]=some b) :
 HT C σ (.Tuple [.Name x1 p1,.Name x2 p2] kk tp) cls b:=.mk fun A' imm s e R L Q E q=>by
 refine wpAny_Tuple (wpAny_items_cons (globB O h1 g1 R (wpAny_items_cons (globB O h2 g2 R (wpAny_items_nil ⟨by size_fits,?_⟩)))))
 have kp:∀ q o,s.heap.get? q=some o→(s.heap.push { cls:=.type "tuple",data:=.seq [k1,k2].toArray }).get? q=some o:=fun V V z=>Heap.get?_push_of_some _ z
 exact (exm_tup2 ((O.kin.keeps R.base_keep).keeps kp) (L.keeps kp) (Heap.get?_push_size s.heap rfl) he).here (q _ kp)
variable {t:Expr}{nm:Option Str}{body:List Stmt}{b₀:Stmt}{suite:List Stmt}{pos:Pos}{rest:List ExceptHandler}{Q:Flow→Shared→Prop}
theorem handle_pass (x:FlyF C fl σ imm a cls c2 s) (T:HT C σ t cls false) (k:∀ s',FlyF C fl σ imm a cls c2 s'→wpAny C.M C.A (handleBy (.ref a) C.env rest) Q E s') :
 wpAny C.M C.A (handleBy (.ref a) C.env (.ExceptHandler (some t) nm body pos::rest)) Q E s :=
 wpAny_handleBy_cons (codeAny_handlers_test (T.go _ imm s a x.rel x.ty _ _ fun h' kp=>k _ (x.keeps kp))) (by intro q;cases q)
theorem handle_hit (x:FlyF C fl σ imm a cls c2 s) (T:HT C σ t cls true) (k:∀ s' fl',FlOk C.env.locals fl'→FlyF C fl' σ imm a cls c2 s'→wpAny C.M (C.A.mark (some (.ref a))) (execs (b₀::suite) C.env) Q (notedBy C.M (C.A.mark (some (.ref a))) C.env (cameBackBy C.M C.A C.env E)) s') :
 wpAny C.M C.A (handleBy (.ref a) C.env (.ExceptHandler (some t) none (b₀::suite) pos::rest)) Q E s :=
 wpAny_handleBy_cons (codeAny_handlers_test (T.go _ imm s a x.rel x.ty _ _ fun h' kp=>codeAny_handlers_suite ((x.keeps kp).land fun s' fl' hf y=>k s' fl' hf y))) (by intro q;cases q)
end
inductive EObj (h:Heap) (Cc:Addr):Prop
 | mk (nm q N bs tl hdct sn sub ab col dd k0 k1 k2 k3 k5):h.get? Cc=some (excClassObj nm q Cc N bs tl hdct sn sub ab col dd k0 k1 k2 k3 k5 "Exception.__new__")→(Value.ref Cc::tl).contains (.type "BaseException")=true→EObj h Cc
section
variable {prog:Program}{w:World}{A:Around}{E:Value→Shared→Prop}{s:Shared}{env:Env}
theorem unchain_go {e a:Addr}{oa:Obj}{va:Array Value}{Q:Value→Shared→Prop} (ha:s.heap.get? a=some oa) (hd:oa.data=.fields va) (h2:va[2]?=some .none) (q:Q .none s) :
 wpAny (model prog w) A (runValue (.builtin "proto.unchain" ⟨[.ref e,.ref a,.ref a,.bool false],[]⟩)) Q E s:=by
 have he:entryFor table "proto.unchain"=some Builtin.«proto.unchain»:=entryFor_of_tree (by kernel_rfl)
 refine wpAny_runValue (codeAny_builtin he ?_)
 unfold Builtin.«proto.unchain»
 refine wpAny_bind (wpAny_field ha hd h2 ?_)
 rw [if_pos (by decide)]
 exact wpAny_pure q
inductive RFr (Cc Ca a e2:Addr) (E:Value→Shared→Prop) (cv:Value) (s₂:Shared):Prop
 | mk (t:Addr) (oa:Obj) (va:Array Value):cv=.ref a→EObj s₂.heap Cc→EObj s₂.heap Ca→s₂.heap.get? e2=some { cls:=.ref Cc,data:=.fields #[.ref t,.none,.none,.none,.bool false,.none] }→s₂.heap.get? a=some oa→oa.cls=.ref Ca→oa.data=.fields va→va[2]?=some .none →
  (∀ h' oe vs,Heap.SameBut e2 s₂.heap h'→h'.get? e2=some oe→oe.cls=.ref Cc→oe.data=.fields vs→vs[1]?=some .none→vs[2]?=some (.ref a)→E (.ref e2) { s₂ with heap:=h' })→RFr Cc Ca a e2 E cv s₂
theorem raiseFrom {x c:Sem Value}{a Cc Ca:Addr}{Q:Flow→Shared→Prop} (hh:A.handled=some (.ref a))
 (h:wpAny (model prog w) A x (fun v s₁=>∃ e2,v=.ref e2∧a≠e2∧wpAny (model prog w) A c (RFr Cc Ca a e2 E) E s₁) E s) :
 wpAny (model prog w) A (raiseStmt env (some x) (some c)) Q E s:=by
 unfold raiseStmt
 refine wpAny_bind (wpAny_mono h (fun v s₁ h₁=>?_) fun V V x=>x)
 obtain ⟨e2,rfl,hne,h₁⟩:=h₁
 refine wpAny_bind (wpAny_holding (wpAny_mono h₁ (fun cv s₂ h₂=>wpAny_bind (wpAny_pure ?_)) fun V V x=>x))
 obtain ⟨t,oa,va,rfl,⟨nm,q,N,bs,tl,hdct,sn,sub,ab,col,dd,k0,k1,k2,k3,k5,hC,hcB⟩,⟨nm',q',N',bs',tl',hdct',sn',sub',ab',col',dd',k0',k1',k2',k3',k5',hC',hcB'⟩,he,ha,hac,had,ha2,hE⟩:=h₂
 obtain ⟨hp,g,d,tk,os⟩:=s₂
 dsimp only at hC hC' he ha hE
 unfold excFromValue
 repeat (first | with_reducible refine wpAny_loadPart_at he ?_ | with_reducible refine wpAny_loadPart_at hC ?_ | (with_reducible refine wpAny_loadPart_at ha ?_;rw [hac]) | with_reducible refine wpAny_loadPart_at hC' ?_ | (with_reducible refine wpAny_isSubtype_exc hC ?_;rw [hcB]) | (with_reducible refine wpAny_isSubtype_exc hC' ?_;rw [hcB']) | wp_step)
 have hCe:e2≠Cc:=fun z=>by subst z;rw [he] at hC;cases hC
 generalize hu1:(Obj.mapFields fun x=>x.setIfInBounds 3 (Value.ref a))=u1
 generalize hu2:(Obj.mapFields fun x=>x.setIfInBounds 4 (Value.bool true))=u2
 have he1:(hp.update e2 u1).get? e2=some { cls:=.ref Cc,data:=.fields #[.ref t,.none,.none,.ref a,.bool false,.none] }:=by
  subst hu1;exact Heap.get?_update_self _ he rfl
 have he2:((hp.update e2 u1).update e2 u2).get? e2=some { cls:=.ref Cc,data:=.fields #[.ref t,.none,.none,.ref a,.bool true,.none] }:=by
  subst hu2;exact Heap.get?_update_self _ he1 rfl
 have ot:∀ b,b≠e2→((hp.update e2 u1).update e2 u2).get? b=hp.get? b:=fun b hb=>by
  rw [Heap.get?_update_other _ _ (Ne.symm hb),Heap.get?_update_other _ _ (Ne.symm hb)]
 have hsz:((hp.update e2 u1).update e2 u2).objs.size=hp.objs.size:=by simp [Heap.update]
 generalize hH:(hp.update e2 u1).update e2 u2=H at he2 ot hsz
 have hC3:H.get? Cc=_:=(ot Cc (Ne.symm hCe)).trans hC
 clear hu1 hu2 he1
 refine wpAny_loadPart_at hC3 (wpAny_pure ?_)
 rw [if_pos (by rfl)]
 refine wpAny_pure ?_
 unfold setFlight raiseNew
 refine wpAny_bind (wpAny_bind (wpAny_field he2 rfl (x:=.none) rfl ?_))
 rw [if_neg (by decide)]
 refine wpAny_pure (wpAny_bind (wpAny_handled ?_))
 rw [hh]
 dsimp only
 rw [if_pos (show (Value.ref a != Value.ref e2)=true from by simp [hne])]
 refine wpAny_bind (wpAny_holding (unchain_go ((ot a hne).trans ha) had ha2 ?_))
 unfold updateField
 refine wpAny_bind (wpAny_bind (wpAny_load he2 ?_))
 dsimp only
 rw [if_pos (by simp)]
 refine (wpAny_update he2 (wpAny_throw (hE _ _ _ ⟨by simp [Heap.update,hsz],fun b hb=>(Heap.get?_update_other _ _ (Ne.symm hb)).trans (ot b hb)⟩ (Heap.get?_update_self _ he2 rfl) rfl rfl rfl rfl)))
end
section
variable {prog:Program}{w:World}{A:Around}{E:Value→Shared→Prop}{s:Shared}{env:Env}
variable {nm q:Str}{Cc N:Addr}{bs tl:List Value}{hdct:Bool}{sn:List Str}{sub:List Value}{ab:Bool}{col:Option Bool}{dd:Option Addr}{k0 k1 k2 k3 k5:Option Value}
theorem exc_call {mN:Str→Option Value}{x:Str}{np cpos:Pos}{args:List Expr}{Q:Value→Shared→Prop} (hplain:(backTo cpos (starEach args env)).any (·.1)=false) (hni:mN "__init__"=none)
 (h:wpAny (model prog w) A (eval (.Name x np) env) (fun f s₁=>f=.ref Cc∧wpAny (model prog w) A (evalArgs (.ref Cc) true (backTo cpos (starEach args env)) [])
  (fun a s₂=>a.kw=[]∧a.pos.length≤sizeLine∧s₂.heap.get? Cc=some (excClassObj nm q Cc N bs tl hdct sn sub ab col dd k0 k1 k2 k3 k5 "Exception.__new__")∧s₂.heap.Ns N mN∧OwnTail s₂.heap bmX tl ∧
   ∀ h' e,Heap.MadeExcOf s₂.heap h' e (.ref Cc) a.pos→Q (.ref e) { s₂ with heap:=h' }) E s₁) E s) :
 wpAny (model prog w) A (eval (.Call (.Name x np) args [] cpos) env) Q E s:=by
 refine wpAny_Call_ofName (wpAny_mono h (fun f s₁ h₁=>?_) fun V V x=>x)
 obtain ⟨rfl,h₁⟩:=h₁
 unfold callWith
 refine wpAny_bind (wpAny_holding (wpAny_mono h₁ (fun a s₂ h₂=>wpAny_bind (wpAny_standAt ?_)) fun V V x=>x))
 obtain ⟨apos,akw⟩:=a
 obtain ⟨hkw,hlen,hC,hn,T,h₂⟩:=h₂
 obtain rfl:akw=[]:=hkw
 obtain ⟨hp,g,d,tk,os⟩:=s₂
 rw [show ((backTo cpos (starEach args env)).any (·.1) || (backToKw cpos (keywordEach [] env)).any (·.1.isNone))=false by rw [hplain];rfl]
 refine wpAny_bind (wpAny_keeperOf_exc hC ?_)
 exact wpAny_bind (wpAny_call_exc_subT (hrest:=hlen) PySem.F.excBase_Exception T hC hn hni fun h' e hm=>wpAny_bind (wpAny_holding (wpAny_point (wpAny_pure (h₂ h' e hm)))))
end
section
variable {C:Cx}{σ:AS}{n:Nat}{imm:List Cell}{s:Shared}{fl:Option Value}{a:Addr}{cls c2:Value}{E:Value→Shared→Prop}{A' A'':Around}
theorem FlyF.rename (G:OkR C) (y:FlyF C fl σ imm a cls c2 s) {h':Heap}{m':Str→Option Value} (hn:h'.Ns C.env.locals m') (hs:Heap.SameBut C.env.locals s.heap h') {d:Drawn}{tk:Nat}:FlyF C fl ⟨[],σ.ms⟩ imm a cls c2 ⟨h',s.gens,d,tk,s.os⟩:=by
 obtain ⟨frs,m,os,kc,fs,B,h1,h2,h3,h4,h5⟩:=y
 have hBL:=FlyF.locals G h5
 obtain ⟨oL,es,ep,hoL,hdL,_⟩:=id h2.fr.ns
 obtain ⟨oL',es',ep',hoL',hdL',_⟩:=id hn
 refine ⟨frs,m',os,kc,fs,B,h1,{ fr:=h2.fr.set hn hs,nw:=fun p hp=>⟨(hs.2 p.1 (h2.nw p hp).2.1).trans (h2.nw p hp).1,(h2.nw p hp).2⟩,mu:=h2.mu,kd:=h2.kd,nd:=h2.nd,ap:=h2.ap,ah:=h2.ah,hn:=h2.hn,ou:=h2.ou,nm:=.nil,kn:=fun V h=>(nomatch h),va:=fun V h=>(nomatch h),cc:=fun V h=>(nomatch h),gn:=h2.gn,so:=h2.so },h3,h4,
  h5.but hBL hoL (fun vs e=>by rw [hdL] at e;cases e) hs.2 hoL' (fun vs e=>by rw [hdL'] at e;cases e)⟩
theorem FlyF.passOn {α:Type}{what:String}{Q:α→Shared→Prop} (G:OkR C) (x:FlyF C (some (rawInt C.env.locals)) σ imm a cls c2 s) (q:∀ s',FlyF C (some (rawInt C.env.locals)) σ imm a cls c2 s'→E (.ref a) s'):wpAny C.M A' (PySem.passOn what (.ref a) C.env:Sem α) Q E s:=by
 obtain ⟨frs,m,os,kc,fs,B,h1,h2,h3,h4,h5⟩:=x
 refine passT G.fr h5 fun h' x' u=>q _ ?_
 obtain ⟨fs2,_,R2⟩:=h2.ups (h':=h') (d:=s.drawn) (tk:=s.toks) (fun p hp=>x'.1 _ _ (h3 p hp)) (fun b o e=>x'.1 _ _ (h4 b o e)) u
 exact ⟨frs,m,os,kc,fs2,B,h1,R2,h3,h4,x'⟩
theorem Fly.asRaised {ρ:List Slot}{ms:List (Addr×AO)}{e:Value}{err:Str}{p:Pos} (O:Ok C n) (G:OkR C) (hA:A'.frames=C.A.frames) (hel:C.env.kindOf err=some .local) (f:Fly C ⟨ρ,ms⟩ imm e cls c2 s) (ke:∀ e s',Fly C ⟨[],ms⟩ imm e cls c2 s'→E e s') :
 AsSuiteRaised C.M A' C.env err p (notedBy C.M A' C.env (cameBackBy C.M A'' C.env E)) e s:=by
 obtain ⟨b,flb,rfl,hfb,yb⟩:=f.open
 refine yb.note G hA hfb fun s4 y4=>?_
 obtain ⟨_,m4,_,_,_,_,_,R4,_⟩:=id y4
 refine wpAny_nameGoes hel R4.fr.ns (by rw [O.fk];rfl) fun h5 m5 hn5 hs5=>?_
 refine (y4.rename G hn5 hs5).passOn G fun s6 y6=>?_
 exact y6.note G hA (.inr (.inr rfl)) fun s7 y7=>y7.back G fun s8 y8=>ke _ s8 (y8.fly (.inr (.inr rfl)))
theorem handle_as {t:Expr}{ρ ρ1 ρ2:List Slot}{ms:List (Addr×AO)}{err msg X xa:Str}{txt:Str}{k:Nat}{p1 p2 p3 np cp p4 p5 p6 p7:Pos}{rest:List ExceptHandler}{Ca Cc:Addr}{Q:Flow→Shared→Prop} (O:Ok C n) (G:OkR C)
 (x:FlyF C fl ⟨ρ,ms⟩ imm a (.ref Ca) .none s) (T:HT C ⟨ρ,ms⟩ t (.ref Ca) true) (Ha:EC C.w.params xa Ca) (Hc:EC C.w.params X Cc) (hX:Has X .globalImplicit none ρ2) (P1:Put err .local (.val (.ref a)) ρ ρ1) (P2:Put msg .local (.str txt) ρ1 ρ2)
 (he:Has err .local (some (.val (.ref a))) ρ2) (hm:Has msg .local (some (.str txt)) ρ2) (hel:C.env.kindOf err=some .local) (ke:∀ e s',Fly C ⟨[],ms⟩ imm e (.ref Cc) (.ref a) s'→E e s') :
 wpAny C.M C.A (handleBy (.ref a) C.env (.ExceptHandler (some t) (some err) [.Assign [.Name msg p1] (.Constant (.str txt) k p2) p3,.Raise (some (.Call (.Name X np) [.Name msg p4] [] cp)) (some (.Name err p5)) p6] p7::rest)) Q E s:=by
 obtain ⟨tl,N,nm,q,bs,hdct,sn,sub,ab,col,dd,k0,k1,k2,k3,k5,mN,hC,hN,hni,TL⟩:=Hc.objE O
 obtain ⟨tl',N',nm',q',bs',hdct',sn',sub',ab',col',dd',k0',k1',k2',k3',k5',mN',hC',_,_,TL'⟩:=Ha.objE O
 refine wpAny_handleBy_cons (codeAny_handlers_test (T.go _ imm s a x.rel x.ty _ _ fun h' kp=>codeAny_handlers_suite_as ((x.keeps kp).land fun s1 fl1 hf1 y1=>(y1.store O G P1 (.val _) fun s2 y2=>?_)))) (by intro q;cases q)
 refine wpAny_execs_cons (wpAny_Assign_Name (wpAny_Constant_str ((y2.keeps (h':=s2.heap) (d:=s2.drawn) (tk:=s2.toks+1) fun V V e=>e).store O G P2 (.str _ _) fun s3 y3=>?_)))
 refine wpAny_execs_cons ?_
 rw [arm_exec_Raise]
 refine wpAny_bind (wpAny_standAt ?_)
 have R3:=y3.rel
 have hst:starEach [.Name msg p4] C.env=[(false,eval (.Name msg p4) C.env)]:=rfl
 obtain ⟨oa,va,ha,hac,had,ha2⟩:=y3.ob
 have hEO:∀ (h:Heap),(∀ b o,C.base.get? b=some o→h.get? b=some o)→EObj h Cc∧EObj h Ca:=fun h kb =>
  ⟨⟨_,_,_,_,_,_,_,_,_,_,_,_,_,_,_,_,kb _ _ hC,by rw [List.contains_cons,TL.hasType PySem.F.excBase_Exception.hasBase,Bool.or_true]⟩,⟨_,_,_,_,_,_,_,_,_,_,_,_,_,_,_,_,kb _ _ hC',by rw [List.contains_cons,TL'.hasType PySem.F.excBase_Exception.hasBase,Bool.or_true]⟩⟩
 obtain ⟨E0,hE0⟩:∃ E0:Value→Shared→Prop,E0=AsSuiteRaised C.M (C.A.mark (some (.ref a))) C.env err p7 (notedBy C.M (C.A.mark (some (.ref a))) C.env (cameBackBy C.M C.A C.env E)):=⟨_,rfl⟩
 have key:∀ (v:Value) (h':Heap) (e2:Addr),Heap.MadeExcOf s3.heap h' e2 (.ref Cc) [v]→wpAny C.M (C.A.mark (some (.ref a))) (do let v ← eval (.Name err p5) C.env;standAt p6;pure v) (RFr Cc Ca a e2 E0) E0 { s3 with heap:=h' }:=fun v h' e2 hmk=>by
  have y4:=y3.keeps (d:=s3.drawn) (tk:=s3.toks) hmk.keeps
  obtain ⟨t,ht,_,_⟩:=hmk.there
  refine wpAny_bind (nameB O he y4.rel fun v' hv'=>wpAny_bind (wpAny_standAt (wpAny_pure ?_)))
  have hvq:=hv'.vEq
  subst hvq
  obtain ⟨e1,e2'⟩:=hEO h' fun b o q=>hmk.keeps b o (R3.base_keep b o q)
  refine ⟨t,oa,va,rfl,e1,e2',ht,hmk.keeps _ _ ha,hac,had,ha2,fun h5 oe vs hs5 ho5 hc5 hd5 h51 h52=>?_⟩
  have:=Fly.made O G R3 (h':=h5) (d:=s3.drawn) (tk:=s3.toks) (fun b o q=>(hs5.2 b fun z=>by subst z;rw [hmk.new] at q;cases q).trans (hmk.keeps b o q)) hmk.new ho5 hd5 h51 h52
  rw [hc5] at this
  rw [hE0]
  exact this.asRaised O G rfl hel ke
 show wpAny C.M (C.A.mark (some (.ref a))) _ _ (AsSuiteRaised C.M (C.A.mark (some (.ref a))) C.env err p7 (notedBy C.M (C.A.mark (some (.ref a))) C.env (cameBackBy C.M C.A C.env E))) s3
 rw [← hE0]
 refine raiseFrom (Cc:=Cc) (Ca:=Ca) rfl (wpAny_bind (exc_call (mN:=mN) (nm:=nm) (q:=q) (N:=N) (bs:=bs) (tl:=tl) (hdct:=hdct) (sn:=sn) (sub:=sub) (ab:=ab) (col:=col) (dd:=dd) (k0:=k0) (k1:=k1) (k2:=k2) (k3:=k3) (k5:=k5) (by rw [hst];rfl) hni (globB O hX (.inl Hc.g) R3 ⟨rfl,?_⟩)))
 rw [hst]
 refine evalArgs_plain (Calls.spliced_cons (x:=eval (.Name msg p4) C.env) (nameB O hm R3 fun v hv=>Calls.spliced_nil ?_))
 refine ⟨rfl,(by show 1≤sizeLine;decide),R3.base_keep _ _ hC,hN.keeps R3.base_keep,TL.keeps R3.base_keep,fun h' e2 hmk=>?_⟩
 exact wpAny_bind (wpAny_standAt (wpAny_pure ⟨e2,rfl,fun z=>(by subst z;rw [hmk.new] at ha;cases ha),key v h' e2 hmk⟩))
end
section
variable {prog:Program}{w:World}{A:Around}{E:Value→Shared→Prop}{s:Shared}{env:Env}
theorem wpC_Try {body:List Stmt}{h₀:ExceptHandler}{hs:List ExceptHandler}{pos:Pos}{Q:Flow→Shared→Prop}
 (h:wpC (model prog w) A (execs body env) Q (fun e s₁=>wpAny (model prog w) A (noteFrame e env) (fun V s₂=>wpAny (model prog w) A (setFlight e none) (fun V s₃=>wpAny (model prog w) A (handleBy e env (h₀::hs)) Q E s₃) E s₂) E s₁) s) :
 wpC (model prog w) A (exec (.Try body (h₀::hs) [] [] pos) env) Q E s:=by
 rw [arm_exec_Try]
 refine qa1 (wpAny_standAt ?_)
 refine qae (qe4 (qa4 h (fun f s₁ h₁=>?_) fun e s₁ h₁=>?_))
 ·cases f with
  | next=>exact qap (wpAny_execs_nil h₁)
  | _=>exact qa8 h₁
 ·exact qap (wpAny_bind (wpAny_mono h₁ (fun V V h₂=>wpAny_bind h₂) fun V V x=>x))
end
section
variable {C:Cx}{σ:AS}{n:Nat}{imm:List Cell}{s:Shared}{KF:Fl→AS→Prop}{KE KE1:Value→Value→AS→Prop}{rest:List Stmt}
inductive RPost (C:Cx) (imm:List Cell) (KF:Fl→AS→Prop) (f:Flow) (s':Shared):Prop
 | mk (d:D) (σ':AS) (imm':List Cell):imm⊆imm'→Rel C σ' imm' s'→FlIs imm' f (.ret d)→KF (.ret d) σ'→RPost C imm KF f s'
def qds (C:Cx) (σ:AS) (cls c2:Value) (hs:List ExceptHandler) (KF:Fl→AS→Prop) (KE:Value→Value→AS→Prop):Prop:=∀ imm fl a s,FlOk C.env.locals fl→FlyF C fl σ imm a cls c2 s →
 wpAny C.M C.A (handleBy (.ref a) C.env hs) (RPost C imm KF) (qcw C imm KE) s
theorem SR_try {body:List Stmt}{h₀:ExceptHandler}{hs:List ExceptHandler}{pos:Pos} (G:OkR C) (hb:SLR C σ body (fun f σ'=>match f with | .next=>SLR C σ' rest KF KE | f=>KF f σ') KE1) (hh:∀ cls c2 σ',KE1 cls c2 σ'→qds C σ' cls c2 (h₀::hs) KF KE) :
 SLR C σ (.Try body (h₀::hs) [] [] pos::rest) KF KE:=.mk fun imm s R=>by
 refine qax (wpC_Try (qa4 (hb.go imm s R) (fun f s' ⟨f',σ',i',hs,R',hf,z⟩=>?_) fun e s' ⟨σ',i',cls,c2,hs,hF,z⟩=>?_))
 ·cases hf with
  | next=>exact qa4 (z.go i' s' R') (fun V V h=>h.up hs) fun V V h=>h.up hs
  | brk=>exact ⟨.brk,σ',i',hs,R',.brk,z⟩
  | cont=>exact ⟨.cont,σ',i',hs,R',.cont,z⟩
  | ret hv=>exact ⟨_,σ',i',hs,R',.ret hv,z⟩
 ·obtain ⟨a,fl,rfl,hfl,x⟩:=hF.open
  refine x.note G rfl hfl fun s2 x2=>x2.land fun s3 fl3 hf3 x3=>wpAny_mono (hh _ _ _ z i' fl3 a s3 hf3 x3) (fun f s4 ⟨d,σ4,i4,h4,R4,f4,k4⟩=>?_) fun V V h=>h.up hs
  cases f4 with
  | ret hv=>exact ⟨_,σ4,i4,qa0 hs h4,R4,.ret hv,k4⟩
theorem qc0 {cls c2:Value}{t:Expr}{nm:Option Str}{body:List Stmt}{pos:Pos}{hs:List ExceptHandler} (T:HT C σ t cls false) (k:qds C σ cls c2 hs KF KE):qds C σ cls c2 (.ExceptHandler (some t) nm body pos::hs) KF KE :=
 fun imm fl a s hf x=>handle_pass x T fun s' x'=>k imm fl a s' hf x'
theorem qdc {cls c2:Value}{t:Expr}{txt:Str}{k:Nat}{p1 p2 pos:Pos}{hs:List ExceptHandler} (G:OkR C) (T:HT C σ t cls true) (kk:KF (.ret (.str txt)) σ):qds C σ cls c2 (.ExceptHandler (some t) none [.Return (some (.Constant (.str txt) k p1)) p2] pos::hs) KF KE :=
 fun imm fl a s hf x=>handle_hit x T fun s' fl' hf' x'=>wpAny_execs_cons (wpAny_Return_some (wpAny_Constant_str ⟨.str txt,σ,imm,qa2,x'.rel.tok _,.ret (.str _ _),kk⟩))
theorem qcv {t:Expr}{ρ:List Slot}{ms:List (Addr×AO)}{err msg X xa:Str}{txt:Str}{k:Nat}{p1 p2 p3 np cp p4 p5 p6 p7:Pos}{hs:List ExceptHandler}{Ca Cc:Addr} (O:Ok C n) (G:OkR C)
 (T:HT C ⟨ρ,ms⟩ t (.ref Ca) true) (Ha:EC C.w.params xa Ca) (Hc:EC C.w.params X Cc) (hp:∀ a,∃ ρ1 ρ2,Has X .globalImplicit none ρ2∧Put err .local (.val (.ref a)) ρ ρ1∧Put msg .local (.str txt) ρ1 ρ2∧Has err .local (some (.val (.ref a))) ρ2∧Has msg .local (some (.str txt)) ρ2)
 (hel:C.env.kindOf err=some .local) (ke:∀ c2,KE (.ref Cc) c2 ⟨[],ms⟩) :
 qds C ⟨ρ,ms⟩ (.ref Ca) .none (.ExceptHandler (some t) (some err) [.Assign [.Name msg p1] (.Constant (.str txt) k p2) p3,.Raise (some (.Call (.Name X np) [.Name msg p4] [] cp)) (some (.Name err p5)) p6] p7::hs) KF KE:=fun imm fl a s hf x=>by
 obtain ⟨ρ1,ρ2,hX,P1,P2,he,hm⟩:=hp a
 exact handle_as O G x T Ha Hc hX P1 P2 he hm hel fun e s' f=>⟨_,imm,_,_,qa2,f,ke _⟩
end
section
variable {C:Cx}{σ:AS}{n:Nat}{imm:List Cell}{s:Shared}{Cc:Addr}{vs:List Value}
theorem OkR.in1 (G:OkR C):OkR (C.in1 Cc vs):=by
 obtain ⟨⟨frs,h1,h2⟩,h3,h4⟩:=G
 refine ⟨⟨frs,?_,h2⟩,h3,guards_in1 h4⟩
 exact h1
end
section
variable {C:Cx}{n:Nat}{ρ:List Slot}{ms:List (Addr×AO)}{K:D→AS→Prop}{KE:Value→Value→AS→Prop}
theorem XR_make {x:Str}{p pos:Pos}{args:List Expr}{ds:List D}{Cc fI:Addr}{k:Nat}{KI:Addr→Addr→List (Addr×AO)→Prop}
 (O:Ok C (k+1)) (G:OkR C) (hx:X C ⟨ρ,ms⟩ (.Name x p) (.val (.ref Cc))) (hk:keepIn (KK C.w.params) (.ref Cc)=true) (ha:Xs C ⟨ρ,ms⟩ args ds)
 (hm:makesIn (KK C.w.params) Cc=true) (hi:findIn (KK C.w.params) (.ref Cc) "__init__"=some (some (.ref fI))) (hf:typeIn (KK C.w.params) (.ref fI)=some (.type "function"))
 (FI:∀ a dx,FnR C.w.params fI k (.val (.ref a)::ds) [(a,.inst Cc dx),(dx,.dict [])] (fun d M'=>d=.none∧KI a dx M') (fun V V V=>False))
 (kq:∀ a dx M',KI a dx M'→K (.val (.ref a)) ⟨ρ,M'++ms⟩):XR C ⟨ρ,ms⟩ (.Call (.Name x p) args [] pos) K KE:=.mk fun imm s R=>by
 generalize hER:(qcw C imm KE)=ER
 refine qdt (hx.goV imm s R _ _ fun i1 s1 hs1 R1=>?_)
 refine qct (P:=fun h=>(KK C.w.params).In h) (by rw [ha.plain pos];rfl) (keeps_K hk) ?_
 have main:∀ (i2:List Cell) (s2:Shared) (vs:List Value),Rel C ⟨ρ,ms⟩ i2 s2→DAll i2 vs ds→imm⊆i2→wpC C.M C.A (call (.ref Cc) vs []) (VPost C imm K) ER s2:=fun i2 s2 vs R2 hvs hs2=>by
  refine Rel.elim R2 fun m os kc fs RX=>?_
  refine qcx (makeC RX.fr RX.nw (O.kin.keeps RX.fr.keep) hm hi hf fun a dx h' F N hlt hda=>?_)
  have R3:Rel C ⟨ρ,[(a,.inst Cc dx),(dx,.dict [])]++ms⟩ i2 { s2 with heap:=h' }:=by
   have hD:∀ q:Cell,q∈os++(kc++(i2++(fs++C.hid)))→q.1≠dx:=fun q hq e=>Nat.lt_irrefl _ (e ▸ hlt q hq)
   have hA:∀ q:Cell,q∈os++(kc++(i2++(fs++C.hid)))→q.1≠a:=fun q hq e=>Nat.lt_irrefl _ (Nat.lt_trans (e ▸ hlt q hq) hda)
   exact ⟨m,(a,_)::(dx,_)::os,kc,fs,{ RX with
    fr:=F
    nw:=N
    mu:=.cons .inst (.cons (.dict (es:=[]) (n:=0) .nil) RX.mu)
    nd:=by
     rw [lca,lca,lmc,lmc,List.nodup_cons,List.nodup_cons]
     refine ⟨fun h=>?_,fun h=>?_,RX.nd⟩
     ·rcases mcj h with e | h
      ·have e:a=dx:=e
       exact Nat.lt_irrefl _ (e ▸ hda)
      ·obtain ⟨q,hq,e⟩:=mmj h
       exact hA q (by rw [← laa];exact mal _ hq) e
     ·obtain ⟨q,hq,e⟩:=mmj h
      exact hD q (by rw [← laa];exact mal _ hq) e
    ap:=fun q hq h=>by
     rw [lca,lca,lmc,lmc] at h
     rcases mcj h with h | h
     ·exact hA q (mar _ (mar _ hq)) h
     ·rcases mcj h with h | h
      ·exact hD q (mar _ (mar _ hq)) h
      ·exact RX.ap q hq h }⟩
  refine qfm ((FI a dx).go (C.in1 Cc vs) ρ ms i2 (.ref a::vs) rfl O.in1 G.in1 (.cons (.val (.ref a)) hvs) _ R3.in1 (fun v s'=>v=.none∧VPost C imm K (.ref a) s') ER (fun v d M1' i3 s3 hs3 R4 hv hK=>?_) fun V V V V V V V V h=>h.elim) fun r s' z=>?_
  ·obtain ⟨e,hK⟩:=hK
   subst e
   cases hv
   exact ⟨rfl,.val (.ref a),_,i3,qa0 hs2 hs3,R4.out1,.val _,kq a dx M1' hK⟩
  ·rcases r with e | (v | _ | _ | _) <;> exact z
 cases ha with
 | nil=>exact evalArgs_nil3 ⟨O.kin.keeps R1.base_keep,main i1 s1 [] R1 .nil hs1⟩
 | cons h1 h2 h3 =>
  have hh:=Xs.cons h1 h2 h3
  rw [h3]
  refine evalArgs_plain ?_
  have:=hh.run pos i1 s1 R1 (fun vs s2=>(KK C.w.params).In s2.heap∧wpC C.M C.A (call (.ref Cc) ([]++vs) []) (VPost C imm K) ER s2) ER fun vs i2 s2 hs2 R2 hvs =>
   ⟨O.kin.keeps R2.base_keep,main i2 s2 vs R2 hvs (qa0 hs1 hs2)⟩
  rw [h3] at this
  exact this
end
inductive Fld (x:Str) (d:D):List (Str×D)→Prop
 | here {fs}:Fld x d ((x,d)::fs)
 | there {y e fs}:x≠y→Fld x d fs→Fld x d ((y,e)::fs)
theorem Fld.look {x:Str}{d:D}{fs:List (Str×D)} (h:Fld x d fs):fs.lookup x=some d:=by
 induction h with
 | here=>simp [List.lookup]
 | there hn _ ih=>rw [List.lookup_cons,beq_eq_false_iff_ne.mpr hn];exact ih
inductive FPut (x:Str) (d:D):List (Str×D)→List (Str×D)→Prop
 | nil:FPut x d [] [(x,d)]
 | here {e fs}:FPut x d ((x,e)::fs) ((x,d)::fs)
 | there {y e fs fs'}:y≠x→FPut x d fs fs'→FPut x d ((y,e)::fs) ((y,e)::fs')
theorem FPut.eq {x:Str}{d:D}{fs fs':List (Str×D)} (h:FPut x d fs fs'):putF x d fs=fs':=by
 induction h with
 | nil=>rfl
 | here=>rw [qej];simp
 | there hn _ ih=>rw [qej,if_neg (by simpa using hn),ih]
inductive MPut (dx:Addr) (a a':AO):List (Addr×AO)→List (Addr×AO)→Prop
 | here {ms}:MPut dx a a' ((dx,a)::ms) ((dx,a')::ms)
 | there {p ms ms'}:MPut dx a a' ms ms'→MPut dx a a' (p::ms) (p::ms')
theorem MPut.split {dx:Addr}{a a':AO}{ms ms':List (Addr×AO)} (h:MPut dx a a' ms ms'):∃ m1 m2,ms=m1++(dx,a)::m2∧ms'=m1++(dx,a')::m2:=by
 induction h with
 | @here ms=>exact ⟨[],ms,rfl,rfl⟩
 | @there p _ _ _ ih=>obtain ⟨m1,m2,e1,e2⟩:=ih;exact ⟨p::m1,m2,by rw [e1];rfl,by rw [e2];rfl⟩
theorem qdh {dx x:Addr}{a b:AO}{m1 m2:List (Addr×AO)} (h:(x,b)∈m1++(dx,a)::m2) (hn:b≠a):(x,b)∈m1++m2:=by
 rcases maj h with h | h
 ·exact mal _ h
 ·rcases mcj h with h | h
  ·cases h;exact absurd rfl hn
  ·exact mar _ h
section
variable {C:Cx}{σ:AS}{n:Nat}{imm:List Cell}{s:Shared}{ρ ρ':List Slot}{ms ms':List (Addr×AO)}{K:D→AS→Prop}{KF:Fl→AS→Prop}{KE:Value→Value→AS→Prop}{rest:List Stmt}{σ1:AS}
theorem XM.toR {e:Expr} (h:XM C σ e K (fun V V=>False)):XR C σ e K KE:=.mk fun imm s R=>qap (wpAny_mono (h.go imm s R) (fun V V x=>x) fun V V x=>x.elim)
theorem XC.toR {e:Expr} (h:XC C σ e K (fun V V=>False)):XR C σ e K KE:=.mk fun imm s R=>qa4 (h.go imm s R) (fun V V x=>x) fun V V x=>x.elim
theorem X_at {value:Expr}{attr:Str}{pos:Pos}{x Cc dx:Addr}{fs:List (Str×D)}{d:D} (O:Ok C n) (ho:X C σ value (.val (.ref x))) (hx:(x,AO.inst Cc dx)∈σ.ms) (hd:(dx,AO.dict fs)∈σ.ms) (hf:Fld attr d fs) (ha:ownA C.w.params Cc attr=true) (hh:d.handed=true)
 (hb:attributeBase value attr C.env (eval value C.env)=eval value C.env):X C σ (.Attribute value attr pos) d:=X_attr O ho hx hd hf.look ha hh hb
theorem SR_one {st:Stmt} (h:SC C σ (execs [st] C.env) (fun f σ'=>f=.next∧σ'=σ1) (fun V V=>False)) (k:SLR C σ1 rest KF KE):SLR C σ (st::rest) KF KE :=
 SR_step (fun σ'=>σ'=σ1) (.mk fun imm s R=>qa4 (h.go imm s R) (fun V V h=>h.of fun V V h=>by obtain ⟨e,z⟩:=h;subst e;exact z) fun V V x=>x) fun σ' e=>e ▸ k
theorem SR_assign {x:Str}{p pos:Pos}{e:Expr}{d:D} (O:Ok C n) (h:X C ⟨ρ,ms⟩ e d) (hP:Put x .local d ρ ρ') (k:SLR C ⟨ρ',ms⟩ rest KF KE) (hn:qbj e=true):SLR C ⟨ρ,ms⟩ (.Assign [.Name x p] e pos::rest) KF KE :=
 SR_one (SL.toC (S_assign (σ:=⟨ρ,ms⟩) O h hP (qam ⟨rfl,rfl⟩) hn)) k
theorem SR_set {o e:Expr}{attr:Str}{ap pos:Pos}{x Cc dx:Addr}{fs fs':List (Str×D)}{d:D} (O:Ok C n) (he:X C ⟨ρ,ms⟩ e d) (ho:X C ⟨ρ,ms⟩ o (.val (.ref x))) (hx:(x,AO.inst Cc dx)∈ms) (hM:MPut dx (.dict fs) (.dict fs') ms ms') (hF:FPut attr d fs fs') (hl:fs.length≤900)
 (ha:setA C.w.params Cc attr=true) (k:SLR C ⟨ρ,ms'⟩ rest KF KE) (hn:qbj e=true):SLR C ⟨ρ,ms⟩ (.Assign [.Attribute o attr ap] e pos::rest) KF KE:=by
 obtain ⟨m1,m2,rfl,rfl⟩:=hM.split
 refine SR_one (SL.toC (S_setAttr (m1:=m1) (m2:=m2) O he ho (qdh hx (by intro q;cases q)) ha hl (qam ⟨rfl,rfl⟩) hn)) ?_
 rw [hF.eq];exact k
theorem qdq {o e:Expr}{attr:Str}{ap pos:Pos}{x Cc dx:Addr} (O:Ok C n) (h:XR C σ e K KE) (hsA:setA C.w.params Cc attr=true)
 (k:∀ d σ',K d σ'→∃ fs fs' ms',X C σ' o (.val (.ref x))∧(x,AO.inst Cc dx)∈σ'.ms∧MPut dx (.dict fs) (.dict fs') σ'.ms ms'∧FPut attr d fs fs'∧fs.length≤900∧SLR C ⟨σ'.ρ,ms'⟩ rest KF KE) (hn:qbj e=true):SLR C σ (.Assign [.Attribute o attr ap] e pos::rest) KF KE :=
 SR_setAttrR O h hsA (fun d σ' z=>by
  obtain ⟨fs,fs',ms',h1,h2,h3,h4,h5,h6⟩:=k d σ' z
  obtain ⟨m1,m2,e1,rfl⟩:=h3.split
  rw [e1] at h2
  exact ⟨h1,m1,m2,fs,e1,qdh h2 (by intro q;cases q),h5,by rw [h4.eq];exact h6⟩) hn
end
section
variable {C:Cx}{σ:AS}{n:Nat}{imm:List Cell}{s:Shared}
theorem Cmp_isNot {v:Value} (h:v≠.none):Cmp C σ .IsNot (.val v) .none true:=.mk fun imm v1 v2 h1 h2 s R Q E q=>by
 cases h1;cases h2
 exact isnot_none_ne h (q _ _ qa2 R)
theorem Cmp_isNot0:Cmp C σ .IsNot .none .none false:=.mk fun imm v1 v2 h1 h2 s R Q E q=>by
 cases h1;cases h2
 exact wpAny_isNot_self rfl (q _ _ qa2 R)
theorem Tr_int {i:Int}:Tr C σ (.int i) (i != 0):=.mk fun imm v hv s R Q E q=>by
 cases hv
 exact truthy_int (q _ _ qa2 R)
end
theorem g_BACKLOG {P:Params}:GV P "CONTINUATION_BACKLOG" (.int 64 622):=.inl (by kernel_rfl)
theorem X_bytes0 {C:Cx}{σ:AS}{k:Nat}{pos:Pos}:X C σ (.Constant (.bytes []) k pos) (.bytes []):=qf4 (b:=[]) (ks:=[]) rfl
section
variable {x:Str}{k:NameKind}{p0 p1 p2 p3 p4 p5 p6 p7:Slot}{r r2:List Slot}
theorem Hs1 {d:Option D}:Has x k d (p0::⟨x,k,d⟩::r):=.there .here
theorem Ps1 {d:D}{o:Option D}:Put x k d (p0::⟨x,k,o⟩::r) (p0::⟨x,k,some d⟩::r):=.there .here
theorem Hs2 {d:Option D}:Has x k d (p0::p1::⟨x,k,d⟩::r):=.there (.there .here)
theorem Ps2 {d:D}{o:Option D}:Put x k d (p0::p1::⟨x,k,o⟩::r) (p0::p1::⟨x,k,some d⟩::r):=.there (.there .here)
theorem Hs3 {d:Option D}:Has x k d (p0::p1::p2::⟨x,k,d⟩::r):=.there (.there (.there .here))
theorem Ps3 {d:D}{o:Option D}:Put x k d (p0::p1::p2::⟨x,k,o⟩::r) (p0::p1::p2::⟨x,k,some d⟩::r):=.there (.there (.there .here))
theorem Hs4 {d:Option D}:Has x k d (p0::p1::p2::p3::⟨x,k,d⟩::r):=.there (.there (.there (.there .here)))
theorem Ps4 {d:D}{o:Option D}:Put x k d (p0::p1::p2::p3::⟨x,k,o⟩::r) (p0::p1::p2::p3::⟨x,k,some d⟩::r):=.there (.there (.there (.there .here)))
theorem Hs5 {d:Option D}:Has x k d (p0::p1::p2::p3::p4::⟨x,k,d⟩::r):=.there (.there (.there (.there (.there .here))))
theorem Ps5 {d:D}{o:Option D}:Put x k d (p0::p1::p2::p3::p4::⟨x,k,o⟩::r) (p0::p1::p2::p3::p4::⟨x,k,some d⟩::r):=.there (.there (.there (.there (.there .here))))
theorem Hs6 {d:Option D}:Has x k d (p0::p1::p2::p3::p4::p5::⟨x,k,d⟩::r):=.there (.there (.there (.there (.there (.there .here)))))
theorem Ps6 {d:D}{o:Option D}:Put x k d (p0::p1::p2::p3::p4::p5::⟨x,k,o⟩::r) (p0::p1::p2::p3::p4::p5::⟨x,k,some d⟩::r):=.there (.there (.there (.there (.there (.there .here)))))
theorem Hs7 {d:Option D}:Has x k d (p0::p1::p2::p3::p4::p5::p6::⟨x,k,d⟩::r):=.there (.there (.there (.there (.there (.there (.there .here))))))
theorem Ps7 {d:D}{o:Option D}:Put x k d (p0::p1::p2::p3::p4::p5::p6::⟨x,k,o⟩::r) (p0::p1::p2::p3::p4::p5::p6::⟨x,k,some d⟩::r):=.there (.there (.there (.there (.there (.there (.there .here))))))
theorem Ht8 {d:Option D} (h:Has x k d r):Has x k d (p0::p1::p2::p3::p4::p5::p6::p7::r):=.there (.there (.there (.there (.there (.there (.there (.there h)))))))
theorem Pt8 {d:D} (h:Put x k d r r2):Put x k d (p0::p1::p2::p3::p4::p5::p6::p7::r) (p0::p1::p2::p3::p4::p5::p6::p7::r2):=.there (.there (.there (.there (.there (.there (.there (.there h)))))))
end
section
variable {α:Type}{a p0 p1 p2 p3 p4 p5:α}{l:List α}
theorem Me1:a∈p0::a::l:=.tail _ (.head _)
theorem Me2:a∈p0::p1::a::l:=.tail _ (.tail _ (.head _))
theorem Me3:a∈p0::p1::p2::a::l:=.tail _ (.tail _ (.tail _ (.head _)))
theorem Me4:a∈p0::p1::p2::p3::a::l:=.tail _ (.tail _ (.tail _ (.tail _ (.head _))))
theorem Me5:a∈p0::p1::p2::p3::p4::a::l:=.tail _ (.tail _ (.tail _ (.tail _ (.tail _ (.head _)))))
theorem Mt6 (h:a∈l):a∈p0::p1::p2::p3::p4::p5::l:=.tail _ (.tail _ (.tail _ (.tail _ (.tail _ (.tail _ h)))))
end
section
variable {α:Type}{p q:α}{x l l1 m m1 m2 r:List α}
theorem TeHere:(p::l).Perm (p::l):=.refl _
theorem TeCons (h:l.Perm (p::r)):(q::l).Perm (p::q::r):=(h.cons q).trans (.swap ..)
theorem TeLeft (h:l.Perm (p::r)):(l++m).Perm (p::(r++m)):=h.append_right m
theorem TeRight (h:m.Perm (p::r)):(l++m).Perm (p::(l++r)):=(h.append_left l).trans List.perm_middle
theorem TaHere:x.Perm (x++[]):=.of_eq (List.append_nil x).symm
theorem TaCons (h:l.Perm (x++r)):(q::l).Perm (x++q::r):=(h.cons q).trans List.perm_middle.symm
theorem TaLeft (h:l.Perm (x++r)):(l++m).Perm (x++(r++m)):=(h.append_right m).trans (.of_eq (laa ..))
theorem TaRight (h:m.Perm (x++r)):(l++m).Perm (x++(l++r)):=(h.append_left l).trans (List.perm_append_comm_assoc ..)
theorem RmNil:l.Perm ([]++l):=.refl _
theorem RmCons (h:l.Perm (p::l1)) (k:l1.Perm (m++r)):l.Perm ((p::m)++r):=h.trans (k.cons p)
theorem RmApp (h:l.Perm (m1++l1)) (k:l1.Perm (m2++r)):l.Perm ((m1++m2)++r):=h.trans ((k.append_left m1).trans (.of_eq (laa ..).symm))
theorem NiNil:([]:List α)=[]:=rfl
theorem NiApp (h:l=[]) (k:m=[]):l++m=[]:=by rw [h,k];rfl
theorem PmRm (h:l.Perm (m++r)) (k:r=[]):l.Perm m:=by rw [k,List.append_nil] at h;exact h
end
section
variable {C:Cx}{σ:AS}{n:Nat}{imm:List Cell}{s:Shared}
theorem qf3 {elt target iter:Expr}{ifs:List Expr}{scope:Scope}{pos:Pos}{items:List D}{ds:List D} (ρc:List Slot) (f:D→Option D) (O:Ok C n) (src:Src C σ iter items) (hρ:qao σ.ρ scope.names=ρc) (hcap:qc9 σ.ρ scope.names=true)
 (hz:items.length≤1000000)
 (turn:∀ (CC:Cx) (i:Nat) (d:D),Ok CC n→CC.w.params=C.w.params→items[i]?=some d→∃ ρ2,Asg CC target d ρc ρ2∧Wk ρ2 ρc∧Item CC ⟨ρ2,[]⟩ elt ifs (f d))
 (hd:items.filterMap f=ds) (nd:(scope.names.map (·.1)).Nodup:=by decide) (hifs:ifs=[]∨∃ c,ifs=[c]:=by walk_at "y") (hkind:scope.kind=.function:=by rfl) :
 X C σ (.ListComp elt [⟨target,iter,ifs,0⟩] scope pos) (.lst ds):=by
 subst hρ
 exact X_comp O src hifs nd hcap hkind hz f turn hd
theorem SL.of_rel {st:List Stmt}{K:Fl→AS→Prop}{E:Value→Shared→Prop} (h:∀ imm s,Rel C σ imm s→SL C σ st K E):SL C σ st K E:=.mk fun imm s R=>(h imm s R).go imm s R
theorem swaps_yes {elt:Expr}{gens:List Comprehension}{scope:Scope}{pos p:Pos}{x:Str}{l:Nat} (O:Ok C n) (hk:C.env.kindOf x=some .local) (h:(p.line == pos.line && !(scope.names.any fun y=>y.1 == x && (y.2 == .local || y.2 == .cell)))=true) :
 swapsWith (.ListComp elt gens scope pos) (some (.Name x p)) l C.env=pure true:=by
 have hb:C.env.blockKind=.function:=by unfold Env.blockKind;rw [O.fk];rfl
 show (pure (C.env.blockKind == .function && C.env.kindOf x == some .local && p.line == pos.line && !(scope.names.any fun y=>y.1 == x && (y.2 == .local || y.2 == .cell))):Sem Bool)=pure true
 rw [hb,hk]
 rw [show ((ScopeKind.function == ScopeKind.function) && (some NameKind.local == some NameKind.local))=true by decide,Bool.true_and,h]
theorem qgo {x:Str}{p spos:Pos}{ρ ρ':List Slot}{ms:List (Addr×AO)}{K:Fl→AS→Prop}{E:Value→Shared→Prop}{rest:List Stmt}{elt target iter:Expr}{ifs:List Expr}{scope:Scope}{pos:Pos}{items:List D}{ds:List D} (ρc:List Slot) (f:D→Option D) (O:Ok C n) (src:Src C ⟨ρ,ms⟩ iter items)
 (hρ:qao ρ scope.names=ρc) (hcap:qc9 ρ scope.names=true) (hz:items.length≤1000000)
 (turn:∀ (CC:Cx) (i:Nat) (d:D),Ok CC n→CC.w.params=C.w.params→items[i]?=some d→∃ ρ2,Asg CC target d ρc ρ2∧Wk ρ2 ρc∧Item CC ⟨ρ2,[]⟩ elt ifs (f d))
 (hd:items.filterMap f=ds) (hP:Put x .local (.lst ds) ρ ρ') (hsw:(p.line == pos.line && !(scope.names.any fun y=>y.1 == x && (y.2 == .local || y.2 == .cell)))=true)
 (k:SL C ⟨ρ',ms⟩ rest K E) (nd:(scope.names.map (·.1)).Nodup:=by decide) (hifs:ifs=[]∨∃ c,ifs=[c]:=by walk_at "y") (hkind:scope.kind=.function:=by rfl) :
 SL C ⟨ρ,ms⟩ (.Assign [.Name x p] (.ListComp elt [⟨target,iter,ifs,0⟩] scope pos) spos::rest) K E:=by
 subst hρ
 refine SL.of_rel fun imm s R=>S_assignComp (σ:=⟨ρ,ms⟩) O src hifs nd hcap hkind hz f turn hd hP (swaps_yes O ?_ hsw) k
 refine Rel.elim R fun m os kc fs R=>?_
 obtain ⟨o,ho⟩:=hP.kind
 exact R.kn _ ho
theorem getElem?_map_inv {α:Type}{l:List α}{g:α→D}{i:Nat}{d:D} (h:(l.map g)[i]?=some d):∃ a,l[i]?=some a∧d=g a:=by
 rw [List.getElem?_map] at h
 cases hl:l[i]? with
 | none=>rw [hl] at h;cases h
 | some a=>rw [hl] at h;exact ⟨a,rfl,(Option.some.inj h).symm⟩
end
theorem fn_kinds {P:Params}:Fn P 341 1 [] (.lst ([0,1,9,5,3,8,6,11,2,4,7].map D.int)):=Fn_of rec_kinds rfl (by
 intro C hP hcap O
 conv=>enter [3];whnf
 with_reducible refine' S_return ?h_2 ?k
 case h_2=>walk_at "m.x"
 case k=>exact .inl rfl)
theorem fn_bits {P:Params}:Fn P 348 1 [] (.lst ([4,0,5,8,12,44,36,255].map D.int)):=Fn_of rec_bits rfl (by
 intro C hP hcap O
 conv=>enter [3];whnf
 with_reducible refine' S_return ?h_3 ?k
 case h_3=>walk_at "m.x"
 case k=>exact .inl rfl)
noncomputable def sBig (number size:Int):List Int:=(List.range size.toNat).map fun j:Nat=>number / 256 ^ (size - 1 - (j:Int)).toNat % 256
noncomputable def fBig (number size:Int):D→Option D
 | .int j=>some (.int (number / 256 ^ (size - 1 - j).toNat % 256))
 | _=>none
theorem qed {number size:Int}:∀ k∈sBig number size,0≤k∧k<256:=by
 intro k hk
 obtain ⟨j,_,rfl⟩:=mmj hk
 exact ⟨Int.emod_nonneg _ (by decide),Int.emod_lt_of_pos _ (by decide)⟩
theorem qas {number size:Int}:(sBig number size).length=size.toNat:=by simp [sBig]
theorem qef {m i:Nat}{a:Nat} (h:(List.range m)[i]?=some a):a<m:=by
 rw [List.getElem?_eq_some_iff] at h
 obtain ⟨h1,h2⟩:=h
 simp at h1 h2;lia
theorem pow256:∀ e:Nat,e≤7→0<(256:Int) ^ e∧((256:Int) ^ e).natAbs.log2<9000:=by decide
theorem fn_big {P:Params}{number size:Int} (h0:0≤size) (h1:size≤8):Fn P 353 3 [.int number,.int size] (.bytes (sBig number size)):=Fn_of rec_big rfl (by
 intro C hP hcap O
 subst hP
 rw [sl_big]
 conv=>enter [3];whnf
 with_reducible refine' S_return ?h_4 ?k
 case k=>exact .inl rfl
 case h_4 =>
  refine qbz O ?q1_5 (.cons ?q2_5 .nil fun V V=>rfl) qed (by rw [qas];lia)
  case q1_5=>walk_at "m.x"
  case q2_5 =>
   refine qf3 [⟨".0",.local,none⟩,⟨"j",.local,none⟩,⟨"number",.cell,some (.int number)⟩,⟨"size",.cell,some (.int size)⟩] (fBig number size) O
    (qf6 ?s1_6 ?s2_6 h0 (by lia) ?s3_6) (by kernel_rfl) (by kernel_rfl) (by simp;lia) (fun CC i d OC hP hd=>?_) ?_
   case s1_6=>walk_at "m.x"
   case s2_6=>walk_at "m.x"
   case s3_6=>walk_at "m.xs"
   ·obtain ⟨j,hj,rfl⟩:=getElem?_map_inv hd
    have hj:=qef hj
    refine' ⟨_,Asg_name OC ?p1_7,?p2_7,.plain ?p3_7⟩
    case p1_7=>walk_at "m.put"
    case p2_7=>repeat constructor
    case p3_7 =>
     refine X_bin (X_bin (d:=.int (number / 256 ^ (size - 1 - (j:Int)).toNat)) ?e1_8 (X_bin (d:=.int (256 ^ (size - 1 - (j:Int)).toNat)) ?e2_8 ?e3_8 (Op_pow (by lia) ?e4_8)) (Op_divL ?e5_8 ?e6_8)) ?e7_8 (Op_mod (by lia))
     case e1_8=>walk_at "m.x"
     case e2_8=>walk_at "m.x"
     case e3_8=>walk_at "m.x"
     case e7_8=>walk_at "m.x"
     case e4_8=>rw [show (Builtin.Int.intBits 256:Int)=9 by decide +kernel];lia
     case e5_8=>exact (pow256 _ (Int.toNat_le.mpr (Int.le_trans (Int.sub_le_self _ (Int.natCast_nonneg j)) (Int.sub_le_sub_right h1 1)))).1
     case e6_8=>exact (pow256 _ (Int.toNat_le.mpr (Int.le_trans (Int.sub_le_self _ (Int.natCast_nonneg j)) (Int.sub_le_sub_right h1 1)))).2
   ·unfold sBig
    rw [List.filterMap_map]
    simp [fBig,List.map_map,Function.comp_def])
theorem fn_small {P:Params}{ks:List Int}:Fn P 360 1 [.bytes ks] (.int (qa9 ks)):=Fn_of rec_small rfl (by
 intro C hP hcap O
 subst hP
 rw [sl_small]
 conv=>enter [3];whnf
 walk_at "m.assign"
 case k =>
  refine' S_for O (Src_bytes ?s_9 fun V=>rfl) (fun i σ=>∃ v,σ=⟨[⟨"octets",.local,some (.bytes ks)⟩,⟨"number",.local,some (.int ((ks.take i).foldl (fun n o=>n * 256+o) 0))⟩,⟨"octet",.local,v⟩],[]⟩) ⟨_,rfl⟩ ?turn_9 ?done_9
  case s_9=>walk_at "m.x"
  case turn_9 =>
   rintro i d σ1 C' hd ⟨v,rfl⟩ O' hP' hcap'
   obtain ⟨o,ho,rfl⟩:=getElem?_map_inv hd
   refine' ⟨_,Asg_name O' ?p1_10,?p2_10⟩
   case p1_10=>walk_at "m.put"
   case p2_10 =>
    walk_at "m.assign"
    case k =>
     refine qam ⟨some (.int o),?_⟩
     rw [List.take_add_one,ho,Option.toList_some,List.foldl_append]
     rfl
  case done_9 =>
   rintro σ1 ⟨v,rfl⟩
   rw [lem,List.take_length]
   walk_at "m.ret"
   case k=>exact .inl rfl)
noncomputable def sLaid (kind bits stream:Int) (body:List Int):List Int :=
 sBig body.length 3++[kind,bits]++sBig (stream+(if ((body.length:Int) % 2 == 1)=true then 2147483648 else 0)) 4++body
theorem fn_laid {P:Params}{kind bits stream:Int}{body:List Int} (h1:0≤kind∧kind<256) (h2:0≤bits∧bits<256) (hl:body.length≤1000):Fn P 372 5 [.int kind,.int bits,.int stream,.bytes body] (.bytes (sLaid kind bits stream body)):=Fn_of rec_laid rfl (by
 intro C hP hcap O
 subst hP
 rw [sl_laid]
 conv=>enter [3];whnf
 walk_at "m.assign"
 case k =>
  with_reducible refine' S_return ?h_1 ?k
  case k=>exact .inl rfl
  case h_1 =>
   refine' X_bin (X_bin (X_bin ?a_2 (qbz (ns:=[kind,bits]) (by assumption) ?b1_2 ?b2_2 ?b3_2 ?b4_2) (Op_addB ?c1_2)) ?d_2 (Op_addB ?c2_2)) ?e_2 (Op_addB ?c3_2)
   case a_2=>walk_at "m.x"
   case b1_2=>walk_at "m.x"
   case b2_2=>(show Xs _ _ _ [.lst [.int kind,.int bits]];walk_at "m.xs")
   case b3_2 =>
    intro k hk
    rcases mcj hk with e | hk
    ·rw [e];assumption
    ·rw [msj hk];assumption
   case b4_2=>simp
   case d_2=>walk_at "m.x"
   case e_2=>walk_at "m.x"
   all_goals simp [qas]
   all_goals lia)
structure Row where
 kind:Int
 stream:Int
 ends:Bool
 eh:Bool
 padded:Bool
 weighed:Bool
 data:List Int
 more:Int
noncomputable def Row.d (r:Row):D:=.lst [.int r.kind,.int r.stream,.bool r.ends,.bool r.eh,.bool r.padded,.bool r.weighed,.bytes r.data,.int r.more]
inductive Due where
 | fault (f:Str)
 | row (r:Row)
noncomputable def Due.d:Due→D
 | .fault f=>.tup [.str f,.lst []]
 | .row r=>.tup [.str "",r.d]
noncomputable def qbc (kind stream:Int):Bool:=([0,1,2,3,5,9].any (· == kind) && (stream == 0)) || ([4,6,7].any (· == kind) && (stream != 0))
noncomputable def qa3 (kind bits:Int):Bool:=[0,1,5].any (· == kind) && (bits / 8 % 2 == 1)
noncomputable def qa6 (kind bits:Int):Bool:=(kind == 1) && (bits / 32 % 2 == 1)
noncomputable def qah (p:Bool) (body:List Int):Except Str (List Int) :=
 if p=true then (if (body == [])=true then .error "missing" else if (decide ((body.length:Int)≤body.getD 0 0))=true then .error "protocol" else .ok (cut body (some 1) (some ((body.length:Int) - body.getD 0 0)))) else .ok body
noncomputable def qac (w:Bool) (kind more:Int) (data:List Int):Except Str (List Int×Int) :=
 if (w || (kind == 5))=true then
  (
   if (decide ((data.length:Int)<(if w=true then 5 else 4)))=true then .error "missing"
   else if (kind == 5)=true then
    (
     if ((qa9 (cut data none (some 4)) % 2147483648 == 0) || (qa9 (cut data none (some 4)) % 2147483648 % 2 == 1))=true then .error "protocol"
     else .ok (cut data (some (if w=true then 5 else 4)) none,qa9 (cut data none (some 4)) % 2147483648))
   else .ok (cut data (some (if w=true then 5 else 4)) none,more))
 else .ok (data,more)
noncomputable def qbu (kind:Int) (body data:List Int) (more:Int):Except Str (List Int×Int) :=
 if ((kind == 3) || (kind == 8))=true then
  (
   if ((body.length:Int) != 4)=true then .error "missing"
   else if ((kind == 8) && (qa9 body % (if (kind == 8)=true then 2147483648 else 4294967296) == 0))=true then .error "protocol"
   else .ok ([],qa9 body % (if (kind == 8)=true then 2147483648 else 4294967296)))
 else .ok (data,more)
noncomputable def sDue (kind bits stream:Int) (body:List Int) (bound:Int):Due :=
 if qbc kind stream=true then .fault "protocol" else
 if (decide (bound<(body.length:Int)))=true then .fault "large" else
 match qah (qa3 kind bits) body with
 | .error f=>.fault f
 | .ok data=>match qac (qa6 kind bits) kind (if (kind == 0)=true then (body.length:Int) else 0) data with
  | .error f=>.fault f
  | .ok (data,more)=>match qbu kind body data more with
   | .error f=>.fault f
   | .ok (data,more)=>.row ⟨kind,stream,[0,1].any (· == kind) && (bits % 2 == 1),[1,5,9].any (· == kind) && (bits / 4 % 2 == 1),qa3 kind bits,qa6 kind bits,data,more⟩
theorem qdw {p body data} (h:qah p body=.ok data):data.length≤body.length:=by
 unfold qah at h
 split at h
 ·split at h
  ·cases h
  ·split at h
   ·cases h
   ·cases h;exact qar _ _ _
 ·cases h;exact Nat.le_refl _
theorem qde {w kind more data r} (h:qac w kind more data=.ok r):r.1.length≤data.length:=by
 unfold qac at h
 generalize hs:(if w=true then (5:Int) else 4)=sz at h
 by_cases h1:(w || (kind == 5))=true
 ·rw [if_pos h1] at h
  by_cases h2:decide ((data.length:Int)<sz)=true
  ·rw [if_pos h2] at h;cases h
  ·rw [if_neg h2] at h
   by_cases h3:(kind == 5)=true
   ·rw [if_pos h3] at h
    by_cases h4:((qa9 (cut data none (some 4)) % 2147483648 == 0) || (qa9 (cut data none (some 4)) % 2147483648 % 2 == 1))=true
    ·rw [if_pos h4] at h;cases h
    ·rw [if_neg h4] at h;cases h;exact qar _ _ _
   ·rw [if_neg h3] at h;cases h;exact qar _ _ _
 ·rw [if_neg h1] at h;cases h;exact Nat.le_refl _
set_option maxHeartbeats 4000000 in
theorem fn_due {P:Params}{kind bits stream bound:Int}{body:List Int} (hl:body.length≤1000):Fn P 379 5 [.int kind,.int bits,.int stream,.bytes body,.int bound] (sDue kind bits stream body bound).d:=Fn_of rec_due rfl (by
 intro C hP hcap O
 subst hP
 rw [sl_due]
 conv=>enter [3];whnf
 walk_at "m.if"
 case yes =>
  intro hc
  walk_at "m.ret"
  case k=>refine .inl ?_;unfold sDue;rw [if_pos (show qbc kind stream=true from hc)];rfl
 case no =>
 intro hc1
 walk_at "m.if"
 case yes =>
  intro hc
  walk_at "m.ret"
  case k=>refine .inl ?_;unfold sDue;rw [if_neg (show ¬ qbc kind stream=true by rw [show qbc kind stream=false from hc1];exact bft),if_pos hc];rfl
 case no =>
 intro hc2
 walk_at "m.assign"
 case k =>
 walk_at "m.assign"
 case k =>
 walk_at "m.assign"
 case k =>
 walk_at "m.assign"
 case k =>
 have hD:sDue kind bits stream body bound=(match qah (qa3 kind bits) body with
  | .error f=>.fault f
  | .ok data=>match qac (qa6 kind bits) kind (if (kind == 0)=true then (body.length:Int) else 0) data with
   | .error f=>.fault f
   | .ok (data,more)=>match qbu kind body data more with
    | .error f=>.fault f
    | .ok (data,more)=>.row ⟨kind,stream,[0,1].any (· == kind) && (bits % 2 == 1),[1,5,9].any (· == kind) && (bits / 4 % 2 == 1),qa3 kind bits,qa6 kind bits,data,more⟩):=by
  unfold sDue
  rw [if_neg (show ¬ qbc kind stream=true by rw [show qbc kind stream=false from hc1];exact bft),if_neg (by rw [hc2];exact bft)]
 rw [hD]
 clear hD
 refine' qgn (J:=fun σ'=>∃ data,qah (qa3 kind bits) body=.ok data∧σ'=⟨[⟨"kind",.local,some (.int kind)⟩,⟨"bits",.local,some (.int bits)⟩,⟨"stream",.local,some (.int stream)⟩,⟨"body",.local,some (.bytes body)⟩,⟨"bound",.local,some (.int bound)⟩,
  ⟨"padded",.local,some (.bool (qa3 kind bits))⟩,⟨"weighed",.local,some (.bool (qa6 kind bits))⟩,⟨"data",.local,some (.bytes data)⟩,⟨"more",.local,some (.int (if (kind == 0)=true then (body.length:Int) else 0))⟩,⟨"size",.local,none⟩,⟨"ends",.local,none⟩,
  ⟨"len",.globalImplicit,none⟩,⟨"_law_small",.globalImplicit,none⟩],[]⟩) ?cut1_3 ?kc_3
 case cut1_3 =>
  walk_at "m.if"
  case yes =>
   intro hp
   walk_at "m.if"
   case yes =>
    intro hb
    walk_at "m.ret"
    case k=>refine .inl ?_;rw [show qah (qa3 kind bits) body=.error "missing" by unfold qah;rw [if_pos (show qa3 kind bits=true from hp),if_pos hb]];rfl
   case no =>
    intro hb
    have hne:body≠[]:=fun e=>by rw [e] at hb;exact absurd hb (by decide)
    have hpos:0<body.length:=List.length_pos_iff.mpr hne
    walk_at "m.if"
    case yes =>
     intro hg
     walk_at "m.ret"
     case k=>refine .inl ?_;rw [show qah (qa3 kind bits) body=.error "protocol" by unfold qah;rw [if_pos (show qa3 kind bits=true from hp),if_neg (by rw [hb];exact bft),if_pos (show (decide ((body.length:Int)≤body.getD 0 0))=true from hg)]];rfl
    case no =>
     intro hg
     walk_at "m.assign"
     case k =>
      refine qam ⟨cut body (some 1) (some ((body.length:Int) - body.getD 0 0)),?_,rfl⟩
      unfold qah
      rw [if_pos (show qa3 kind bits=true from hp),if_neg (by rw [hb];exact bft),if_neg (show ¬ (decide ((body.length:Int)≤body.getD 0 0))=true by rw [show decide ((body.length:Int)≤body.getD 0 0)=false from hg];exact bft)]
  case no =>
   intro hp
   refine qam ⟨body,?_,rfl⟩
   unfold qah
   rw [if_neg (by rw [show qa3 kind bits=false from hp];exact bft)]
 case kc_3 =>
 rintro _ ⟨data,hun,rfl⟩
 rw [hun]
 have hdl:data.length≤1000:=Nat.le_trans (qdw hun) hl
 clear hun hc1 hc2
 dsimp only
 refine' qgn (J:=fun σ'=>∃ data2 more2 size,qac (qa6 kind bits) kind (if (kind == 0)=true then (body.length:Int) else 0) data=.ok (data2,more2)∧σ'=⟨[⟨"kind",.local,some (.int kind)⟩,⟨"bits",.local,some (.int bits)⟩,⟨"stream",.local,some (.int stream)⟩,⟨"body",.local,some (.bytes body)⟩,⟨"bound",.local,some (.int bound)⟩,
  ⟨"padded",.local,some (.bool (qa3 kind bits))⟩,⟨"weighed",.local,some (.bool (qa6 kind bits))⟩,⟨"data",.local,some (.bytes data2)⟩,⟨"more",.local,some (.int more2)⟩,⟨"size",.local,size⟩,⟨"ends",.local,none⟩,
  ⟨"len",.globalImplicit,none⟩,⟨"_law_small",.globalImplicit,none⟩],[]⟩) ?cut2_8 ?kc_8
 case cut2_8 =>
  generalize (if (kind == 0)=true then (body.length:Int) else 0)=more
  generalize qa3 kind bits=p
  generalize hw:qa6 kind bits=wd
  walk_at "m.if"
  case yes =>
   intro hp
   walk_at "m.assign"
   case k =>
   walk_at "m.if"
   case yes =>
    intro hb
    walk_at "m.ret"
    case k=>refine .inl ?_;rw [show qac wd kind more data=.error "missing" by unfold qac;rw [if_pos hp,if_pos hb]];rfl
   case no =>
    intro hb
    walk_at "m.if"
    case yes =>
     intro h5
     walk_at "m.assign"
     case k =>
     walk_at "m.if"
     case yes =>
      intro h6
      walk_at "m.ret"
      case k=>refine .inl ?_;rw [show qac wd kind more data=.error "protocol" by unfold qac;rw [if_pos hp,if_neg (by rw [hb];exact bft),if_pos h5,if_pos h6]];rfl
     case no =>
      intro h6
      walk_at "m.assign"
      case k =>
       refine qam ⟨_,_,_,?_,rfl⟩
       unfold qac
       rw [if_pos hp,if_neg (by rw [hb];exact bft),if_pos h5,if_neg (by rw [h6];exact bft)]
    case no =>
     intro h5
     walk_at "m.assign"
     case k =>
      refine qam ⟨_,_,_,?_,rfl⟩
      unfold qac
      rw [if_pos hp,if_neg (by rw [hb];exact bft),if_neg (by rw [h5];exact bft)]
  case no =>
   intro hp
   refine qam ⟨_,_,_,?_,rfl⟩
   unfold qac
   rw [if_neg (by rw [hp];exact bft)]
 case kc_8 =>
 rintro _ ⟨data2,more2,size,hun,rfl⟩
 rw [hun]
 have hdl2:data2.length≤1000:=Nat.le_trans (qde hun) hdl
 clear hun
 dsimp only
 refine' qgn (J:=fun σ'=>∃ data3 more3,qbu kind body data2 more2=.ok (data3,more3)∧σ'=⟨[⟨"kind",.local,some (.int kind)⟩,⟨"bits",.local,some (.int bits)⟩,⟨"stream",.local,some (.int stream)⟩,⟨"body",.local,some (.bytes body)⟩,⟨"bound",.local,some (.int bound)⟩,
  ⟨"padded",.local,some (.bool (qa3 kind bits))⟩,⟨"weighed",.local,some (.bool (qa6 kind bits))⟩,⟨"data",.local,some (.bytes data3)⟩,⟨"more",.local,some (.int more3)⟩,⟨"size",.local,size⟩,⟨"ends",.local,none⟩,
  ⟨"len",.globalImplicit,none⟩,⟨"_law_small",.globalImplicit,none⟩],[]⟩) ?cut3_14 ?kc_14
 case cut3_14 =>
  generalize qa3 kind bits=p
  generalize qa6 kind bits=wd
  walk_at "m.if"
  case yes =>
   intro hp
   walk_at "m.if"
   case yes =>
    intro hb
    walk_at "m.ret"
    case k=>refine .inl ?_;rw [show qbu kind body data2 more2=.error "missing" by unfold qbu;rw [if_pos hp,if_pos hb]];rfl
   case no =>
    intro hb
    have h2:0<(if (kind == 8)=true then (2147483648:Int) else 4294967296):=by split <;> decide
    walk_at "m.assign"
    case k =>
    walk_at "m.if"
    case yes =>
     intro h6
     walk_at "m.ret"
     case k=>refine .inl ?_;rw [show qbu kind body data2 more2=.error "protocol" by unfold qbu;rw [if_pos hp,if_neg (by rw [hb];exact bft),if_pos h6]];rfl
    case no =>
     intro h6
     walk_at "m.assign"
     case k =>
      refine qam ⟨_,_,?_,rfl⟩
      unfold qbu
      rw [if_pos hp,if_neg (by rw [hb];exact bft),if_neg (by rw [h6];exact bft)]
  case no =>
   intro hp
   refine qam ⟨_,_,?_,rfl⟩
   unfold qbu
   rw [if_neg (by rw [hp];exact bft)]
 case kc_14 =>
 rintro _ ⟨data3,more3,hun,rfl⟩
 rw [hun]
 walk_at "m.assign"
 case k =>
 walk_at "m.ret"
 case k=>exact .inl rfl)
structure Raw where
 kind:Int
 bits:Int
 stream:Int
 body:List Int
noncomputable def Raw.d (r:Raw):D:=.tup [.int r.kind,.int r.bits,.int r.stream,.bytes r.body]
noncomputable def qex (drawn:Int):Int:=[0,1,9,5,3,8,6,11,2,4,7].getD (drawn % 11).toNat 0
noncomputable def dBits (drawn:Int):Int:=[4,0,5,8,12,44,36,255].getD (drawn / 11 % 8).toNat 0
noncomputable def qdj (drawn:Int):Int:=[1,3,0,2147483647].getD (drawn / 11 / 8 % 4).toNat 0
noncomputable def qal (drawn:Int):Int:=if ([4,6,7].any (· == qex drawn) && decide (qdj drawn<2))=true then 0 else qdj drawn
noncomputable def qew (drawn:Int):Int:=(drawn / 11 / 416+2) % 17
noncomputable def qc7 (drawn:Int):List Int:=(List.range ((drawn / 11 / 32+4) % 13).toNat).map fun j:Nat=>qew drawn * ((j:Int)+1) % 256
noncomputable def qbk (drawn:Int):List Int:=if (((qc7 drawn).length:Int) == 12 && qew drawn % 2 == 1)=true then (List.replicate 22 (qc7 drawn)).flatten else qc7 drawn
noncomputable def qcr (drawn:Int):List Int:=if ([5,8].any (· == qex drawn) && ((qal drawn == 3) && (qbk drawn != [])))=true then [(qbk drawn).getD 0 0 % 128+128]++cut (qbk drawn) (some 1) none else qbk drawn
noncomputable def dPlain (drawn:Int) (many:Bool):Bool:=(qex drawn != 1) || (!many || (drawn / 11 / 7072 % 4 != 3))
noncomputable def qcq (drawn:Int):List Raw:=(List.range (60+drawn / 11 / 28288 % 6).toNat).map fun j:Nat=>⟨9,0,qal drawn,[(j:Int)]⟩
noncomputable def qcj (drawn:Int) (many:Bool):List Raw:=if dPlain drawn many=true then [⟨qex drawn,dBits drawn,qal drawn,qcr drawn⟩] else [⟨1,0,qal drawn,qcr drawn⟩]++qcq drawn++[⟨9,4,qal drawn,qcr drawn⟩]
theorem qey {drawn:Int}:∀ k∈qc7 drawn,0≤k∧k<256:=by
 intro k hk
 obtain ⟨j,_,rfl⟩:=mmj hk
 lia
theorem qcg {drawn:Int}:(qc7 drawn).length≤12:=by
 unfold qc7
 rw [lem,List.length_range]
 exact t12 _
theorem dBody1_in {drawn:Int}:∀ k∈qbk drawn,0≤k∧k<256:=by
 intro k hk
 unfold qbk at hk
 split at hk
 ·obtain ⟨l,hl,hk⟩:=List.mem_flatten.mp hk
  rw [List.eq_of_mem_replicate hl] at hk
  exact qey k hk
 ·exact qey k hk
theorem qdk {drawn:Int}:(qbk drawn).length≤264:=by
 have:=@qcg drawn
 unfold qbk
 split
 ·rw [List.length_flatten,List.map_replicate,List.sum_replicate_nat];lia
 ·lia
theorem cut_in {ks:List Int}{l u:Option Int}{k:Int} (h:k∈cut ks l u):k∈ks:=List.mem_of_mem_drop (List.mem_of_mem_take h)
theorem qgd {drawn:Int}:∀ k∈qcr drawn,0≤k∧k<256:=by
 intro k hk
 unfold qcr at hk
 split at hk
 ·rcases maj hk with h | h
  ·simp at h;lia
  ·exact dBody1_in k (cut_in h)
 ·exact dBody1_in k hk
theorem qdx {drawn:Int}:(qcr drawn).length≤265:=by
 have:=@qdk drawn
 have:=qar (qbk drawn) (some 1) none
 unfold qcr
 split
 ·simp;lia
 ·lia
theorem qcf {l:List Int}{i:Nat} (h:i<l.length):(l.map D.int)[i]?=some (.int (l.getD i 0)):=by
 rw [List.getElem?_map,List.getD_eq_getElem?_getD,List.getElem?_eq_getElem h]
 rfl
noncomputable def fSeed (seed:Int):D→Option D
 | .int j=>some (.int (seed * (j+1) % 256))
 | _=>none
noncomputable def fPiece (stream:Int):D→Option D
 | .int j=>some (.tup [.int 9,.int 0,.int stream,.bytes [j]])
 | _=>none
theorem fn_drawn {P:Params}{drawn:Int}{many:Bool}:Fn P 365 5 [.int drawn,.bool many] (.lst ((qcj drawn many).map Raw.d)):=Fn_of rec_drawn rfl (by
 intro C hP hcap O
 subst hP
 rw [sl_drawn]
 conv=>enter [3];whnf
 walk_at "m.asg"
 case v =>
  refine qbh (d:=.int (qex drawn)) (ds:=[0,1,9,5,3,8,6,11,2,4,7].map D.int) ?a1_1 ?a2_1 (Int.emod_nonneg _ (by decide)) (qcf (by simp;lia)) (Int.lt_trans (Int.emod_lt_of_pos _ (by decide)) (by decide))
  case a1_1=>walk_at "m.x"
  case a2_1=>walk_at "m.x"
 case put=>walk_at "m.put"
 case k =>
 walk_at "m.assign"
 case k =>
 walk_at "m.asgC"
 case v =>
  refine qbh (d:=.int (qdj drawn)) (ds:=[1,3,0,2147483647].map D.int) ?a1_2 ?a2_2 (Int.emod_nonneg _ (by decide)) (qcf (by simp;lia)) (Int.lt_trans (Int.emod_lt_of_pos _ (by decide)) (by decide))
  case a1_2=>show X _ _ _ (.lst [.int 1,.int 3,.int 0,.int 2147483647]);walk_at "m.x"
  case a2_2=>walk_at "m.x"
 case put=>walk_at "m.put"
 case k =>
 refine' qgn (J:=fun σ'=>σ'=⟨[⟨"drawn",.local,some (.int drawn)⟩,⟨"many",.local,some (.bool many)⟩,⟨"kind",.local,some (.int (qex drawn))⟩,⟨"rest",.local,some (.int (drawn / 11))⟩,⟨"stream",.cell,some (.int (qal drawn))⟩,⟨"seed",.cell,none⟩,⟨"body",.local,none⟩,⟨"pieces",.local,none⟩,⟨"_law_kinds",.globalImplicit,none⟩,⟨"bytes",.globalImplicit,none⟩,⟨"range",.globalImplicit,none⟩,⟨"len",.globalImplicit,none⟩,⟨"_law_bits",.globalImplicit,none⟩],[]⟩) ?cut1_3 ?kc_3
 case cut1_3 =>
  walk_at "m.if"
  case yes =>
   intro hc
   walk_at "m.assign"
   case k=>exact qam (by unfold qal;rw [if_pos hc])
  case no =>
   intro hc
   exact qam (by unfold qal;rw [if_neg (by rw [hc];exact bft)])
 case kc_3 =>
 rintro _ rfl
 walk_at "m.assign"
 case k =>
 walk_at "m.asg"
 case v =>
  refine qbz (ns:=qc7 drawn) O ?q1_4 (.cons ?q2_4 .nil fun V V=>rfl) qey (by have:=@qcg drawn;lia)
  case q1_4=>walk_at "m.x"
  case q2_4 =>
   refine qf3 [⟨".0",.local,none⟩,⟨"j",.local,none⟩,⟨"seed",.cell,some (.int (qew drawn))⟩] (fSeed (qew drawn)) O
    (qf6 (k:=(drawn / 11 / 32+4) % 13) ?s1_5 ?s2_5 (by lia) (by lia) ?s3_5) (by kernel_rfl) (by kernel_rfl) (by simp;lia) (fun CC i d OC hP hd=>?_) ?_
   case s1_5=>walk_at "m.x"
   case s2_5=>walk_at "m.x"
   case s3_5=>walk_at "m.xs"
   ·obtain ⟨j,hj,rfl⟩:=getElem?_map_inv hd
    have hj:=qef hj
    refine' ⟨_,Asg_name OC ?p1_6,?p2_6,.plain ?p3_6⟩
    case p1_6=>walk_at "m.put"
    case p2_6=>repeat constructor
    case p3_6 =>
     have hseed:-(2 ^ 64)<qew drawn∧qew drawn<2 ^ 64:=emod64 (by decide) (by decide)
     have hj1:-(2 ^ 64)<(j:Int)+1∧(j:Int)+1<2 ^ 64:=⟨Int.lt_of_lt_of_le (by decide) (Int.natCast_nonneg (j+1)),Int.lt_of_le_of_lt (Int.ofNat_le.mpr (Nat.le_trans hj (t12 _))) (by decide)⟩
     walk_at "m.x"
   ·unfold qc7
    rw [List.filterMap_map]
    simp [fSeed,List.map_map,Function.comp_def]
 case put=>walk_at "m.put"
 case k =>
 have hB0:=@qcg drawn
 have hB1:=@qdk drawn
 have hB:=@qdx drawn
 refine' qgn (J:=fun σ'=>σ'=⟨[⟨"drawn",.local,some (.int drawn)⟩,⟨"many",.local,some (.bool many)⟩,⟨"kind",.local,some (.int (qex drawn))⟩,⟨"rest",.local,some (.int (drawn / 11))⟩,⟨"stream",.cell,some (.int (qal drawn))⟩,⟨"seed",.cell,some (.int (qew drawn))⟩,⟨"body",.local,some (.bytes (qbk drawn))⟩,⟨"pieces",.local,none⟩,⟨"_law_kinds",.globalImplicit,none⟩,⟨"bytes",.globalImplicit,none⟩,⟨"range",.globalImplicit,none⟩,⟨"len",.globalImplicit,none⟩,⟨"_law_bits",.globalImplicit,none⟩],[]⟩) ?cut2_7 ?kc_7
 case cut2_7 =>
  walk_at "m.if"
  case yes =>
   intro hc
   have hl:(qc7 drawn).length=12:=by
    rw [Bool.and_eq_true] at hc
    have:=hc.1
    simp at this;lia
   walk_at "m.asg"
   case v =>
    refine' X_bin ?x_8 ?y_8 (Op_mulB (ks:=qc7 drawn) (k:=22) (fun e=>by rw [e] at hl;simp at hl) (by decide) (by decide) (by rw [hl];decide))
    case x_8=>walk_at "m.x"
    case y_8=>walk_at "m.x"
   case put=>walk_at "m.put"
   case k=>exact qam (by unfold qbk;rw [if_pos (show (((qc7 drawn).length:Int) == 12 && qew drawn % 2 == 1)=true from hc)];rfl)
  case no =>
   intro hc
   exact qam (by unfold qbk;rw [if_neg (show ¬ (((qc7 drawn).length:Int) == 12 && qew drawn % 2 == 1)=true by rw [show (((qc7 drawn).length:Int) == 12 && qew drawn % 2 == 1)=false from hc];exact bft)];rfl)
 case kc_7 =>
 rintro _ rfl
 refine' qgn (J:=fun σ'=>σ'=⟨[⟨"drawn",.local,some (.int drawn)⟩,⟨"many",.local,some (.bool many)⟩,⟨"kind",.local,some (.int (qex drawn))⟩,⟨"rest",.local,some (.int (drawn / 11))⟩,⟨"stream",.cell,some (.int (qal drawn))⟩,⟨"seed",.cell,some (.int (qew drawn))⟩,⟨"body",.local,some (.bytes (qcr drawn))⟩,⟨"pieces",.local,none⟩,⟨"_law_kinds",.globalImplicit,none⟩,⟨"bytes",.globalImplicit,none⟩,⟨"range",.globalImplicit,none⟩,⟨"len",.globalImplicit,none⟩,⟨"_law_bits",.globalImplicit,none⟩],[]⟩) ?cut3_9 ?kc_9
 case cut3_9 =>
  walk_at "m.if"
  case yes =>
   intro hc
   have hpos:0<(qbk drawn).length:=by
    rw [Bool.and_eq_true,Bool.and_eq_true] at hc
    refine List.length_pos_iff.mpr fun e=>?_
    rw [e] at hc
    exact absurd hc.2.2 (by decide)
   have hcl:=qar (qbk drawn) (some 1) none
   walk_at "m.asg"
   case v =>
    refine' X_bin (qbz (ns:=[(qbk drawn).getD 0 0 % 128+128]) O ?b1_11 ?b2_11 ?b3_11 ?b4_11) ?y_11 (Op_addB ?z_11)
    case b1_11=>walk_at "m.x"
    case b2_11=>show Xs _ _ _ [.lst [.int ((qbk drawn).getD (0:Int).toNat 0 % 128+128)]];walk_at "m.xs"
    case b3_11=>intro k hk;simp at hk;lia
    case b4_11=>simp
    case y_11=>walk_at "m.x"
    case z_11=>simp;lia
   case put=>walk_at "m.put"
   case k=>exact qam (by unfold qcr;rw [if_pos hc])
  case no =>
   intro hc
   exact qam (by unfold qcr;rw [if_neg (by rw [hc];exact bft)])
 case kc_9 =>
 rintro _ rfl
 walk_at "m.if"
 case yes =>
  intro hc
  walk_at "m.retv"
  case v =>
   refine X_list (ds:=[Raw.d ⟨qex drawn,dBits drawn,qal drawn,qcr drawn⟩]) (.cons (X_tup (.cons ?a1_12 (.cons (qbh (d:=.int (dBits drawn)) (ds:=[4,0,5,8,12,44,36,255].map D.int) ?e1_12 ?e2_12 (Int.emod_nonneg _ (by decide)) (qcf (by simp;lia)) (Int.lt_trans (Int.emod_lt_of_pos _ (by decide)) (by decide))) (.cons ?a3_12 (.cons ?a4_12 .nil fun V V=>rfl) fun V V=>rfl) fun V V=>rfl) fun V V=>rfl) (by decide)) .nil fun V V=>rfl) (by decide)
   case a1_12=>walk_at "m.x"
   case a3_12=>walk_at "m.x"
   case a4_12=>walk_at "m.x"
   case e1_12=>walk_at "m.x"
   case e2_12=>walk_at "m.x"
  case k=>exact .inl (by unfold qcj;rw [if_pos (show dPlain drawn many=true from hc)];rfl)
 case no =>
 intro hc
 refine' qgo (ds:=(qcq drawn).map Raw.d) [⟨".0",.local,none⟩,⟨"j",.local,none⟩,⟨"bytes",.globalImplicit,none⟩,⟨"stream",.cell,some (.int (qal drawn))⟩] (fPiece (qal drawn)) O
  (qf6 (k:=60+drawn / 11 / 28288 % 6) ?s1_13 ?s2_13 (by lia) (by lia) ?s3_13) (by kernel_rfl) (by kernel_rfl) (by simp;lia) ?turn_13 ?hdd_13 ?pp_13 ?hsw_13 ?kk_13
 case s1_13=>walk_at "m.x"
 case s2_13=>walk_at "m.x"
 case s3_13=>walk_at "m.xs"
 case turn_13 =>
  intro CC i d OC hP hd
  obtain ⟨j,hj,rfl⟩:=getElem?_map_inv hd
  have hj:=qef hj
  refine' ⟨_,Asg_name OC ?p1_14,?p2_14,.plain ?p3_14⟩
  case p1_14=>walk_at "m.put"
  case p2_14=>repeat constructor
  case p3_14 =>
   refine X_tup (.cons ?a1_15 (.cons ?a2_15 (.cons ?a3_15 (.cons (qbz (ns:=[(j:Int)]) OC ?a4_15 ?a5_15 ?a6_15 ?a7_15) .nil fun V V=>rfl) fun V V=>rfl) fun V V=>rfl) fun V V=>rfl) (by decide)
   case a1_15=>walk_at "m.x"
   case a2_15=>walk_at "m.x"
   case a3_15=>walk_at "m.x"
   case a4_15=>walk_at "m.x"
   case a5_15=>show Xs _ _ _ [.lst [.int (j:Int)]];walk_at "m.xs"
   case a6_15=>intro k hk;simp at hk;lia
   case a7_15=>simp
 case hdd_13 =>
  unfold qcq
  rw [List.filterMap_map,List.map_map]
  simp [fPiece,Raw.d,Function.comp_def]
 case pp_13=>walk_at "m.put"
 case hsw_13=>kernel_rfl
 case kk_13 =>
 walk_at "m.retv"
 case v =>
  have hp:(qcq drawn).length≤65:=by unfold qcq;simp;lia
  refine X_bin (d1:=.lst ([Raw.d ⟨1,0,qal drawn,qcr drawn⟩]++(qcq drawn).map Raw.d)) (d2:=.lst [Raw.d ⟨9,4,qal drawn,qcr drawn⟩]) (d:=.lst (([Raw.d ⟨1,0,qal drawn,qcr drawn⟩]++(qcq drawn).map Raw.d)++[Raw.d ⟨9,4,qal drawn,qcr drawn⟩])) (X_bin ?z1_16 ?z2_16 (qdb ?z3_16)) ?z4_16 (qdb ?z5_16)
  case z1_16=>show X _ _ _ (.lst [.tup [.int 1,.int 0,.int (qal drawn),.bytes (qcr drawn)]]);walk_at "m.x"
  case z2_16=>walk_at "m.x"
  case z3_16=>simp;lia
  case z4_16=>show X _ _ _ (.lst [.tup [.int 9,.int 4,.int (qal drawn),.bytes (qcr drawn)]]);walk_at "m.x"
  case z5_16=>simp;lia
 case k=>exact .inl (by unfold qcj;rw [if_neg (show ¬ dPlain drawn many=true by rw [show dPlain drawn many=false from hc];exact bft)];simp))
structure Told where
 told:List (Int×Row)
 fault:Str
 begun:Int
 ended:Int
 inside:Bool
noncomputable def qb9 (p:Int×Row):D:=.tup [.int p.1,p.2.d]
noncomputable def Told.d (t:Told):D:=.tup [.lst (t.told.map qb9),.str t.fault,.int t.begun,.int t.ended,.bool t.inside]
noncomputable def qd9 (block:List Row):Row:={ (block.headD ⟨0,0,false,false,false,false,[],0⟩) with eh:=true,data:=(block.map Row.data).flatten }
noncomputable def qaf (bound:Int):List Raw→List (Int×Row)→List Row→Int→Told
 | [],told,block,place=>⟨told,"",place,place,!block.isEmpty⟩
 | r::rest,told,block,place=>match sDue r.kind r.bits r.stream r.body bound with
  | .fault f=>⟨told,f,place,place+(9+(r.body.length:Int)),false⟩
  | .row row =>
   if (!block.isEmpty && ((r.kind != 9) || ((r.stream != (block.headD row).stream) || ((block.length:Int) == 64))))=true then ⟨told,"protocol",place,place+(9+(r.body.length:Int)),false⟩
   else if (!block.isEmpty || ([1,5].any (· == r.kind) && !row.eh))=true then
    if (!row.eh)=true then qaf bound rest told (block++[row]) (place+(9+(r.body.length:Int)))
    else qaf bound rest (told++[(place+(9+(r.body.length:Int)),qd9 (block++[row]))]) [] (place+(9+(r.body.length:Int)))
   else qaf bound rest (told++[(place+(9+(r.body.length:Int)),row)]) block (place+(9+(r.body.length:Int)))
noncomputable def qec (rows:List Raw) (bound place:Int):Told:=qaf bound rows [] [] place
set_option tactic.hygienic true in
theorem sDue_fault {kind bits stream bound:Int}{body:List Int}{f:Str} (h:sDue kind bits stream body bound=.fault f):(f == ("":Str))=false:=by
 unfold sDue at h
 split at h
 ·cases h;decide
 split at h
 ·cases h;decide
 split at h
 ·rename_i e1
  unfold qah at e1
  cases h
  split at e1
  ·split at e1
   ·cases e1;decide
   ·split at e1
    ·cases e1;decide
    ·cases e1
  ·cases e1
 split at h
 ·rename_i data hd x f' e1
  cases h
  unfold qac at e1
  generalize (if qa6 kind bits=true then (5:Int) else 4)=sz at e1
  by_cases h1:(qa6 kind bits || (kind == 5))=true
  ·rw [if_pos h1] at e1
   by_cases h2:decide ((data.length:Int)<sz)=true
   ·rw [if_pos h2] at e1;cases e1;decide
   ·rw [if_neg h2] at e1
    by_cases h3:(kind == 5)=true
    ·rw [if_pos h3] at e1
     by_cases h4:((qa9 (cut data none (some 4)) % 2147483648 == 0) || (qa9 (cut data none (some 4)) % 2147483648 % 2 == 1))=true
     ·rw [if_pos h4] at e1;cases e1;decide
     ·rw [if_neg h4] at e1;cases e1
    ·rw [if_neg h3] at e1;cases e1
  ·rw [if_neg h1] at e1;cases e1
 split at h
 ·rename_i e1
  cases h
  unfold qbu at e1
  by_cases h1:((kind == 3) || (kind == 8))=true
  ·rw [if_pos h1] at e1
   by_cases h2:((body.length:Int) != 4)=true
   ·rw [if_pos h2] at e1;cases e1;decide
   ·rw [if_neg h2] at e1
    generalize ((kind == 8) && (qa9 body % (if (kind == 8)=true then 2147483648 else 4294967296) == 0))=b at e1
    cases b with
    | true=>rw [if_pos rfl] at e1;cases e1;decide
    | false=>rw [if_neg bft] at e1;cases e1
  ·rw [if_neg h1] at e1;cases e1
 ·cases h
set_option tactic.hygienic true in
theorem sDue_row {kind bits stream bound:Int}{body:List Int}{r:Row} (h:sDue kind bits stream body bound=.row r):r.data.length≤body.length∧r.kind=kind∧r.stream=stream:=by
 unfold sDue at h
 split at h
 ·cases h
 split at h
 ·cases h
 split at h
 ·cases h
 rename_i data e1
 have l1:=qdw e1
 split at h
 ·cases h
 rename_i data2 more2 e2
 have l2:=qde e2
 split at h
 ·cases h
 rename_i data3 more3 e3
 cases h
 refine ⟨?_,rfl,rfl⟩
 dsimp only at l2 ⊢
 unfold qbu at e3
 by_cases h1:((kind == 3) || (kind == 8))=true
 ·rw [if_pos h1] at e3
  by_cases h2:((body.length:Int) != 4)=true
  ·rw [if_pos h2] at e3;cases e3
  ·rw [if_neg h2] at e3
   generalize ((kind == 8) && (qa9 body % (if (kind == 8)=true then 2147483648 else 4294967296) == 0))=b at e3
   cases b with
   | true=>rw [if_pos rfl] at e3;cases e3
   | false=>rw [if_neg bft] at e3;cases e3;exact Nat.zero_le _
 ·rw [if_neg h1] at e3;cases e3;lia
theorem qce {m:Int}{r:Raw}{rest:List Raw}{told:List (Int×Row)}{block:List Row}{place:Int}{f:Str} (h:sDue r.kind r.bits r.stream r.body m=.fault f):qaf m (r::rest) told block place=⟨told,f,place,place+(9+(r.body.length:Int)),false⟩:=by
 show (match sDue r.kind r.bits r.stream r.body m with | .fault f=>_ | .row row=>_)=_
 rw [h]
theorem qer {m:Int}{r:Raw}{rest:List Raw}{told:List (Int×Row)}{block:List Row}{place:Int}{row:Row} (h:sDue r.kind r.bits r.stream r.body m=.row row):qaf m (r::rest) told block place =
 if (!block.isEmpty && ((r.kind != 9) || ((r.stream != (block.headD row).stream) || ((block.length:Int) == 64))))=true then ⟨told,"protocol",place,place+(9+(r.body.length:Int)),false⟩
 else if (!block.isEmpty || ([1,5].any (· == r.kind) && !row.eh))=true then
  if (!row.eh)=true then qaf m rest told (block++[row]) (place+(9+(r.body.length:Int)))
  else qaf m rest (told++[(place+(9+(r.body.length:Int)),qd9 (block++[row]))]) [] (place+(9+(r.body.length:Int)))
 else qaf m rest (told++[(place+(9+(r.body.length:Int)),row)]) block (place+(9+(r.body.length:Int))):=by
 show (match sDue r.kind r.bits r.stream r.body m with | .fault f=>_ | .row row=>_)=_
 rw [h]
noncomputable def rSlots (rows:List Raw) (bound place:Int) (a b:Addr) (v5 v6 v7 v8 v9 v10 v11 v12:Option D):List Slot:=[⟨"rows",.local,some (.lst (rows.map Raw.d))⟩,⟨"bound",.local,some (.int bound)⟩,⟨"place",.local,some (.int place)⟩,⟨"told",.local,some (.val (.ref a))⟩,⟨"block",.local,some (.val (.ref b))⟩,
 ⟨"kind",.local,v5⟩,⟨"bits",.local,v6⟩,⟨"stream",.local,v7⟩,⟨"body",.local,v8⟩,⟨"begun",.local,v9⟩,⟨"fault",.local,v10⟩,⟨"row",.local,v11⟩,⟨"first",.local,v12⟩,⟨"len",.globalImplicit,none⟩,⟨"_law_due",.globalImplicit,none⟩]
inductive RInv (rows:List Raw) (bound place:Int) (i:Nat) (σ:AS):Prop
 | mk (a b:Addr) (told:List (Int×Row)) (block:List Row) (pl:Int) (v5 v6 v7 v8 v9 v10 v11 v12:Option D):σ=⟨rSlots rows bound pl a b v5 v6 v7 v8 v9 v10 v11 v12,[(b,.lst (block.map Row.d)),(a,.lst (told.map qb9))]⟩→told.length≤i→block.length≤i→(∀ r∈block,r.data.length≤1000) →
  qec rows bound place=qaf bound (rows.drop i) told block pl→RInv rows bound place i σ
theorem fn_reads {P:Params}{rows:List Raw}{bound place:Int} (hn:rows.length≤1000) (hr:∀ r∈rows,r.body.length≤1000):Fn P 384 8 [.lst (rows.map Raw.d),.int bound,.int place] (qec rows bound place).d:=Fn_of rec_reads rfl (by
 intro C hP hcap O
 subst hP
 rw [sl_reads]
 conv=>enter [3];whnf
 walk_at "m.newList"
 case k =>
 intro a
 refine' ⟨_,?pt_1,?kt_1⟩
 case pt_1=>walk_at "m.put"
 case kt_1 =>
 walk_at "m.newList"
 case k =>
 intro b
 refine' ⟨_,?pb_2,?kb_2⟩
 case pb_2=>walk_at "m.put"
 case kb_2 =>
 refine' S_for O (qdl ?src_3 fun V=>rfl) (RInv rows bound place) ⟨a,b,[],[],place,none,none,none,none,none,none,none,none,rfl,Nat.le_refl _,Nat.le_refl _,(fun V h=>nomatch h),rfl⟩ ?turn_3 ?done_3
 case src_3=>walk_at "m.x"
 case done_3 =>
  rintro σ1 ⟨a,b,told,block,pl,v5,v6,v7,v8,v9,v10,v11,v12,rfl,ht,hb,hd,hgo⟩
  unfold rSlots
  rw [lem,List.drop_length] at hgo
  rw [lem] at ht hb
  rw [hgo]
  refine' qe3 (m1:=[(b,.lst (block.map Row.d))]) (m2:=[]) (x:="told") (a:=a) ?fp_4 ?fh_4 ?fk_4
  case fp_4=>walk_at "m.put"
  case fh_4=>walk_at "m.has"
  case fk_4 =>
   walk_at "m.retv"
   case v =>
    refine' X_tup (.cons ?t1_5 (.cons ?t2_5 (.cons ?t3_5 (.cons ?t4_5 (.cons (X_cmp (hm:=rfl) ?t5_5 (X_list .nil (by decide)) (Cmp_neO O (k:=0) (.head _) (b:=block.isEmpty) ?t6_5 (by decide))) .nil fun V V=>rfl) fun V V=>rfl) fun V V=>rfl) fun V V=>rfl) fun V V=>rfl) (by decide)
    case t1_5=>walk_at "m.x"
    case t2_5=>walk_at "m.x"
    case t3_5=>walk_at "m.x"
    case t4_5=>walk_at "m.x"
    case t5_5=>walk_at "m.x"
    case t6_5=>cases block with
     | nil=>exact .nil
     | cons=>exact .long
   case k=>exact .inl rfl
 case turn_3 =>
  rintro i d σ1 C' hd ⟨a,b,told,block,pl,v5,v6,v7,v8,v9,v10,v11,v12,rfl,ht,hb,hdd,hgo⟩ O' hP' hcap'
  obtain ⟨r,hri,rfl⟩:=getElem?_map_inv hd
  have hi:i<rows.length:=(List.getElem?_eq_some_iff.mp hri).1
  have hrl:=hr r (List.mem_of_getElem? hri)
  rw [List.drop_eq_getElem_cons hi,(List.getElem?_eq_some_iff.mp hri).2] at hgo
  unfold rSlots
  refine' ⟨_,qdu O' ?as_6,?body_6⟩
  case as_6=>walk_at "m.asgs"
  case body_6 =>
  dsimp only
  walk_at "m.assign"
  case k =>
  walk_at "m.assign"
  case k =>
  cases hdue:sDue r.kind r.bits r.stream r.body bound with
  | fault f =>
   have hgo:=hgo.trans (qce hdue)
   walk_at "m.assignT"
   case v =>
    refine' X_callF (d:=(Due.fault f).d) O' ?c1_7 ?c2_7 ?c3_7 (hdue ▸ fn_due hrl) (by decide)
    case c1_7=>(with_reducible refine' X_glob O' ?g1_8 ?g2_8);(case g1_8=>walk_at "m.has");(case g2_8=>rw [hP'];walk_at "m.glob")
    case c2_7=>kernel_rfl
    case c3_7=>walk_at "m.xs"
   case asn=>walk_at "m.asgs"
   case k =>
   have hf:=sDue_fault hdue
   refine' S_if (b:=(f == ("":Str)) && true) (T_bool (Ts.and (T_cmp (hm:=rfl) ?e1_9 ?e2_9 Cmp_eqS) fun h=>absurd h (by rw [hf];exact bft))) ?y1_9 ?n1_9
   case e1_9=>walk_at "m.x"
   case e2_9=>walk_at "m.x"
   case y1_9=>intro h;rw [hf] at h;cases h
   case n1_9 =>
   intro _
   dsimp only [lna]
   walk_at "m.if"
   case no=>intro h;rw [bne,hf] at h;cases h
   case yes =>
   intro _
   refine' qe3 (m1:=[(b,.lst (block.map Row.d))]) (m2:=[]) (x:="told") (a:=a) ?fp_10 ?fh_10 ?fk_10
   case fp_10=>walk_at "m.put"
   case fh_10=>walk_at "m.has"
   case fk_10 =>
    walk_at "m.ret"
    case k=>rw [hgo];exact .inl rfl
  | row row =>
   obtain ⟨hrow,hrk,hrs⟩:=sDue_row hdue
   walk_at "m.assignT"
   case v =>
    refine' X_callF (d:=(Due.row row).d) O' ?c1_11 ?c2_11 ?c3_11 (hdue ▸ fn_due hrl) (by decide)
    case c1_11=>(with_reducible refine' X_glob O' ?g1_12 ?g2_12);(case g1_12=>walk_at "m.has");(case g2_12=>rw [hP'];walk_at "m.glob")
    case c2_11=>kernel_rfl
    case c3_11=>walk_at "m.xs"
   case asn=>walk_at "m.asgs"
   case k =>
   have T1:∀ {e:Expr}{ρ:List Slot}{kk:Nat},X C' ⟨ρ,[(b,.lst (block.map Row.d)),(a,.lst (told.map qb9))]⟩ e (.val (.ref b))→∀ {lp pos},T C' ⟨ρ,[(b,.lst (block.map Row.d)),(a,.lst (told.map qb9))]⟩ (.Compare e [.NotEq] [.List [] lp] pos) (!block.isEmpty):=fun h=>T_cmp (hm:=rfl) h (X_list .nil (by decide)) (Cmp_neO O' (k:=0) (.head _) (by cases block with | nil=>exact .nil | cons=>exact .long) (by decide))
   refine' S_if (b:=(("":Str) == "") && (!block.isEmpty && ((r.kind != 9) || ((r.stream != (block.headD row).stream) || ((block.length:Int) == 64))))) (T_bool (Ts.and (T_cmp (hm:=rfl) ?e1_13 ?e2_13 Cmp_eqS) fun V=>Ts.and (T1 (kk:=0) ?e3_13) fun hne=>Ts_one (T_bool (Ts.or (T_cmp (hm:=rfl) ?e4_13 ?e5_13 Cmp_ne) fun V=>Ts.or (T_cmp (hm:=rfl) ?e6_13 ?e7_13 Cmp_ne) fun V=>Ts_one (T_cmp (hm:=rfl) ?e8_13 ?e9_13 Cmp_eq))))) ?y1_13 ?n1_13
   case e1_13=>walk_at "m.x"
   case e2_13=>walk_at "m.x"
   case e3_13=>walk_at "m.x"
   case e4_13=>walk_at "m.x"
   case e5_13=>walk_at "m.x"
   case e6_13=>walk_at "m.x"
   case e7_13 =>
    obtain ⟨F,R,rfl⟩:∃ F R,block=F::R:=by
     cases block with
     | nil=>cases hne
     | cons F R=>exact ⟨F,R,rfl⟩
    refine qbh (ds:=[.int F.kind,.int F.stream,.bool F.ends,.bool F.eh,.bool F.padded,.bool F.weighed,.bytes F.data,.int F.more]) (i:=1) (X_itemO (i:=0) (d:=F.d) (ds:=(F::R).map Row.d) ?h1_14 (.head _) ?h2_14 (by decide) rfl (by decide)) ?h3_14 (by decide) rfl (by decide)
    case h1_14=>walk_at "m.x"
    case h2_14=>walk_at "m.x"
    case h3_14=>walk_at "m.x"
   case e8_13 =>
    have hl:((block.map Row.d).length:Int)=(block.length:Int):=by rw [lem]
    rw [← hl]
    refine X_lenO ?h1_15 (.cons ?h2_15 .nil fun V V=>rfl) (.head _) (by rw [lem];lia)
    case h1_15=>(with_reducible refine' X_glob O' ?g1_16 ?g2_16);(case g1_16=>walk_at "m.has");(case g2_16=>walk_at "m.glob")
    case h2_15=>walk_at "m.x"
   case e9_13=>walk_at "m.x"
   case y1_13 =>
    intro hc
    rw [show (("":Str) == "")=true by decide,Bool.true_and] at hc
    have hgo:=hgo.trans ((qer hdue).trans (if_pos hc))
    dsimp only [lca,lna]
    walk_at "m.assign"
    case k =>
    walk_at "m.if"
    case no=>intro h;exact absurd h (by decide)
    case yes =>
    intro _
    refine' qe3 (m1:=[(b,.lst (block.map Row.d))]) (m2:=[]) (x:="told") (a:=a) ?fp_17 ?fh_17 ?fk_17
    case fp_17=>walk_at "m.put"
    case fh_17=>walk_at "m.has"
    case fk_17 =>
     walk_at "m.ret"
     case k=>rw [hgo];exact .inl rfl
   case n1_13 =>
   intro hc
   rw [show (("":Str) == "")=true by decide,Bool.true_and] at hc
   have h1:=hc
   clear hc
   dsimp only [lna]
   walk_at "m.if"
   case yes=>intro h;exact absurd h (by decide)
   case no =>
   intro _
   have heh:∀ {ρ:List Slot}{ms:List (Addr×AO)}{p p1 p2 kp:Pos}{k:Nat},Has "row" .local (some row.d) ρ→T C' ⟨ρ,ms⟩ (.UnaryOp .Not (.Subscript (.Name "row" p) (.Constant (.int 3) k kp) p1) p2) (!row.eh):=by
    intro ρ ms p p1 p2 kp k hh
    refine T_not (T_val (fun V V=>rfl) (qbh (d:=.bool row.eh) (ds:=[.int row.kind,.int row.stream,.bool row.ends,.bool row.eh,.bool row.padded,.bool row.weighed,.bytes row.data,.int row.more]) (i:=3) (X_name O' hh) X_int (by decide) rfl (by decide)) Tr_bool)
   refine' S_if (b:=!block.isEmpty || ([1,5].any (· == r.kind) && !row.eh)) (T_bool (Ts.or (T1 (kk:=0) ?e3_19) fun V=>Ts_one (T_bool (Ts.and ?e4_19 fun V=>Ts_one (heh ?e5_19))))) ?y1_19 ?n1_19
   case e3_19=>walk_at "m.x"
   case e4_19=>walk_at "m.t"
   case e5_19=>walk_at "m.has"
   case n1_19 =>
    intro hc
    have hgo:=hgo.trans ((qer hdue).trans ((ifF h1).trans (ifF hc)))
    dsimp only [lna]
    refine' qgp (m1:=[(b,.lst (block.map Row.d))]) (m2:=[]) (a:=a) (d:=qb9 (pl+(9+(r.body.length:Int)),row)) O' ?h1_20 (.cons (X_tup (.cons ?h2_20 (.cons ?h3_20 .nil fun V V=>rfl) fun V V=>rfl) (by decide)) .nil fun V V=>rfl) (by rw [lem];lia) ?h4_20
    case h1_20=>walk_at "m.x"
    case h2_20=>walk_at "m.x"
    case h3_20=>walk_at "m.x"
    case h4_20 =>
    have e1:∀ x,told.map qb9++[qb9 x]=(told++[x]).map qb9:=fun x=>by rw [lma];rfl
    rw [e1]
    exact qam ⟨a,b,told++[(pl+(9+(r.body.length:Int)),row)],block,pl+(9+(r.body.length:Int)),_,_,_,_,_,_,_,_,rfl,by simp;lia,by lia,hdd,hgo⟩
   case y1_19 =>
   intro hc
   have hgo:=hgo.trans ((qer hdue).trans ((ifF h1).trans (if_pos hc)))
   clear hc
   rw [lca,lca,lca,lca,lca,lna]
   refine' qgp (m1:=[]) (m2:=[(a,.lst (told.map qb9))]) (a:=b) (d:=row.d) O' ?h1_21 (.cons ?h2_21 .nil fun V V=>rfl) (by rw [lem];lia) ?h4_21
   case h1_21=>walk_at "m.x"
   case h2_21=>walk_at "m.x"
   case h4_21 =>
   have hnb:(block.map Row.d)++[row.d]=(block++[row]).map Row.d:=by rw [lma];rfl
   rw [hnb,lna]
   have hdd2:∀ z∈block++[row],z.data.length≤1000:=by
    intro z hz
    rcases maj hz with h | h
    ·exact hdd z h
    ·rw [msj h];lia
   have hbl:(block++[row]).length≤i+1:=by simp;lia
   have hbp:∃ F R,block++[row]=F::R:=by cases block with
    | nil=>exact ⟨_,_,rfl⟩
    | cons F R=>exact ⟨_,_,rfl⟩
   generalize block++[row]=blk at hgo hdd2 hbl hbp ⊢
   refine' S_if (b:=!row.eh) (heh ?e5_22) ?y2_22 ?n2_22
   case e5_22=>walk_at "m.has"
   case y2_22 =>
    intro hc
    have hgo:=hgo.trans (if_pos hc)
    dsimp only [lca,lna]
    refine S_continue ⟨a,b,told,blk,pl+(9+(r.body.length:Int)),_,_,_,_,_,_,_,_,rfl,by lia,hbl,hdd2,hgo⟩
   case n2_22 =>
   intro hc
   have hgo:=hgo.trans (ifF hc)
   clear hc
   dsimp only [lna]
   refine' qe3 (m1:=[]) (m2:=[(a,.lst (told.map qb9))]) (x:="block") (a:=b) ?fp_24 ?fh_24 ?fk_24
   case fp_24=>walk_at "m.put"
   case fh_24=>walk_at "m.has"
   case fk_24 =>
   dsimp only [lna]
   obtain ⟨F,R,rfl⟩:=hbp
   walk_at "m.asg"
   case v =>
    refine qbh (ds:=(F::R).map Row.d) (i:=0) (d:=F.d) ?h1_25 ?h2_25 (by decide) rfl (by decide)
    case h1_25=>walk_at "m.x"
    case h2_25=>walk_at "m.x"
   case put=>walk_at "m.put"
   case k =>
   walk_at "m.asg"
   case v =>
    have hjoin:((F::R).map Row.data).flatten.length≤16777216:=by
     have key:∀ l:List Row,(∀ z∈l,z.data.length≤1000)→(l.map Row.data).flatten.length≤1000 * l.length:=by
      intro l
      induction l with
      | nil=>intro _;simp
      | cons z l ih =>
       intro h
       have h1:=h z (.head _)
       have h2:=ih fun y hy=>h y (.tail _ hy)
       rw [lmc,List.flatten_cons,lea,List.length_cons]
       lia
     have:=key _ hdd2
     lia
    refine' X_bin (d1:=.lst [.int F.kind,.int F.stream,.bool F.ends,.bool true,.bool F.padded,.bool F.weighed]) (d2:=.lst [.bytes ((F::R).map Row.data).flatten,.int F.more]) (d:=(qd9 (F::R)).d)
     (X_bin (d1:=.lst [.int F.kind,.int F.stream,.bool F.ends,.bool true]) (d2:=.lst [.bool F.padded,.bool F.weighed]) (X_bin (d1:=.lst [.int F.kind,.int F.stream,.bool F.ends]) (d2:=.lst [.bool true]) ?z1_26 ?z2_26 (qdb (by simp))) ?z3_26 (qdb (by simp)))
     (X_list (.cons ?z4_26 (.cons (qbh (ds:=[.int F.kind,.int F.stream,.bool F.ends,.bool F.eh,.bool F.padded,.bool F.weighed,.bytes F.data,.int F.more]) (i:=7) ?z5_26 ?z6_26 (by decide) rfl (by decide)) .nil fun V V=>rfl) fun V V=>rfl) (by decide)) (qdb (by simp))
    case z1_26 =>
     refine X_cutL (ds:=[.int F.kind,.int F.stream,.bool F.ends,.bool F.eh,.bool F.padded,.bool F.weighed,.bytes F.data,.int F.more]) (l:=none) (u:=some 3) ?w1_27 ?w2_27 ?w3_27 (by simp) (fun V V=>rfl)
     case w1_27=>show X _ _ _ F.d;walk_at "m.x"
     case w2_27=>walk_at "m.pt"
     case w3_27=>walk_at "m.pt"
    case z2_26=>walk_at "m.x"
    case z3_26 =>
     refine X_cutL (ds:=[.int F.kind,.int F.stream,.bool F.ends,.bool F.eh,.bool F.padded,.bool F.weighed,.bytes F.data,.int F.more]) (l:=some 4) (u:=some 6) ?w1_28 ?w2_28 ?w3_28 (by simp) (fun V V=>rfl)
     case w1_28=>show X _ _ _ F.d;walk_at "m.x"
     case w2_28=>walk_at "m.pt"
     case w3_28=>walk_at "m.pt"
    case z5_26=>show X _ _ _ F.d;walk_at "m.x"
    case z6_26=>walk_at "m.x"
    case z4_26 =>
     refine X_join (kss:=(F::R).map Row.data) (.cons ?_ .nil fun V V=>rfl) hjoin
     refine qf3 (items:=(F::R).map Row.d) [⟨".0",.local,none⟩,⟨"piece",.local,none⟩] (fun d=>match d with | .lst ds=>ds[6]? | _=>none) O' (qdl ?s1_30 fun V=>rfl) (by kernel_rfl) (by kernel_rfl) (by rw [lem];lia) ?turn2_30 ?hdd_30
     case s1_30=>walk_at "m.x"
     case turn2_30 =>
      intro CC i2 d2 OC hP2 hd2
      obtain ⟨z,hz,rfl⟩:=getElem?_map_inv hd2
      refine' ⟨_,Asg_name OC ?p1_31,?p2_31,.plain (d:=.bytes z.data) ?p3_31⟩
      case p1_31=>walk_at "m.put"
      case p2_31=>repeat constructor
      case p3_31 =>
       refine qbh (ds:=[.int z.kind,.int z.stream,.bool z.ends,.bool z.eh,.bool z.padded,.bool z.weighed,.bytes z.data,.int z.more]) (i:=6) ?w1_32 ?w2_32 (by decide) rfl (by decide)
       case w1_32=>show X _ _ _ z.d;walk_at "m.x"
       case w2_32=>walk_at "m.x"
     case hdd_30 =>
      rw [List.filterMap_map,List.map_map]
      generalize F::R=l
      induction l with
      | nil=>rfl
      | cons z l ih=>rw [List.filterMap_cons,lmc,ih];rfl
   case put=>walk_at "m.put"
   case k =>
   walk_at "m.newList"
   case k =>
   intro b2
   refine' ⟨_,?pb_33,?kb_33⟩
   case pb_33=>walk_at "m.put"
   case kb_33 =>
   refine' qgp (m1:=[(b2,.lst [])]) (m2:=[]) (a:=a) (d:=qb9 (pl+(9+(r.body.length:Int)),qd9 (F::R))) O' ?h1_34 (.cons (X_tup (.cons ?h2_34 (.cons ?h3_34 .nil fun V V=>rfl) fun V V=>rfl) (by decide)) .nil fun V V=>rfl) (by rw [lem];lia) ?h4_34
   case h1_34=>walk_at "m.x"
   case h2_34=>walk_at "m.x"
   case h3_34=>walk_at "m.x"
   case h4_34 =>
   have e1:∀ x,told.map qb9++[qb9 x]=(told++[x]).map qb9:=fun x=>by rw [lma];rfl
   rw [e1]
   exact qam ⟨a,b2,told++[(pl+(9+(r.body.length:Int)),qd9 (F::R))],[],pl+(9+(r.body.length:Int)),_,_,_,_,_,_,_,_,rfl,by simp;lia,Nat.zero_le _,(fun V h=>nomatch h),hgo⟩)
noncomputable abbrev fFs (sid:Int) (sf:Addr):List (Str×D):=[("stream_id",.int sid),("flags",.val (.ref sf)),("pad_length",.int 0),("data",.bytes [])]
noncomputable def frSet (P:Params) (Cc:Addr):Bool:=setA P Cc "stream_id" && setA P Cc "flags" && setA P Cc "pad_length" && setA P Cc "data"
theorem fn_finit {P:Params}{Cc:Addr}{sid:Int}{n:Nat} (hs:frSet P Cc=true) (a dx:Addr):FnR P 55 (n+1) [.val (.ref a),.int sid] [(a,.inst Cc dx),(dx,.dict [])]
 (fun d M'=>d=.none∧∃ sf,M'=[(sf,.set []),(a,.inst Cc dx),(dx,.dict (fFs sid sf))]) (fun V V V=>False):=qc1 rec_finit.toD rfl (by
 intro C hP hcap O G
 subst hP
 rw [sl_finit]
 unfold frSet at hs
 simp only [Bool.and_eq_true] at hs
 obtain ⟨⟨⟨h1,h2⟩,h3⟩,h4⟩:=hs
 conv=>enter [3];whnf
 walk_at "r.set"
 case k =>
  refine' qdq (x:=a) (Cc:=Cc) (dx:=dx) (K:=fun d σ'=>∃ sf,d=.val (.ref sf)∧σ'=⟨[⟨"self",.local,some (.val (.ref a))⟩,⟨"stream_id",.local,some (.int sid)⟩,⟨"set",.globalImplicit,none⟩],[(sf,.set []),(a,.inst Cc dx),(dx,.dict [("stream_id",.int sid)])]⟩) O (XM.toR (XM_newSet ?hx_1 (fun sf=>⟨sf,rfl,rfl⟩))) h2 ?kk_1 rfl
  case hx_1=>walk_at "m.x"
  case kk_1 =>
   rintro d σ' ⟨sf,rfl,rfl⟩
   refine' ⟨_,_,_,?ho_2,?hm_2,?mp_2,?fp_2,?hl_2,?hk_2⟩
   case ho_2=>walk_at "m.x"
   case hm_2=>walk_at "m.mem"
   case mp_2=>walk_at "m.mput"
   case fp_2=>walk_at "m.fput"
   case hl_2=>simp
   case hk_2 =>
    walk_at "r.set"
    case k =>
     walk_at "r.set"
     case k=>exact qaw ⟨rfl,sf,rfl⟩)
noncomputable def qfj:List Int:=[80,82,73,32,42,32,72,84,84,80,47,50,46,48,13,10,13,10,83,77,13,10,13,10]
noncomputable abbrev fbFs (b l:Addr) (m:Int) (pre:List Int) (pl:Int):List (Str×D):=[("_data",.val (.ref b)),("max_frame_size",.int m),("_preamble",.bytes pre),("_preamble_len",.int pl),("_headers_buffer",.val (.ref l))]
theorem fn_fb {P:Params}{srv:Bool}{n:Nat} (a dx:Addr):FnR P 292 (n+1) [.val (.ref a),.bool srv] [(a,.inst 330 dx),(dx,.dict [])]
 (fun d M'=>d=.none∧∃ b l,M'=[(l,.lst []),(b,.ba []),(a,.inst 330 dx),(dx,.dict (fbFs b l 0 (if srv=true then qfj else []) (if srv=true then 24 else 0)))]) (fun V V V=>False):=qc1 rec_fb rfl (by
 intro C hP hcap O G
 subst hP
 rw [sl_fb]
 conv=>enter [3];whnf
 have hp:(if srv=true then qfj else ([]:List Int)).length≤24:=by cases srv <;> decide
 refine' qdq (x:=a) (Cc:=330) (dx:=dx) (K:=fun d σ'=>∃ b,d=.val (.ref b)∧σ'=⟨[⟨"self",.local,some (.val (.ref a))⟩,⟨"server",.local,some (.bool srv)⟩,⟨"bytearray",.globalImplicit,none⟩,⟨"len",.globalImplicit,none⟩],[(b,.ba []),(a,.inst 330 dx),(dx,.dict [])]⟩) O (XC.toR (XC_newBa G.gd ?hx_1 (fun b=>⟨b,rfl,rfl⟩))) qdd ?kk_1 rfl
 case hx_1=>walk_at "m.x"
 case kk_1 =>
  rintro d σ' ⟨b,rfl,rfl⟩
  refine' ⟨_,_,_,?sb,?sc,?sd,?se,?sf,?k⟩
  walk_at "r.ms"
  case k =>
   walk_at "r.set"
   case k =>
    with_reducible refine' SR_set O (X_iteB (c:=srv) ?t_3 (fun V=>qf4 (ks:=qfj) (by kernel_rfl)) (fun V=>qf4 (ks:=[]) rfl)) ?sb ?sc ?sd ?se ?sf ?sg ?k ?hn
    case t_3=>walk_at "m.t"
    walk_at "r.rest"
    case k =>
     walk_at "r.set"
     case k =>
      refine' qdq (x:=a) (Cc:=330) (dx:=dx) (K:=fun d σ'=>∃ l,d=.val (.ref l)∧σ'=⟨[⟨"self",.local,some (.val (.ref a))⟩,⟨"server",.local,some (.bool srv)⟩,⟨"bytearray",.globalImplicit,none⟩,⟨"len",.globalImplicit,none⟩],
       [(l,.lst []),(b,.ba []),(a,.inst 330 dx),(dx,.dict [("_data",.val (.ref b)),("max_frame_size",.int 0),("_preamble",.bytes (if srv=true then qfj else [])),("_preamble_len",.int (if srv=true then qfj else []).length)])]⟩) O (XM.toR qfs) FB_set_hb ?kk2_4 rfl
      case kk2_4 =>
       rintro d σ' ⟨l,rfl,rfl⟩
       refine' ⟨_,_,_,?sb,?sc,?sd,?se,?sf,?k⟩
       walk_at "r.ms"
       case k =>
        refine qaw ⟨rfl,b,l,?_⟩
        cases srv <;> rfl)
noncomputable abbrev fF (sid:Int) (sf:Addr) (pad:Int) (data:List Int):List (Str×D):=[("stream_id",.int sid),("flags",.val (.ref sf)),("pad_length",.int pad),("data",.bytes data)]
noncomputable abbrev frM (f dx sf Cc:Addr) (fs:List (Str×D)) (S:List Str):List (Addr×AO):=[(sf,.set S),(f,.inst Cc dx),(dx,.dict fs)]
noncomputable def qb6 (p:Bool) (data:List Int):Int:=if p=true then data.getD 0 0 else 0
def exOf (f:Str) (cls:Value):Prop:=(f="missing"∧cls=.ref 24)∨(f="protocol"∧cls=.ref 37)
noncomputable def frOwn (P:Params) (Cc:Addr):Bool:=ownA P Cc "stream_id" && ownA P Cc "flags" && ownA P Cc "pad_length" && ownA P Cc "data"
theorem fn_unp {P:Params}{Cc:Addr}{sid:Int}{S:List Str}{data:List Int}{n:Nat}{f dx sf:Addr} (hs:frSet P Cc=true) (ho:frOwn P Cc=true) (hS:S.length<100) (hl:data.length≤1000000) :
 FnR P 79 (n+1) [.val (.ref f),.bytes data] (frM f dx sf Cc (fF sid sf 0 []) S)
  (fun d M'=>∃ ks,qah (S.contains "PADDED") data=.ok ks∧d=.bytes ks∧M'=frM f dx sf Cc (fF sid sf (qb6 (S.contains "PADDED") data) []) S)
  (fun cls c2 M'=>c2=.none∧∃ e,qah (S.contains "PADDED") data=.error e∧exOf e cls):=qc1 rec_unp.toD rfl (by
 intro C hP hcap O G
 subst hP
 rw [sl_unp]
 unfold frSet at hs
 unfold frOwn at ho
 simp only [Bool.and_eq_true] at hs ho
 obtain ⟨⟨⟨h1,h2⟩,h3⟩,h4⟩:=hs
 obtain ⟨⟨⟨o1,o2⟩,o3⟩,o4⟩:=ho
 conv=>enter [3];whnf
 walk_at "r.if"
 case yes =>
  intro hc
  have hp:S.contains "PADDED"=false:=by simpa using hc
  walk_at "r.ret"
  case k=>exact ⟨data,by rw [hp];rfl,rfl,by rw [hp];rfl⟩
 case no =>
  intro hc
  have hp:S.contains "PADDED"=true:=by simpa using hc
  walk_at "r.if"
  case yes =>
   intro hz
   walk_at "r.raise"
   case k=>exact ⟨rfl,"missing",by rw [hp];unfold qah;rw [if_pos rfl,if_pos (by simp at hz;simp [hz])],.inl ⟨rfl,rfl⟩⟩
  case no =>
   intro hz
   have hne:data.length≠0:=by simpa using hz
   have hd:(data == [])=false:=by cases data <;> simp at hne ⊢
   walk_at "r.set"
   case k =>
    walk_at "r.if"
    case yes =>
     intro hq
     walk_at "r.raise"
     case k=>exact ⟨rfl,"protocol",by rw [hp];unfold qah;rw [if_pos rfl,if_neg (by rw [hd];decide),if_pos (by simpa using hq)],.inr ⟨rfl,rfl⟩⟩
    case no =>
     intro hq
     walk_at "r.ret"
     case k=>exact ⟨_,by rw [hp];unfold qah;rw [if_pos rfl,if_neg (by rw [hd];decide),if_neg (by simpa using hq)];rfl,rfl,by rw [hp];rfl⟩)
theorem and31 {x:Int} (h:0≤x):Builtin.bitAnd x 2147483647=x % 2147483648:=by
 rw [PyProof.Rows.bitAnd_pp h (by decide)]
 obtain ⟨n,rfl⟩:=Int.eq_ofNat_of_zero_le h
 have:(2147483647:Int).toNat=2 ^ 31 - 1:=by decide
 rw [this,Int.toNat_natCast,Nat.and_two_pow_sub_one_eq_mod]
 have:(2:Nat) ^ 31=2147483648:=by decide
 rw [this]
 lia
theorem qbl {ks:List Int} (h:∀ k∈ks,0≤k∧k<256):0≤qa9 ks:=by
 unfold qa9
 have:∀ (l:List Int) (a:Int),0≤a→(∀ k∈l,0≤k∧k<256)→0≤l.foldl (fun n o=>n * 256+o) a:=by
  intro l
  induction l with
  | nil=>intro a ha _;exact ha
  | cons x l ih =>
   intro a ha hl
   rw [List.foldl_cons]
   exact ih _ (by have:=hl x (.head _);lia) fun k hk=>hl k (.tail _ hk)
 exact this ks 0 (by decide) h
noncomputable abbrev fX (sid:Int) (sf:Addr) (pad:Int) (data:List Int) (x:Str) (d:D):List (Str×D):=[("stream_id",.int sid),("flags",.val (.ref sf)),("pad_length",.int pad),("data",.bytes data),(x,d)]
section
variable {P:Params}{sid:Int}{S:List Str}{data:List Int}{n:Nat}{f dx sf:Addr}
theorem fn_pb {kd:Int}:FnR P 72 (n+1) [.val (.ref f),.bytes data] (frM f dx sf 82 (fX sid sf 0 [] "kind" (.int kd)) S)
 (fun d M'=>d=.none∧M'=frM f dx sf 82 (fX sid sf 0 data "kind" (.int kd)) S) (fun V V V=>False):=qc1 rec_pb.toD rfl (by
 intro C hP hcap O G
 subst hP
 rw [sl_pb]
 conv=>enter [3];whnf
 walk_at "r.set"
 case k=>exact qaw ⟨rfl,rfl⟩)
theorem fn_dpb (hS:S.length<100) (hl:data.length≤1000000):FnR P 103 (n+2) [.val (.ref f),.bytes data] (frM f dx sf 114 (fF sid sf 0 []) S)
 (fun d M'=>d=.none∧∃ ks,qah (S.contains "PADDED") data=.ok ks∧M'=frM f dx sf 114 (fF sid sf (qb6 (S.contains "PADDED") data) ks) S)
 (fun cls c2 M'=>c2=.none∧∃ e,qah (S.contains "PADDED") data=.error e∧exOf e cls):=qc1 rec_dpb.toD rfl (by
 intro C hP hcap O G
 subst hP
 rw [sl_dpb]
 conv=>enter [3];whnf
 refine' qdq (x:=f) (Cc:=114) (dx:=dx) (K:=fun d σ'=>∃ ks,qah (S.contains "PADDED") data=.ok ks∧d=.bytes ks∧σ'=⟨[⟨"self",.local,some (.val (.ref f))⟩,⟨"data",.local,some (.bytes data)⟩],frM f dx sf 114 (fF sid sf (qb6 (S.contains "PADDED") data) []) S⟩) O
  (qcu (M2:=[]) O G ?o_1 ?m1_1 ?m2_1 ?m3_1 ?m4_1 ?as_1 (.refl _) (fn_unp (sid:=sid) (S:=S) (Cc:=114) (by kernel_rfl) (by kernel_rfl) hS hl) ?q_1 ?r_1 rfl rfl (by simp)) (by kernel_rfl) ?kk_1 rfl
 case o_1=>walk_at "m.x"
 case m1_1=>walk_at "m.mem"
 case m2_1=>walk_at "m.mem"
 case m3_1=>kernel_rfl
 case m4_1=>kernel_rfl
 case as_1=>walk_at "m.xs"
 case q_1 =>
  rintro d M' ⟨ks,h1,h2,rfl⟩
  exact ⟨ks,h1,h2,rfl⟩
 case r_1 =>
  rintro cls c2 M' h
  exact h
 case kk_1 =>
  rintro d σ' ⟨ks,h1,rfl,rfl⟩
  refine' ⟨_,_,_,?sb,?sc,?sd,?se,?sf,?k⟩
  walk_at "r.ms"
  case k=>exact qaw ⟨rfl,ks,h1,rfl⟩)
theorem fn_rpb (hl:data.length≤1000000):FnR P 154 (n+1) [.val (.ref f),.bytes data] (frM f dx sf 157 (fF sid sf 0 []) S)
 (fun d M'=>d=.none∧data.length=4∧M'=frM f dx sf 157 (fX sid sf 0 [] "error_code" (.int (qa9 data))) S)
 (fun cls c2 M'=>c2=.none∧data.length≠4∧cls=.ref 24):=qc1 rec_rpb.toD rfl (by
 intro C hP hcap O G
 subst hP
 rw [sl_rpb]
 conv=>enter [3];whnf
 walk_at "r.if"
 case yes =>
  intro hc
  walk_at "r.raise"
  case k=>exact ⟨rfl,by simp at hc;lia,rfl⟩
 case no =>
  intro hc
  have h4:data.length=4:=by simp at hc;lia
  walk_at "r.set"
  case k=>exact qaw ⟨by trivial,h4,rfl⟩)
theorem fn_wpb (hl:data.length≤1000000) (hd:∀ k∈data,0≤k∧k<256):FnR P 195 (n+1) [.val (.ref f),.bytes data] (frM f dx sf 198 (fF sid sf 0 []) S)
 (fun d M'=>d=.none∧data.length=4∧qa9 data % 2147483648≠0∧M'=frM f dx sf 198 (fX sid sf 0 [] "window_increment" (.int (qa9 data % 2147483648))) S)
 (fun cls c2 M'=>c2=.none∧((data.length≠4∧cls=.ref 24)∨(data.length=4∧qa9 data % 2147483648=0∧cls=.ref 37))):=qc1 rec_wpb.toD rfl (by
 intro C hP hcap O G
 subst hP
 rw [sl_wpb]
 have ha:Builtin.bitAnd (qa9 data) 2147483647=qa9 data % 2147483648:=and31 (qbl hd)
 conv=>enter [3];whnf
 walk_at "r.if"
 case yes =>
  intro hc
  walk_at "r.raise"
  case k=>exact ⟨rfl,.inl ⟨by simp at hc;lia,rfl⟩⟩
 case no =>
  intro hc
  have h4:data.length=4:=by simp at hc;lia
  walk_at "r.set"
  case k =>
   rw [ha]
   walk_at "r.if"
   case yes =>
    intro hz
    walk_at "r.raise"
    case k=>exact ⟨rfl,.inr ⟨h4,by simpa using hz,rfl⟩⟩
   case no =>
    intro hz
    exact qaw ⟨by trivial,h4,by simpa using hz,rfl⟩)
end
section
variable {P:Params}{sid:Int}{S:List Str}{data:List Int}{n:Nat}{f dx sf:Addr}
theorem qc4 {p:Bool}{data ks:List Int} (h:qah p data=.ok ks):ks.length≤data.length∧∀ k∈ks,k∈data:=by
 unfold qah at h
 split at h
 ·split at h
  ·cases h
  ·split at h
   ·cases h
   ·cases h;exact ⟨qar _ _ _,fun k hk=>cut_in hk⟩
 ·cases h;exact ⟨Nat.le_refl _,fun k hk=>hk⟩
theorem qfx {ks:List Int}:qac true 1 0 ks=if (decide ((ks.length:Int)<5))=true then .error "missing" else .ok (cut ks (some 5) none,0):=rfl
theorem fn_hpb (hS:S.length<100) (hl:data.length≤1000000):FnR P 135 (n+2) [.val (.ref f),.bytes data] (frM f dx sf 138 (fF sid sf 0 []) S)
 (fun d M'=>d=.none∧∃ ks kt,qah (S.contains "PADDED") data=.ok ks∧qac (S.contains "PRIORITY") 1 0 ks=.ok (kt,0)∧M'=frM f dx sf 138 (fF sid sf (qb6 (S.contains "PADDED") data) kt) S)
 (fun cls c2 M'=>c2=.none∧((∃ e,qah (S.contains "PADDED") data=.error e∧exOf e cls)∨(∃ ks e,qah (S.contains "PADDED") data=.ok ks∧qac (S.contains "PRIORITY") 1 0 ks=.error e∧exOf e cls))):=qc1 rec_hpb.toD rfl (by
 intro C hP hcap O G
 subst hP
 rw [sl_hpb]
 have ow:ownA C.w.params 138 "flags"=true:=by kernel_rfl
 have st:setA C.w.params 138 "data"=true:=by kernel_rfl
 conv=>enter [3];whnf
 refine' qbo (K:=fun d σ'=>∃ ks,qah (S.contains "PADDED") data=.ok ks∧d=.bytes ks∧σ'=⟨[⟨"self",.local,some (.val (.ref f))⟩,⟨"data",.local,some (.bytes data)⟩,⟨"len",.globalImplicit,none⟩,⟨"InvalidFrameError",.globalImplicit,none⟩],frM f dx sf 138 (fF sid sf (qb6 (S.contains "PADDED") data) []) S⟩) O
  (qcu (M2:=[]) O G ?o_1 ?m1_1 ?m2_1 ?m3_1 ?m4_1 ?as_1 (.refl _) (fn_unp (sid:=sid) (S:=S) (Cc:=138) (by kernel_rfl) (by kernel_rfl) hS hl) ?q_1 ?r_1 rfl rfl (by simp)) ?kk_1 rfl
 case o_1=>walk_at "m.x"
 case m1_1=>walk_at "m.mem"
 case m2_1=>walk_at "m.mem"
 case m3_1=>kernel_rfl
 case m4_1=>kernel_rfl
 case as_1=>walk_at "m.xs"
 case q_1 =>
  rintro d M' ⟨ks,h1,h2,rfl⟩
  exact ⟨ks,h1,h2,rfl⟩
 case r_1 =>
  rintro cls c2 M' ⟨h1,h2⟩
  exact ⟨h1,.inl h2⟩
 case kk_1 =>
  rintro d σ' ⟨ks,h1,rfl,rfl⟩
  have hk:=(qc4 h1).1
  refine' ⟨_,?put,?k⟩
  case put=>walk_at "m.put"
  case k =>
   walk_at "r.if"
   case yes =>
    intro hw
    walk_at "r.if"
    case yes =>
     intro hz
     walk_at "r.raise"
     case k=>exact ⟨rfl,.inr ⟨ks,"missing",h1,by rw [hw,qfx,if_pos hz],.inl ⟨rfl,rfl⟩⟩⟩
    case no =>
     intro hz
     walk_at "r.assign"
     case k =>
      walk_at "r.set"
      case k=>exact qaw ⟨by trivial,ks,cut ks (some 5) none,h1,by rw [hw,qfx,if_neg (by rw [hz];decide)],rfl⟩
   case no =>
    intro hw
    walk_at "r.set"
    case k=>exact qaw ⟨by trivial,ks,ks,h1,by unfold qac;rw [hw,if_neg (by decide)],rfl⟩)
theorem fn_ppb (hS:S.length<100) (hl:data.length≤1000000) (hd:∀ k∈data,0≤k∧k<256):FnR P 176 (n+2) [.val (.ref f),.bytes data] (frM f dx sf 179 (fF sid sf 0 []) S)
 (fun d M'=>d=.none∧∃ ks kt v,qah (S.contains "PADDED") data=.ok ks∧qac false 5 0 ks=.ok (kt,v)∧M'=frM f dx sf 179 (fX sid sf (qb6 (S.contains "PADDED") data) kt "promised_stream_id" (.int v)) S)
 (fun cls c2 M'=>c2=.none∧((∃ e,qah (S.contains "PADDED") data=.error e∧exOf e cls)∨(∃ ks e,qah (S.contains "PADDED") data=.ok ks∧qac false 5 0 ks=.error e∧exOf e cls))):=qc1 rec_ppb.toD rfl (by
 intro C hP hcap O G
 subst hP
 rw [sl_ppb]
 have ow:ownA C.w.params 179 "promised_stream_id"=true:=by kernel_rfl
 have st:setA C.w.params 179 "data"=true:=by kernel_rfl
 conv=>enter [3];whnf
 refine' qbo (K:=fun d σ'=>∃ ks,qah (S.contains "PADDED") data=.ok ks∧d=.bytes ks∧σ'=⟨[⟨"self",.local,some (.val (.ref f))⟩,⟨"data",.local,some (.bytes data)⟩,⟨"len",.globalImplicit,none⟩,⟨"InvalidFrameError",.globalImplicit,none⟩,⟨"int",.globalImplicit,none⟩,⟨"InvalidDataError",.globalImplicit,none⟩],frM f dx sf 179 (fF sid sf (qb6 (S.contains "PADDED") data) []) S⟩) O
  (qcu (M2:=[]) O G ?o_3 ?m1_3 ?m2_3 ?m3_3 ?m4_3 ?as_3 (.refl _) (fn_unp (sid:=sid) (S:=S) (Cc:=179) (by kernel_rfl) (by kernel_rfl) hS hl) ?q_3 ?r_3 rfl rfl (by simp)) ?kk_3 rfl
 case o_3=>walk_at "m.x"
 case m1_3=>walk_at "m.mem"
 case m2_3=>walk_at "m.mem"
 case m3_3=>kernel_rfl
 case m4_3=>kernel_rfl
 case as_3=>walk_at "m.xs"
 case q_3 =>
  rintro d M' ⟨ks,h1,h2,rfl⟩
  exact ⟨ks,h1,h2,rfl⟩
 case r_3 =>
  rintro cls c2 M' ⟨h1,h2⟩
  exact ⟨h1,.inl h2⟩
 case kk_3 =>
  rintro d σ' ⟨ks,h1,rfl,rfl⟩
  have hk:=(qc4 h1).1
  have hb:∀ k∈cut ks none (some 4),0≤k∧k<256:=fun k h=>hd k ((qc4 h1).2 k (cut_in h))
  have hc4:(cut ks none (some 4)).length≤8:=by
   have:(cut ks none (some 4)).length≤4:=by
    unfold cut
    rw [List.length_take]
    have:clipAt ks.length 4≤4:=by unfold clipAt;rw [if_neg (by decide)];exact Nat.le_trans (Nat.le_of_eq (clX ks.length 4)) (Nat.min_le_left _ _)
    simp only [Option.elim]
    lia
   lia
  have hv:=and31 (qbl hb)
  refine' ⟨_,?put,?k⟩
  case put=>walk_at "m.put"
  case k =>
   walk_at "r.if"
   case yes =>
    intro hz
    walk_at "r.raise"
    case k=>exact ⟨rfl,.inr ⟨ks,"missing",h1,by unfold qac;rw [if_pos (by decide),if_pos (by simpa using hz)],.inl ⟨rfl,rfl⟩⟩⟩
   case no =>
    intro hz
    walk_at "r.set"
    case k =>
     rw [hv]
     walk_at "r.if"
     case yes =>
      intro hq
      walk_at "r.raise"
      case k=>exact ⟨rfl,.inr ⟨ks,"protocol",h1,by unfold qac;rw [if_pos (by decide),if_neg (by simpa using hz),if_pos (by decide),if_pos (by simp at hq ⊢;lia)],.inr ⟨rfl,rfl⟩⟩⟩
     case no =>
      intro hq
      walk_at "r.set"
      case k=>exact qaw ⟨by trivial,ks,cut ks (some 4) none,_,h1,by unfold qac;rw [if_pos (by decide),if_neg (by simpa using hz),if_pos (by decide),if_neg (by simp at hq ⊢;lia)];rfl,rfl⟩)
end
section
variable {C:Cx}{σ:AS}{n:Nat}{ρ ρ':List Slot}
theorem Asg_tupB {ts:List Expr}{k:Nat}{pos:Pos}{t:Addr}{ob:Obj}{vs:List Value}{m:Nat}{ds:List D} (O:Ok C n) (hb:C.base.get? t=some ob) (hc:ob.cls=.type "tuple") (hx:ob.data=.seq vs.toArray m) (ha:∀ imm,DAll imm vs ds) (h:Asgs C ts ds ρ ρ'):Asg C (.Tuple ts k pos) (.val (.ref t)) ρ ρ':=.mk fun ms imm s v R hv Q E q=>by
 show wpAny _ _ (do standAt pos;unpack v (assignEach ts C.env)) _ _ _
 refine wpAny_bind (wpAny_standAt ?_)
 cases hv
 have ht:IsTup s.heap _ _:=⟨_,R.base_keep _ _ hb,hc,_,hx⟩
 obtain ⟨l1,l2⟩:=h.length
 refine unpack_tuple O.hn ht (by rw [l1,List.size_toArray,(ha imm).length]) l2 fun h' hx'=>?_
 have R':Rel C ⟨ρ,ms⟩ imm { s with heap:=h' }:=R.grow fun b o e=>hx' b o (Nat.ne_of_lt (Heap.lt_size e)) e
 exact h.run ms imm _ _ R' (ha imm) Q E q
end
structure qfb (P:Params) (Cc a:Addr) (its:List (Addr×Int×Str)):Prop where
 cls:clsA P Cc "known_flags" (.ref a)=true
 lst:(K39 P).lookup a=some { cls:=.type "list",data:=.seq (its.map fun it=>Value.ref it.1).toArray 0 }
 tup:∀ it∈its,∃ t1 t2,(K39 P).lookup it.1=some { cls:=.type "tuple",data:=.seq [Value.int it.2.1 t1,Value.str it.2.2 t2].toArray 0 }
noncomputable def qaj (its:List (Addr×Int×Str)) (bits:Int):List Str:=its.foldl (fun S it=>if (Builtin.bitAnd bits it.2.1 != 0)=true then it.2.2::S else S) []
theorem qh7 {its:List (Addr×Int×Str)}{it:Addr×Int×Str}{bits:Int}:qaj (its++[it]) bits=if (Builtin.bitAnd bits it.2.1 != 0)=true then it.2.2::qaj its bits else qaj its bits:=by
 unfold qaj;rw [List.foldl_append];rfl
theorem qd4 (its:List (Addr×Int×Str)) (bits:Int):(qaj its bits).length≤its.length:=by
 have:∀ (l:List (Addr×Int×Str)) (S:List Str),(l.foldl (fun S it=>if (Builtin.bitAnd bits it.2.1 != 0)=true then it.2.2::S else S) S).length≤S.length+l.length:=by
  intro l
  induction l with
  | nil=>intro S;exact Nat.le_refl _
  | cons x l ih =>
   intro S
   rw [List.foldl_cons]
   refine Nat.le_trans (ih _) ?_
   split <;> simp <;> lia
 have:=this its []
 simpa [qaj] using this
section
variable {P:Params}
theorem fl_frame:qfb P 82 48 []:=⟨by kernel_rfl,by kernel_rfl,fun V h=>nomatch h⟩
theorem fl_rst:qfb P 157 48 []:=⟨by kernel_rfl,by kernel_rfl,fun V h=>nomatch h⟩
theorem fl_win:qfb P 198 48 []:=⟨by kernel_rfl,by kernel_rfl,fun V h=>nomatch h⟩
noncomputable abbrev itsD:List (Addr×Int×Str):=[(94,1,"END_STREAM"),(95,8,"PADDED")]
noncomputable abbrev itsH:List (Addr×Int×Str):=[(124,1,"END_STREAM"),(125,4,"END_HEADERS"),(126,8,"PADDED"),(127,32,"PRIORITY")]
noncomputable abbrev itsP:List (Addr×Int×Str):=[(167,4,"END_HEADERS"),(168,8,"PADDED")]
noncomputable abbrev itsC:List (Addr×Int×Str):=[(208,4,"END_HEADERS")]
theorem fl_data:qfb P 114 96 itsD:=⟨by kernel_rfl,by kernel_rfl,fun it h=>by
 rcases mcj h with rfl | h
 ·exact ⟨318,319,by kernel_rfl⟩
 ·rw [msj h];exact ⟨320,321,by kernel_rfl⟩⟩
theorem fl_head:qfb P 138 128 itsH:=⟨by kernel_rfl,by kernel_rfl,fun it h=>by
 rcases mcj h with rfl | h
 ·exact ⟨358,359,by kernel_rfl⟩
 rcases mcj h with rfl | h
 ·exact ⟨360,361,by kernel_rfl⟩
 rcases mcj h with rfl | h
 ·exact ⟨362,363,by kernel_rfl⟩
 ·rw [msj h];exact ⟨364,365,by kernel_rfl⟩⟩
theorem fl_push:qfb P 179 169 itsP:=⟨by kernel_rfl,by kernel_rfl,fun it h=>by
 rcases mcj h with rfl | h
 ·exact ⟨423,424,by kernel_rfl⟩
 ·rw [msj h];exact ⟨425,426,by kernel_rfl⟩⟩
theorem fl_cont:qfb P 212 209 itsC:=⟨by kernel_rfl,by kernel_rfl,fun it h=>by
 rw [msj h];exact ⟨487,488,by kernel_rfl⟩⟩
end
noncomputable abbrev pS (h:List Int) (k s fr b nm:Option D):List Slot:=[⟨"header",.local,some (.bytes h)⟩,⟨"kind",.local,k⟩,⟨"stream_id",.local,s⟩,⟨"frame",.local,fr⟩,⟨"bit",.local,b⟩,⟨"name",.local,nm⟩,⟨"int",.globalImplicit,none⟩,⟨"InvalidDataError",.globalImplicit,none⟩,⟨"DataFrame",.globalImplicit,none⟩,⟨"HeadersFrame",.globalImplicit,none⟩,⟨"RstStreamFrame",.globalImplicit,none⟩,⟨"PushPromiseFrame",.globalImplicit,none⟩,⟨"WindowUpdateFrame",.globalImplicit,none⟩,⟨"ContinuationFrame",.globalImplicit,none⟩,⟨"Frame",.globalImplicit,none⟩]
noncomputable def qav {α:Type} (k:Int) (a0 a1 a3 a5 a8 a9 a:α):α:=if (k == 0)=true then a0 else if (k == 1)=true then a1 else if (k == 3)=true then a3 else if (k == 5)=true then a5 else if (k == 8)=true then a8 else if (k == 9)=true then a9 else a
noncomputable def kCc (k:Int):Addr:=qav k 114 138 157 179 198 212 82
noncomputable def kA (k:Int):Addr:=qav k 96 128 48 169 48 209 48
noncomputable def kIts (k:Int):List (Addr×Int×Str):=qav k itsD itsH [] itsP [] itsC []
noncomputable def kFs (k sid:Int) (sf:Addr):List (Str×D):=qav k (fF sid sf 0 []) (fF sid sf 0 []) (fF sid sf 0 []) (fF sid sf 0 []) (fF sid sf 0 []) (fF sid sf 0 []) (fX sid sf 0 [] "kind" (.int k))
section
variable {α:Type}{k:Int}{a0 a1 a3 a5 a8 a9 a:α}
theorem bk0  (h0:(k == 0)=true):qav k a0 a1 a3 a5 a8 a9 a=a0:=(if_pos h0)
theorem bk1 (h0:(k == 0)=false) (h1:(k == 1)=true):qav k a0 a1 a3 a5 a8 a9 a=a1:=((ifF h0).trans (if_pos h1))
theorem bk3 (h0:(k == 0)=false) (h1:(k == 1)=false) (h3:(k == 3)=true):qav k a0 a1 a3 a5 a8 a9 a=a3:=((ifF h0).trans ((ifF h1).trans (if_pos h3)))
theorem bk5 (h0:(k == 0)=false) (h1:(k == 1)=false) (h3:(k == 3)=false) (h5:(k == 5)=true):qav k a0 a1 a3 a5 a8 a9 a=a5:=((ifF h0).trans ((ifF h1).trans ((ifF h3).trans (if_pos h5))))
theorem bk8 (h0:(k == 0)=false) (h1:(k == 1)=false) (h3:(k == 3)=false) (h5:(k == 5)=false) (h8:(k == 8)=true):qav k a0 a1 a3 a5 a8 a9 a=a8:=((ifF h0).trans ((ifF h1).trans ((ifF h3).trans ((ifF h5).trans (if_pos h8)))))
theorem bk9 (h0:(k == 0)=false) (h1:(k == 1)=false) (h3:(k == 3)=false) (h5:(k == 5)=false) (h8:(k == 8)=false) (h9:(k == 9)=true):qav k a0 a1 a3 a5 a8 a9 a=a9:=((ifF h0).trans ((ifF h1).trans ((ifF h3).trans ((ifF h5).trans ((ifF h8).trans (if_pos h9))))))
theorem bkE (h0:(k == 0)=false) (h1:(k == 1)=false) (h3:(k == 3)=false) (h5:(k == 5)=false) (h8:(k == 8)=false) (h9:(k == 9)=false):qav k a0 a1 a3 a5 a8 a9 a=a:=((ifF h0).trans ((ifF h1).trans ((ifF h3).trans ((ifF h5).trans ((ifF h8).trans (ifF h9))))))
end
theorem qet {ρ:List Slot}{f dx sf:Addr}{k sid:Int}{c:Addr}{fs:List (Str×D)} (h1:kCc k=c) (h2:kFs k sid sf=fs):(⟨ρ,frM f dx sf c fs []⟩:AS)=⟨ρ,frM f dx sf (kCc k) (kFs k sid sf) []⟩:=by rw [h1,h2]
theorem qbn {α:Type}{p:α→Prop}{k:Int}{a0 a1 a3 a5 a8 a9 a:α} (h0:p a0) (h1:p a1) (h3:p a3) (h5:p a5) (h8:p a8) (h9:p a9) (h:p a):p (qav k a0 a1 a3 a5 a8 a9 a):=by
 unfold qav
 repeat' split
 all_goals assumption
theorem bkCases {p:Prop} (k:Int) (f0:(k == 0)=true→p) (f1:(k == 0)=false→(k == 1)=true→p) (f3:(k == 0)=false→(k == 1)=false→(k == 3)=true→p) (f5:(k == 0)=false→(k == 1)=false→(k == 3)=false→(k == 5)=true→p)
 (f8:(k == 0)=false→(k == 1)=false→(k == 3)=false→(k == 5)=false→(k == 8)=true→p) (f9:(k == 0)=false→(k == 1)=false→(k == 3)=false→(k == 5)=false→(k == 8)=false→(k == 9)=true→p)
 (f:(k == 0)=false→(k == 1)=false→(k == 3)=false→(k == 5)=false→(k == 8)=false→(k == 9)=false→p):p:=by
 cases h0:k == 0 with
 | true=>exact f0 h0
 | false =>
  cases h1:k == 1 with
  | true=>exact f1 h0 h1
  | false =>
   cases h3:k == 3 with
   | true=>exact f3 h0 h1 h3
   | false =>
    cases h5:k == 5 with
    | true=>exact f5 h0 h1 h3 h5
    | false =>
     cases h8:k == 8 with
     | true=>exact f8 h0 h1 h3 h5 h8
     | false =>
      cases h9:k == 9 with
      | true=>exact f9 h0 h1 h3 h5 h8 h9
      | false=>exact f h0 h1 h3 h5 h8 h9
theorem fl3 {P:Params}{k:Int}{c a:Addr}{its:List (Addr×Int×Str)} (e1:kCc k=c) (e2:kA k=a) (e3:kIts k=its) (h:qfb P c a its):qfb P (kCc k) (kA k) (kIts k):=by rw [e1,e2,e3];exact h
theorem kFlags {P:Params} (k:Int):qfb P (kCc k) (kA k) (kIts k) :=
 bkCases k (fun h=>fl3 (bk0 h) (bk0 h) (bk0 h) fl_data) (fun a h=>fl3 (bk1 a h) (bk1 a h) (bk1 a h) fl_head) (fun a b h=>fl3 (bk3 a b h) (bk3 a b h) (bk3 a b h) fl_rst) (fun a b c h=>fl3 (bk5 a b c h) (bk5 a b c h) (bk5 a b c h) fl_push)
  (fun a b c d h=>fl3 (bk8 a b c d h) (bk8 a b c d h) (bk8 a b c d h) fl_win) (fun a b c d e h=>fl3 (bk9 a b c d e h) (bk9 a b c d e h) (bk9 a b c d e h) fl_cont) fun a b c d e h=>fl3 (bkE a b c d e h) (bkE a b c d e h) (bkE a b c d e h) fl_frame
noncomputable def newOk (P:Params) (Cc:Addr):Bool:=keepIn (KK P) (.ref Cc) && makesIn (KK P) Cc && (findIn (KK P) (.ref Cc) "__init__" == some (some (.ref 55))) && frSet P Cc
theorem init_ty {P:Params}:typeIn (KK P) (.ref 55)=some (.type "function"):=by kernel_rfl
noncomputable def qg7 (kd sid:Int):Bool:=([0,1,2,3,5,9].any (· == kd) && (sid == 0)) || ([4,6,7].any (· == kd) && (sid != 0))
noncomputable def qau (h:List Int):Int:=h.getD 3 0
noncomputable def hSid (h:List Int):Int:=qa9 (cut h (some 5) (some 9)) % 2147483648
section
variable {C:Cx}{n:Nat}{KF:Fl→AS→Prop}{KE:Value→Value→AS→Prop}{rest:List Stmt}
theorem qb4 {X:Str}{np p1 p2 cp pos:Pos}{Cc:Addr}{h:List Int}{kd sid:Int} (O:Ok C (n+3)) (G:OkR C) (g:GV C.w.params X (.ref Cc)) (ho:newOk C.w.params Cc=true)
 (hX:Has X .globalImplicit none (pS h (some (.int kd)) (some (.int sid)) none none none))
 (k:∀ f dx sf,SLR C ⟨pS h (some (.int kd)) (some (.int sid)) (some (.val (.ref f))) none none,frM f dx sf Cc (fF sid sf 0 []) []⟩ rest KF KE) :
 SLR C ⟨pS h (some (.int kd)) (some (.int sid)) none none none,[]⟩ (.Assign [.Name "frame" p1] (.Call (.Name X np) [.Name "stream_id" p2] [] cp) pos::rest) KF KE:=by
 unfold newOk at ho
 simp only [Bool.and_eq_true,beq_iff_eq] at ho
 obtain ⟨⟨⟨h1,h2⟩,h3⟩,h4⟩:=ho
 refine' qbo (K:=fun d σ'=>∃ f dx sf,d=.val (.ref f)∧σ'=⟨pS h (some (.int kd)) (some (.int sid)) none none none,frM f dx sf Cc (fF sid sf 0 []) []⟩) O
  (XR_make (k:=n+2) (ds:=[.int sid]) O G (X_glob (σ:=⟨_,_⟩) O hX g) h1 ?as_4 h2 h3 init_ty (fun a dx=>fn_finit (n:=n+1) h4 a dx) ?q_4) ?kk_4 rfl
 case as_4=>walk_at "m.xs"
 case q_4 =>
  rintro f dx M' ⟨sf,rfl⟩
  exact ⟨f,dx,sf,rfl,rfl⟩
 case kk_4 =>
  rintro d σ' ⟨f,dx,sf,rfl,rfl⟩
  refine' ⟨_,?put,k f dx sf⟩
  case put=>walk_at "m.put"
end
section
variable {C:Cx}{σ:AS}{n:Nat}{KF:Fl→AS→Prop}{KE:Value→Value→AS→Prop}{rest:List Stmt}
theorem SR_cut {st:Stmt} (J:AS→Prop) (h:SLR C σ [st] (fun f σ'=>match f with | .next=>J σ' | f=>KF f σ') KE) (k:∀ σ',J σ'→SLR C σ' rest KF KE):SLR C σ (st::rest) KF KE:=SR_pre (pre:=[st]) J h k
end
theorem fn_pfh {P:Params}{h:List Int}{n:Nat} (hh:h.length=9) (hb:∀ k∈h,0≤k∧k<256):FnR P 62 (n+4) [.bytes h] []
 (fun d M'=>qg7 (qau h) (hSid h)=false∧∃ f dx sf,d=.tup [.val (.ref f),.int (qa9 (cut h none (some 3)))]∧M'=frM f dx sf (kCc (qau h)) (kFs (qau h) (hSid h) sf) (qaj (kIts (qau h)) (h.getD 4 0)))
 (fun cls c2 M'=>c2=.none∧cls=.ref 37∧qg7 (qau h) (hSid h)=true):=qc1 rec_pfh.toD rfl (by
 intro C hP hcap O G
 subst hP
 rw [sl_pfh]
 have hc9:=qar h (some 5) (some 9)
 have hc8:(cut h (some 5) (some 9)).length≤8:=by
  unfold cut
  rw [List.length_take,List.length_drop,hh]
  decide
 have hc3:(cut h none (some 3)).length≤8:=by
  unfold cut
  rw [List.length_take,List.length_drop,hh]
  decide
 have ha:Builtin.bitAnd (qa9 (cut h (some 5) (some 9))) 2147483647=hSid h:=and31 (qbl fun k hk=>hb k (cut_in hk))
 conv=>enter [3];whnf
 walk_at "r.assign"
 case k =>
 walk_at "r.assign"
 case k =>
 rw [ha]
 show SLR C ⟨pS h (some (.int (qau h))) (some (.int (hSid h))) none none none,[]⟩ _ _ _
 walk_at "r.if"
 case yes =>
  intro hc
  walk_at "r.raise"
  case k=>exact ⟨rfl,rfl,by unfold qg7;rw [hc];rfl⟩
 case no =>
  intro hc1
  walk_at "r.if"
  case yes =>
   intro hc
   walk_at "r.raise"
   case k=>exact ⟨rfl,rfl,by unfold qg7;rw [hc,Bool.or_true]⟩
  case no =>
   intro hc2
   have he:qg7 (qau h) (hSid h)=false:=by unfold qg7;rw [hc1,hc2];rfl
   refine' SR_cut (fun σ'=>∃ f dx sf,σ'=⟨pS h (some (.int (qau h))) (some (.int (hSid h))) (some (.val (.ref f))) none none,frM f dx sf (kCc (qau h)) (kFs (qau h) (hSid h) sf) []⟩) ?cut_1 ?rst_1
   case cut_1 =>
    walk_at "r.if"
    case yes =>
     intro hk0
     refine' qb4 (Cc:=114) O G ?g_2 ?ok_2 ?hx_2 (fun f dx sf=>qaw ⟨f,dx,sf,?e_2⟩)
     case g_2=>walk_at "m.glob"
     case ok_2=>kernel_rfl
     case hx_2=>walk_at "m.has"
     case e_2=>exact qet (bk0 hk0) (bk0 hk0)
    case no =>
    intro hk0
    walk_at "r.if"
    case yes =>
     intro hk1
     refine' qb4 (Cc:=138) O G ?g_3 ?ok_3 ?hx_3 (fun f dx sf=>qaw ⟨f,dx,sf,?e_3⟩)
     case g_3=>walk_at "m.glob"
     case ok_3=>kernel_rfl
     case hx_3=>walk_at "m.has"
     case e_3=>exact qet (bk1 hk0 hk1) (bk1 hk0 hk1)
    case no =>
    intro hk1
    walk_at "r.if"
    case yes =>
     intro hk3
     refine' qb4 (Cc:=157) O G ?g_4 ?ok_4 ?hx_4 (fun f dx sf=>qaw ⟨f,dx,sf,?e_4⟩)
     case g_4=>walk_at "m.glob"
     case ok_4=>kernel_rfl
     case hx_4=>walk_at "m.has"
     case e_4=>exact qet (bk3 hk0 hk1 hk3) (bk3 hk0 hk1 hk3)
    case no =>
    intro hk3
    walk_at "r.if"
    case yes =>
     intro hk5
     refine' qb4 (Cc:=179) O G ?g_5 ?ok_5 ?hx_5 (fun f dx sf=>qaw ⟨f,dx,sf,?e_5⟩)
     case g_5=>walk_at "m.glob"
     case ok_5=>kernel_rfl
     case hx_5=>walk_at "m.has"
     case e_5=>exact qet (bk5 hk0 hk1 hk3 hk5) (bk5 hk0 hk1 hk3 hk5)
    case no =>
    intro hk5
    walk_at "r.if"
    case yes =>
     intro hk8
     refine' qb4 (Cc:=198) O G ?g_6 ?ok_6 ?hx_6 (fun f dx sf=>qaw ⟨f,dx,sf,?e_6⟩)
     case g_6=>walk_at "m.glob"
     case ok_6=>kernel_rfl
     case hx_6=>walk_at "m.has"
     case e_6=>exact qet (bk8 hk0 hk1 hk3 hk5 hk8) (bk8 hk0 hk1 hk3 hk5 hk8)
    case no =>
    intro hk8
    walk_at "r.if"
    case yes =>
     intro hk9
     refine' qb4 (Cc:=212) O G ?g_7 ?ok_7 ?hx_7 (fun f dx sf=>qaw ⟨f,dx,sf,?e_7⟩)
     case g_7=>walk_at "m.glob"
     case ok_7=>kernel_rfl
     case hx_7=>walk_at "m.has"
     case e_7=>exact qet (bk9 hk0 hk1 hk3 hk5 hk8 hk9) (bk9 hk0 hk1 hk3 hk5 hk8 hk9)
    case no =>
    intro hk9
    refine' qb4 (Cc:=82) O G ?g_8 ?ok_8 ?hx_8 (fun f dx sf=>?k)
    case g_8=>walk_at "m.glob"
    case ok_8=>kernel_rfl
    case hx_8=>walk_at "m.has"
    case k =>
     walk_at "r.set"
     case k=>exact qaw ⟨f,dx,sf,qet (bkE hk0 hk1 hk3 hk5 hk8 hk9) (bkE hk0 hk1 hk3 hk5 hk8 hk9)⟩
   case rst_1 =>
    rintro σ' ⟨f,dx,sf,rfl⟩
    have FL:=kFlags (P:=C.w.params) (qau h)
    have hln:(kFs (qau h) (hSid h) sf).lookup ("known_flags":Str)=none:=by
     unfold kFs
     exact qbn (p:=fun l:List (Str×D)=>l.lookup ("known_flags":Str)=none) (by kernel_rfl) (by kernel_rfl) (by kernel_rfl) (by kernel_rfl) (by kernel_rfl) (by kernel_rfl) (by kernel_rfl)
    have hfl:Fld "flags" (.val (.ref sf)) (kFs (qau h) (hSid h) sf):=by
     unfold kFs
     refine qbn (p:=fun l:List (Str×D)=>Fld "flags" (.val (.ref sf)) l) ?_ ?_ ?_ ?_ ?_ ?_ ?_ <;> walk_at "m.fld"
    have how:ownA C.w.params (kCc (qau h)) "flags"=true:=by
     unfold kCc
     exact qbn (p:=fun a=>ownA C.w.params a "flags"=true) (by kernel_rfl) (by kernel_rfl) (by kernel_rfl) (by kernel_rfl) (by kernel_rfl) (by kernel_rfl) (by kernel_rfl)
    have hil:(kIts (qau h)).length≤4:=by
     unfold kIts
     exact qbn (p:=fun l:List (Addr×Int×Str)=>l.length≤4) (by decide) (by decide) (by decide) (by decide) (by decide) (by decide) (by decide)
    generalize hfs:kFs (qau h) (hSid h) sf=fs at hln hfl ⊢
    generalize kCc (qau h)=Cc at FL how ⊢
    generalize kIts (qau h)=its at FL hil ⊢
    refine' SR_step (fun σ'=>∃ vb vn,σ'=⟨pS h (some (.int (qau h))) (some (.int (hSid h))) (some (.val (.ref f))) vb vn,frM f dx sf Cc fs (qaj its (h.getD 4 0))⟩)
     (SL.toC (S_for O (Src_base (X_attrC (σ:=⟨_,_⟩) O ?x1_10 ?x2_10 ?x3_10 hln FL.cls (.val _) rfl) (O.kin _ _ FL.lst) rfl rfl (fun V=>rfl)) (fun i σ1=>∃ vb vn,σ1=⟨pS h (some (.int (qau h))) (some (.int (hSid h))) (some (.val (.ref f))) vb vn,frM f dx sf Cc fs (qaj (its.take i) (h.getD 4 0))⟩) ⟨none,none,rfl⟩ ?turn_10 ?done_10)) ?rest_10
    case x1_10=>walk_at "m.x"
    case x2_10=>walk_at "m.mem"
    case x3_10=>walk_at "m.mem"
    case turn_10 =>
     rintro i d σ1 C' hd ⟨vb,vn,rfl⟩ O' hw hcap'
     rw [List.getElem?_map,List.getElem?_map] at hd
     cases hit:its[i]? with
     | none=>rw [hit] at hd;cases hd
     | some it =>
      rw [hit] at hd
      have hd:D.val (.ref it.1)=d:=by simpa using hd
      subst hd
      obtain ⟨t1,t2,ht⟩:=FL.tup it (List.mem_of_getElem? hit)
      have htk:its.take (i+1)=its.take i++[it]:=by rw [List.take_add_one,hit];rfl
      have hlt:(qaj (its.take i) (h.getD 4 0)).length<4000:=by
       have:=qd4 (its.take i) (h.getD 4 0)
       have:(its.take i).length≤its.length:=by rw [List.length_take];exact Nat.min_le_right _ _
       lia
      rw [htk,qh7]
      refine' ⟨_,Asg_tupB O' (by rw [← hw] at ht;exact O'.kin _ _ ht) rfl rfl (ds:=[.int it.2.1,.str it.2.2]) (fun imm=>.cons (.int _ _) (.cons (.str _ _) .nil)) ?as_11,?bd_11⟩
      case as_11=>walk_at "m.asgs"
      case bd_11 =>
       walk_at "m.if"
       case yes =>
        intro hq
        have hq:(Builtin.bitAnd (h.getD 4 0) it.2.1 != 0)=true:=hq
        refine' S_expr O' (XM_setAdd (K:=fun d σ'=>d=.none∧σ'=⟨pS h (some (.int (qau h))) (some (.int (hSid h))) (some (.val (.ref f))) (some (.int it.2.1)) (some (.str it.2.2)),frM f dx sf Cc fs (it.2.2::qaj (its.take i) (h.getD 4 0))⟩) (m1:=[]) rfl rfl ?so_12 ?se hlt ⟨rfl,rfl⟩) ?sk_12 rfl
        case so_12=>(refine X_attr (σ:=⟨_,_⟩) (x:=f) (Cc:=Cc) (dx:=dx) O' ?y1_13 ?y2_13 ?y3_13 hfl.look (by rw [hw];exact how) rfl rfl;(case y1_13=>walk_at "m.x");(case y2_13=>exact .tail _ (.head _));(case y3_13=>exact .tail _ (.tail _ (.head _))))
        case se=>walk_at "m.xs"
        case sk_12 =>
         rintro d σ' ⟨rfl,rfl⟩
         exact qam ⟨_,_,by rw [if_pos hq]⟩
       case no =>
        intro hq
        have hq:(Builtin.bitAnd (h.getD 4 0) it.2.1 != 0)=false:=hq
        exact qam ⟨_,_,by rw [if_neg (by rw [hq];decide)]⟩
    case done_10 =>
     rintro σ1 ⟨vb,vn,rfl⟩
     refine qam ⟨vb,vn,?_⟩
     rw [lem,lem,List.take_length]
    case rest_10 =>
     rintro σ' ⟨vb,vn,rfl⟩
     walk_at "r.ret"
     case k=>exact ⟨he,f,dx,sf,rfl,by rw [hfs]⟩)
section
variable {C:Cx}{σ:AS}{n:Nat}
theorem strLen {i:Int} (h:i.natAbs.log2<1920):(Str.ofString (toString i)).length≤1921:=by
 rw [PySem.ofString_length];exact PySem.int_text_length_le (k:=1920) (by decide) h
theorem X_fstr4 {a b:Str}{i j:Int}{e1 e2:Expr}{ka kb:Nat}{p1 p2 p3 p4 p5:Pos} (h1:X C σ e1 (.int i)) (h2:X C σ e2 (.int j)) (hi:i.natAbs.log2<1920) (hj:j.natAbs.log2<1920) (ha:a.length≤100) (hb:b.length≤100) :
 X C σ (.JoinedStr [.Constant (.str a) ka p1,.FormattedValue e1 (-1) none p2,.Constant (.str b) kb p3,.FormattedValue e2 (-1) none p4] p5) (.str (((Str.empty++a)++Str.ofString (toString i))++b++Str.ofString (toString j))):=.mk fun imm s R Q E q=>by
 have li:=strLen hi
 have lj:=strLen hj
 have z:sizeLine=16777216:=by decide
 have z0:(Str.empty).length=0:=by decide
 have cut:∀ x y:Str,(x++y).length=x.length+y.length:=fun x y=>strLen_append x y
 refine wpAny_JoinedStr ?_
 refine wpAny_Constant_str ⟨a,_,rfl,by rw [cut];lia,?_⟩
 refine wpAny_FormattedValue_plain (h1.go imm _ (R.tok _) _ _ fun v i1 s1 hs1 R1 hv=>?_)
 cases hv
 refine wpAny_formatField_int hi ⟨_,_,rfl,by rw [cut,cut];lia,?_⟩
 refine wpAny_Constant_str ⟨b,_,rfl,by rw [cut,cut,cut];lia,?_⟩
 refine wpAny_FormattedValue_plain (h2.go i1 _ (R1.tok _) _ _ fun v i2 s2 hs2 R2 hv=>?_)
 cases hv
 refine wpAny_formatField_int hj ⟨_,_,rfl,by rw [cut,cut,cut,cut];lia,?_⟩
 exact ⟨by rw [cut,cut,cut,cut];lia,q _ i2 _ (qa0 hs1 hs2) (R2.tok _) (.str _ _)⟩
end
theorem qh2 {i:Int} (h:i.natAbs<2 ^ 64):i.natAbs.log2<1920:=by
 by_cases z:i.natAbs=0
 ·rw [z];decide
 ·exact Nat.lt_of_lt_of_le ((Nat.log2_lt z).mpr h) (by decide)
theorem fn_val {P:Params}{a dx b l:Addr}{m pl len:Int}{pre:List Int}{n:Nat} (hm:m.natAbs<2 ^ 64) (hl:len.natAbs<2 ^ 64):FnR P 306 (n+1) [.val (.ref a),.int len] [(a,.inst 330 dx),(dx,.dict (fbFs b l m pre pl))]
 (fun d M'=>d=.none∧len≤m∧M'=[(a,.inst 330 dx),(dx,.dict (fbFs b l m pre pl))]) (fun cls c2 V=>c2=.none∧cls=.ref 263∧m<len):=qc1 rec_val.toD rfl (by
 intro C hP hcap O G
 subst hP
 rw [sl_val]
 have ow:ownA C.w.params 330 "max_frame_size"=true:=by kernel_rfl
 conv=>enter [3];whnf
 walk_at "r.if"
 case yes =>
  intro hc
  have hc:m<len:=by simpa using hc
  with_reducible refine' SR_assign O (X_fstr4 ?h1_8 ?h2_8 (qh2 hl) (qh2 hm) ?ha_8 ?hb_8) ?b_8 ?k ?hn
  case hn=>rfl
  case h1_8=>walk_at "m.x"
  case h2_8=>walk_at "m.x"
  case ha_8=>decide +kernel
  case hb_8=>decide +kernel
  case b_8=>walk_at "m.put"
  case k =>
   walk_at "r.raise"
   case k=>exact ⟨rfl,rfl,hc⟩
 case no =>
  intro hc
  have hc:¬ m<len:=by simpa using hc
  exact qaw ⟨by trivial,by lia,rfl⟩)
section
variable {C:Cx}{σ:AS}{n:Nat}{imm:List Cell}{s:Shared}{K:D→AS→Prop}{KF:Fl→AS→Prop}{KE:Value→Value→AS→Prop}{rest:List Stmt}
set_option tactic.hygienic true in
theorem SR_augSub {ρ:List Slot}{ms ms':List (Addr×AO)}{o e:Expr}{attr:Str}{ap pos:Pos}{x Cc dx:Addr}{fs fs':List (Str×D)}{i j:Int} (O:Ok C n)
 (ho:X C ⟨ρ,ms⟩ o (.val (.ref x))) (he:X C ⟨ρ,ms⟩ e (.int j)) (hx:(x,AO.inst Cc dx)∈ms) (hf:Fld attr (.int i) fs) (hM:MPut dx (.dict fs) (.dict fs') ms ms') (hF:FPut attr (.int (i - j)) fs fs') (ha:ownA C.w.params Cc attr=true) (hsA:setA C.w.params Cc attr=true) (hl:fs.length≤900)
 (k:SLR C ⟨ρ,ms'⟩ rest KF KE):SLR C ⟨ρ,ms⟩ (.AugAssign (.Attribute o attr ap) .Sub e pos::rest) KF KE:=by
 obtain ⟨m1,m2,rfl,rfl⟩:=hM.split
 refine qda (fun σ'=>σ'=⟨ρ,m1++(dx,.dict fs')::m2⟩) (fun imm s R=>?_) fun σ' e=>by subst e;exact k
 refine qe5 (ho.goV imm s R _ _ fun i1 s1 hs1 R1=>?_)
 obtain ⟨es1,k1,hF1,I⟩:=R1.inst hx (dx:=dx) (fs:=fs) (mar _ (.head _))
 obtain ⟨v,hv,hvd⟩:=hF1.some hf.look
 unfold ownA at ha
 rw [Bool.and_eq_true,Bool.and_eq_true] at ha
 obtain ⟨⟨h1,h2⟩,h3⟩:=ha
 split at h3
 ·rename_i a' hfa
  have R1':=R1
  obtain ⟨m,os,kc,fs',RX⟩:=R1'
  cases hvd
  refine get_own RX.fr O.kin I h1 h2 hfa h3 hv rfl ?_
  refine he.go i1 _ (R1.tok _) _ _ fun w i2 s2 hs2 R2 hw=>?_
  cases hw
  refine qap (AutoIntOps.isub_0 ?_)
  refine qdp O (R2.tok _) (qdh hx (by intro q;cases q)) hsA hl (.int (i - j) _) fun s' R4=>?_
  rw [hF.eq] at R4
  exact ⟨rfl,_,i2,qa0 hs1 hs2,R4,rfl⟩
 ·cases h3
set_option tactic.hygienic true in
theorem SR_augBa {ρ:List Slot}{ms ms':List (Addr×AO)}{o e:Expr}{attr:Str}{ap pos:Pos}{x Cc dx a:Addr}{fs:List (Str×D)}{ks es:List Int} (O:Ok C n) (hg:C.A.guards=some [])
 (ho:X C ⟨ρ,ms⟩ o (.val (.ref x))) (he:X C ⟨ρ,ms⟩ e (.bytes es)) (hx:(x,AO.inst Cc dx)∈ms) (hd:(dx,AO.dict fs)∈ms) (hf:Fld attr (.val (.ref a)) fs) (hM:MPut a (.ba ks) (.ba (ks++es)) ms ms') (ha:ownA C.w.params Cc attr=true) (hsA:setA C.w.params Cc attr=true) (hl:fs.length≤900)
 (hz:(ks++es).length≤16777216) (k:SLR C ⟨ρ,ms'⟩ rest KF KE):SLR C ⟨ρ,ms⟩ (.AugAssign (.Attribute o attr ap) .Add e pos::rest) KF KE:=by
 obtain ⟨m1,m2,rfl,rfl⟩:=hM.split
 refine qda (fun σ'=>σ'=⟨ρ,m1++(a,.ba (ks++es))::m2⟩) (fun imm s R=>?_) fun σ' e=>by subst e;exact k
 refine qe5 (ho.goV imm s R _ _ fun i1 s1 hs1 R1=>?_)
 obtain ⟨es1,k1,hF,I⟩:=R1.inst hx hd
 obtain ⟨v,hv,hvd⟩:=hF.some hf.look
 cases hvd
 unfold ownA at ha
 rw [Bool.and_eq_true,Bool.and_eq_true] at ha
 obtain ⟨⟨h1,h2⟩,h3⟩:=ha
 split at h3
 ·rename_i a' hfa
  have R1':=R1
  obtain ⟨m,os,kc,fs',RX⟩:=R1'
  refine get_own RX.fr O.kin I h1 h2 hfa h3 hv rfl ?_
  refine he.go i1 _ (R1.tok _) _ _ fun w i2 s2 hs2 R2 hw=>?_
  cases hw with
  | @bytes b t _ eb =>
   obtain ⟨c,hc,ec,fin⟩:=R2.putBa
   refine qdy hg hc (by rw [Array.size_append,← qca,← qca,ec,eb,← lea];exact hz) fun h' g sb=>?_
   have R3:=fin h' (c++b) s2.drawn s2.toks g sb
   have e3:bI (c++b)=ks++es:=by
    rw [← ec,← eb]
    show (c++b).toList.map _=c.toList.map _++b.toList.map _
    rw [Array.toList_append,lma]
   rw [e3] at R3
   have hd':=ms_swap (b:=.ba (ks++es)) hd (fun e=>nomatch e)
   have hx':=ms_swap (b:=.ba (ks++es)) hx (fun e=>nomatch e)
   obtain ⟨n1,n2,en⟩:=qen hd'
   rw [en] at R3 hx'
   refine qdp O R3 (qdh hx' (by intro q;cases q)) hsA hl (.val _) fun s' R4=>?_
   rw [qgw hf.look,← en] at R4
   exact ⟨rfl,_,i2,qa0 hs1 hs2,R4,rfl⟩
 ·cases h3
theorem SR_delBa {ρ:List Slot}{ms ms':List (Addr×AO)}{o e:Expr}{sp dp pos:Pos}{a:Addr}{ks:List Int}{i:Nat} (hg:C.A.guards=some [])
 (ho:X C ⟨ρ,ms⟩ o (.val (.ref a))) (he:X C ⟨ρ,ms⟩ e (.int i)) (hM:MPut a (.ba ks) (.ba (ks.drop i)) ms ms') (hz:ks.length≤16777216) (hk:i≤ks.length)
 (k:SLR C ⟨ρ,ms'⟩ rest KF KE):SLR C ⟨ρ,ms⟩ (.Delete [.Subscript o (.Slice none (some e) none sp) dp] pos::rest) KF KE:=by
 obtain ⟨m1,m2,rfl,rfl⟩:=hM.split
 exact SR_one (SC_delBa (ap:=pos) (m1:=m1) (m2:=m2) hg ho he hz hk (SL.toC (qam ⟨rfl,rfl⟩))) k
end
theorem qbx (n w:Nat):clipAt n (w:Int)=min w n:=by
 unfold clipAt
 rw [if_neg (Int.not_lt.mpr (Int.natCast_nonneg _))]
 exact clX n w
theorem qge (ks:List Int) (w:Nat):cut ks none (some (w:Int))=ks.take w:=by
 unfold cut
 simp only [Option.elim,qbx,List.drop_zero,Nat.sub_zero]
 rcases Nat.le_total w ks.length with h | h
 ·rw [Nat.min_eq_left h]
 ·rw [Nat.min_eq_right h,List.take_of_length_le (Nat.le_refl _),List.take_of_length_le h]
theorem cut_drop (ks:List Int) (w:Nat):cut ks (some (w:Int)) none=ks.drop w:=by
 unfold cut
 simp only [Option.elim,qbx]
 rcases Nat.le_total w ks.length with h | h
 ·rw [Nat.min_eq_left h,List.take_of_length_le (by rw [List.length_drop];exact Nat.le_refl _)]
 ·rw [Nat.min_eq_right h,List.drop_of_length_le (Nat.le_refl _),List.drop_of_length_le h,List.take_nil]
theorem fn_add {P:Params}{a dx b l:Addr}{m:Int}{pre data part:List Int}{n:Nat} (hp:pre.length≤24) (hq:part.length≤8000000) (hd:data.length≤8000000) :
 FnR P 299 (n+1) [.val (.ref a),.bytes part] [(b,.ba data),(a,.inst 330 dx),(dx,.dict (fbFs b l m pre pre.length))]
 (fun d M'=>d=.none∧pre.take (min pre.length part.length)=part.take (min pre.length part.length) ∧
  M'=[(b,.ba (data++part.drop (min pre.length part.length))),(a,.inst 330 dx),(dx,.dict (fbFs b l m (pre.drop (min pre.length part.length)) (pre.drop (min pre.length part.length)).length))])
 (fun cls c2 V=>c2=.none∧cls=.ref 251∧pre.take (min pre.length part.length)≠part.take (min pre.length part.length)):=qc1 rec_add.toD rfl (by
 intro C hP hcap O G
 subst hP
 rw [sl_add]
 have ow1:ownA C.w.params 330 "_preamble_len"=true:=by kernel_rfl
 have ow2:ownA C.w.params 330 "_preamble"=true:=by kernel_rfl
 have ow3:ownA C.w.params 330 "_data"=true:=by kernel_rfl
 generalize hw:min pre.length part.length=w
 have hwi:(if (part.length:Int)<(pre.length:Int) then (part.length:Int) else (pre.length:Int))=(w:Int):=by split <;> lia
 have e1:=qge pre w
 have e2:=qge part w
 have e3:=cut_drop pre w
 have e4:=cut_drop part w
 have e5:(pre.length:Int) - (w:Int)=((pre.drop w).length:Int):=by rw [List.length_drop,Int.ofNat_sub (hw ▸ Nat.min_le_left _ _)]
 have l1:(pre.drop w).length≤pre.length:=by rw [List.length_drop];exact Nat.sub_le _ _
 conv=>enter [3];whnf
 walk_at "r.assign"
 case k =>
 walk_at "r.if"
 case yes =>
  intro hc
  walk_at "r.assign"
  case k =>
  with_reducible refine' SR_assign O (X_minI O ?f_13 ?xs_13) ?b_13 ?k ?hn
  case hn=>rfl
  case f_13=>walk_at "m.x"
  case xs_13=>walk_at "m.xs"
  case b_13=>walk_at "m.put"
  case k =>
  rw [hwi]
  walk_at "r.if"
  case yes =>
   intro hne
   walk_at "r.assign"
   case k =>
   walk_at "r.raise"
   case k =>
    rw [e1,e2] at hne
    exact ⟨rfl,rfl,by simpa using hne⟩
  case no =>
   intro heq
   rw [e1,e2] at heq
   have heq:pre.take w=part.take w:=by simpa using heq
   walk_at "r.assign"
   case k =>
   rw [e4]
   with_reducible refine' SR_augSub O ?sa_14 ?sb ?sc ?sg ?sd ?se ?o1_14 ?o2_14 ?o3_14 ?k
   case sa_14=>walk_at "m.x"
   case sb=>walk_at "m.x"
   case sc=>walk_at "m.mem"
   case sd=>walk_at "m.mput"
   case sg=>walk_at "m.fld"
   case se=>walk_at "m.fput"
   case o1_14=>exact ow1
   case o2_14=>kernel_rfl
   case o3_14=>simp
   case k =>
   rw [e5]
   walk_at "r.set"
   case k =>
   rw [e3]
   with_reducible refine' SR_augBa O G.gd ?sa_15 ?sb ?sc ?sg ?sh_15 ?sd ?o1_15 ?o2_15 ?o3_15 ?hz_15 ?k
   case sa_15=>walk_at "m.x"
   case sb=>walk_at "m.x"
   case sc=>walk_at "m.mem"
   case sg=>walk_at "m.mem"
   case sh_15=>walk_at "m.fld"
   case sd=>walk_at "m.mput"
   case o1_15=>exact ow3
   case o2_15=>exact qdd
   case o3_15=>simp
   case hz_15=>rw [lea,List.length_drop];lia
   case k=>exact qaw ⟨by trivial,heq,rfl⟩
 case no =>
  intro hc
  have hz:pre=[]:=by
   have:pre.length=0:=by simpa using hc
   exact List.length_eq_zero_iff.mp this
  subst hz
  have:w=0:=by rw [← hw];simp
  subst this
  with_reducible refine' SR_augBa O G.gd ?sa_16 ?sb ?sc ?sg ?sh_16 ?sd ?o1_16 ?o2_16 ?o3_16 ?hz_16 ?k
  case sa_16=>walk_at "m.x"
  case sb=>walk_at "m.x"
  case sc=>walk_at "m.mem"
  case sg=>walk_at "m.mem"
  case sh_16=>walk_at "m.fld"
  case sd=>walk_at "m.mput"
  case o1_16=>exact ow3
  case o2_16=>exact qdd
  case o3_16=>simp
  case hz_16=>rw [lea];lia
  case k=>exact qaw ⟨by trivial,by simp,rfl⟩)
theorem ltN {h:Heap}{a:Addr}{o:Obj} (e:h.get? a=some o):@LT.lt Nat _ a h.objs.size:=Heap.lt_size e
noncomputable abbrev tabO (ps:Array Value):Obj:={ cls:=.none,data:=.fields ps }
inductive TabE (C:Cx) (T:Addr):Prop
 | mk (c:Addr) (oc:Obj) (vs:Array Value) (file:Str) (tf:Tok) (flags:Int) (tg:Tok) (inF:Bool) (text:Int) (tt:Tok):C.env.code=.ref c→C.base.get? c=some oc→oc.cls=.type "code"→oc.data=.fields vs→vs[11]?=some (.ref T)→vs.getD 11 .none=.ref T→vs.getD 18 .none=.str file tf →
  vs.getD 7 .none=.int flags tg→vs.getD 9 .none=.bool inF→vs.getD 10 .none=.int text tt→c≠T→TabE C T
structure Tab (C:Cx) (T:Addr):Prop where
 ex:TabE C T
section
variable {C:Cx}{σ:AS}{n:Nat}{imm:List Cell}{s:Shared}
theorem Rel.withGens (R:Rel C σ imm s) {g:Array GenState} (hg:(∀ (i:Nat) (x:GenState),C.gens[i]?=some x→g[i]?=some x)∧AllBare g):Rel C σ imm ⟨s.heap,g,s.drawn,s.toks,s.os⟩:=by
 refine Rel.elim R fun m os kc fs R=>?_
 exact ⟨m,os,kc,fs,{ fr:=R.fr,nw:=R.nw,mu:=R.mu,kd:=R.kd,nd:=R.nd,ap:=R.ap,ah:=R.ah,hn:=R.hn,ou:=R.ou,nm:=R.nm,kn:=R.kn,va:=R.va,cc:=R.cc,gn:=hg,so:=R.so }⟩
theorem Rel.gns (R:Rel C σ imm s):(∀ (i:Nat) (x:GenState),C.gens[i]?=some x→s.gens[i]?=some x)∧AllBare s.gens:=by
 refine Rel.elim R fun m os kc fs R=>?_
 exact R.gn
theorem Rel.atRaw {a:Addr}{o:Obj} (R:Rel C σ imm s) (hm:(a,AO.raw o)∈σ.ms):s.heap.get? a=some o∧C.base.get? a=none:=by
 refine Rel.elim R fun m os kc fs R=>?_
 obtain ⟨o',ho,hx⟩:=R.mu.get hm
 cases hx
 exact ⟨(R.mem_os ho).1,(R.mem_os ho).2.2⟩
theorem Rel.table {ρ:List Slot}{m1 m2:List (Addr×AO)}{T:Addr}{ps ps':Array Value} (R:Rel C ⟨ρ,m1++(T,.raw (tabO ps))::m2⟩ imm s) {h':Heap} (hk:∀ b o,b≠T→s.heap.get? b=some o→h'.get? b=some o) (ht:h'.get? T=some (tabO ps'))
 {g:Array GenState} (hg:(∀ (i:Nat) (x:GenState),C.gens[i]?=some x→g[i]?=some x)∧AllBare g) {d:Drawn}{tk:Nat}:Rel C ⟨ρ,m1++(T,.raw (tabO ps'))::m2⟩ imm ⟨h',g,d,tk,s.os⟩:=by
 have h0:=(R.atRaw (mar _ (.head _))).1
 have h1:(s.heap.update T fun V=>tabO ps').get? T=some (tabO ps'):=Heap.get?_update_self (fun V=>tabO ps') h0 rfl
 have R1:=R.putMut (x':=.raw (tabO ps')) AOIs.raw h1 (Heap.SameBut.update _ _ _) (dr:=d) (tk:=tk)
 have R2:Rel C ⟨ρ,m1++(T,.raw (tabO ps'))::m2⟩ imm ⟨h',s.gens,d,tk,s.os⟩:=R1.grow fun b o e=>by
  by_cases hb:b=T
  ·subst hb
   have e:(s.heap.update b fun V=>tabO ps').get? b=some o:=e
   rw [h1] at e;cases e;exact ht
  ·exact hk b o hb ((Heap.get?_update_other _ _ (Ne.symm hb)).symm.trans e)
 exact R2.withGens hg
end
section
variable {M:Model}{A:Around}{E:Value→Shared→Prop}{s:Shared}
theorem qes {env:Env}{c T:Addr}{ps:Array Value}{pos:Pos}{qualname:Str}{scope:Scope}{Q:Value→Shared→Prop} (hc:env.code=.ref c) (hok:s.heap.IsCode c T ps) (htab:s.heap.TableAt c T ps)
 (hQ:∀ code h' tk ps',Heap.ExtBut T s.heap h'→s.heap.objs.size≤h'.objs.size→(∃ more,ps'=ps++more)→TriplesOk ps'.toList→h'.get? T=some (tabO ps')→Q code { s with heap:=h',toks:=tk }) :
 wpAny M A (genexprCode env pos qualname scope) Q E s:=by
 cases hnf:codeAmong pos ps.toList with
 | none=>exact wpAny_genexprCodeX hc hok htab hnf fun c' h' tk hx hge hlt hcode V ht V=>hQ _ h' tk _ hx (by lia) ⟨_,rfl⟩ (by obtain ⟨_,_,_,_,_,_,_,_,_,_,_,_,_,_,_,_,_,_,_,h,_⟩:=hcode;exact h) ht.2
 | some cv =>
  obtain ⟨o,vs,file,tf,flags,tg,inF,text,tt,op,ho,hd,h11,h2,h7,h9,h10,hop,hpd,htr,hne⟩:=id hok
  unfold genexprCode codeAt
  rw [hc,if_neg (show ¬ ((Value.ref c == Value.none)=true) from bft)]
  refine wpAny_bind (wpAny_fieldsOf ho hd ?_)
  rw [h11]
  refine wpAny_bind (wpAny_fieldsOf hop hpd ?_)
  rw [hnf]
  exact wpAny_pure (hQ cv s.heap s.toks ps (Heap.ExtBut.refl _ _) (Nat.le_refl _) ⟨#[],by simp⟩ htr htab.2)
end
theorem DAll.ofGet {imm:List Cell}:∀ {vs:List Value}{ds:List D},vs.length=ds.length→(∀ (j:Nat) (v:Value) (d:D),vs[j]?=some v→ds[j]?=some d→DIn imm v d)→DAll imm vs ds
 | [],[],_,_=>.nil
 | [],_::_,h,_=>by simp at h
 | _::_,[],h,_=>by simp at h
 | v::vs,d::ds,h,k=>.cons (k 0 v d rfl rfl) (DAll.ofGet (by simpa using h) fun j v d h1 h2=>k (j+1) v d (by simpa using h1) (by simpa using h2))
section
variable {C:Cx}{n:Nat}{imm:List Cell}{s:Shared}
theorem builtins_go (O:Ok C n) (hk:∀ b o,C.base.get? b=some o→s.heap.get? b=some o) {M:Model}{A:Around}{E:Value→Shared→Prop}{Q:Addr→Shared→Prop} (h:Q builtinsNs s):wpAny M A (builtinsFor C.env.globals C.env.builtins) Q E s:=by
 obtain ⟨p,loose,mg,mb,TT⟩:=O.top
 have e:mg "__builtins__"=some (.ref 4):=mg_of O.kin TT.g (by kernel_rfl)
 have h4:s.heap.get? 4=some (PySem.W.boot_o_4 C.w.params):=hk _ _ (O.kin _ _ (by kernel_rfl))
 refine wpAny_builtinsFor (by rw [O.gl];exact TT.g.keeps hk) e (by decide) h4 (by kernel_rfl) (by kernel_rfl) (by kernel_rfl) h
theorem starGen {a:Expr}{b:List Comprehension}{c:Scope}{d:Pos}{env:Env}:starEach [.GeneratorExp a b c d] env=[(false,eval (.GeneratorExp a b c d) env)]:=rfl
theorem joinBase {k:Nat}{cp:Pos}{env:Env}:attributeBase (.Constant (.bytes []) k cp) "join" env (eval (.Constant (.bytes []) k cp) env)=eval (.Constant (.bytes []) k cp) env:=rfl
theorem XM_joinGen {ρ:List Slot}{ms m1 m2:List (Addr×AO)}{T l:Addr}{ps:Array Value}{ds:List D}{kss:List (List Int)}{iter:Expr}{y attr:Str}{k:Nat}{cp apos pos px yp ap gp:Pos}{scope:Scope}{cl:List (Str×Addr)}{K:D→AS→Prop}{E:Value→Shared→Prop}
 (O:Ok C (n+1)) (TB:Tab C T) (hms:ms=m1++(T,.raw (tabO ps))::m2) (htr:TriplesOk ps.toList) (hi:X C ⟨ρ,ms⟩ iter (.val (.ref l))) (hl:(l,AO.lst ds)∈ms) (hlen:ds.length=kss.length) (hn:ds.length≤1000) (hz:kss.flatten.length≤16777216)
 (hds:∀ (i:Nat) (d:D),ds[i]?=some d→∃ x Cc dx fs ks,d=.val (.ref x)∧(x,AO.inst Cc dx)∈ms∧(dx,AO.dict fs)∈ms∧fs.lookup attr=some (.bytes ks)∧kss[i]?=some ks∧ownA C.w.params Cc attr=true)
 (hco:scope.isCoroutine=false) (hclos:closureFor scope C.env=pure cl) (hcell:∀ z∈scope.names,z.2≠.cell) (h0:scope.names.lookup (".0":Str)=some NameKind.local) (hy:scope.names.lookup y=some .local) (hkind:scope.kind=.function)
 (hfold:∀ x,genFold iter C.env x=pure x) (hline:(apos.endLine == pos.line)=true) (hny:(y == ("__debug__":Str))=false)
 (kk:∀ ps',TriplesOk ps'.toList→(∃ more,ps'=ps++more)→K (.bytes kss.flatten) ⟨ρ,m1++(T,.raw (tabO ps'))::m2⟩) :
 XM C ⟨ρ,ms⟩ (.Call (.Attribute (.Constant (.bytes []) k cp) "join" apos) [.GeneratorExp (.Attribute (.Name y yp) attr ap) [⟨.Name y px,iter,[],0⟩] scope gp] [] pos) K E:=.mk fun imm s R=>by
 with_reducible refine Call_method1 joinBase starGen hline ?_
 refine (qf4 (C:=C) (σ:=⟨ρ,ms⟩) (ks:=[]) rfl).go imm s R _ _ fun v i1 s1 hs1 R1 hv=>?_
 refine DIn.eB hv fun b t e0=>?_
 have hb:b=#[]:=bI_inj (e0.trans rfl)
 subst hb
 refine ⟨"bytes","bytes.join",FB.plainAttrs_bytes,FJ.slot_join,FJ.type_join,typeIs_bytes _ _ _,(fun V e=>nomatch e),?_⟩
 refine Calls.callWith_builtin rfl ?_
 refine evalArgs_plain ?_
 refine spliced_cons ?_
 refine wpAny_GeneratorExp_walksQ O.hn hco hclos hcell h0 hy hkind (by have:=O.dep;lia) ?_ hfold
 refine hi.goV i1 s1 R1 _ _ fun i2 s2 hs2 R2=>?_
 obtain ⟨vs,hpl,hall⟩:=R2.own hl
 obtain ⟨ol,nl,hol,hcl,_,hdl⟩:=hpl
 have hl2:s2.heap.IsList l vs.toArray:=⟨ol,hol,hcl,nl,hdl⟩
 refine wpAny_pyIter_list hl2 ?_
 obtain ⟨p,loose,mg,mb,TT⟩:=O.top
 have hT2:=R2.atRaw (a:=T) (o:=tabO ps) (by rw [hms];exact mar _ (.head _))
 have bk2:=R2.base_keep
 obtain ⟨c,oc,cvs,file,tf,flags,tg,inF,text,tt,hcd,hcb,hcc,hcv,hc11,hc11',hc18,hc7,hc9,hc10,hcT⟩:=TB.ex
 have hab:C.base.objs.size≤s2.heap.objs.size:=by
  refine Rel.elim R2 fun m os kc fs RX=>?_
  exact Nat.le_trans RX.fr.above (Nat.le_of_lt (by obtain ⟨o,_,_,ho,_⟩:=RX.fr.ns;exact Heap.lt_size ho))
 generalize hIa:s2.heap.objs.size=I at *
 generalize hOI:({ cls:=.type "list_iterator",data:=.fields #[.ref l,.int 0 0] }:Obj)=oI
 have kp3:∀ b o,s2.heap.get? b=some o→(s2.heap.push oI).get? b=some o:=fun b o e=>Heap.get?_push_of_some _ e
 have sz3:(s2.heap.push oI).objs.size=I+1:=by rw [Heap.size_push,hIa]
 have hTI:@LT.lt Nat _ T I:=by have:=ltN hT2.1;lia
 refine ⟨(TT.nolimit.keeps bk2).keeps kp3,?_⟩
 have hcode:(s2.heap.push oI).IsCode c T ps:=⟨oc,cvs,file,tf,flags,tg,inF,text,tt,tabO ps,kp3 _ _ (bk2 _ _ hcb),hcv,hc11',hc18,hc7,hc9,hc10,kp3 _ _ hT2.1,rfl,htr,hcT⟩
 refine qes hcd hcode ⟨⟨oc,cvs,kp3 _ _ (bk2 _ _ hcb),hcc,hcv,hc11⟩,kp3 _ _ hT2.1⟩ fun code h4 tk4 ps' hx4 hge4 hmore htr4 ht4=>?_
 have kp4:∀ b o,b≠T→s2.heap.get? b=some o→h4.get? b=some o:=fun b o hb e=>hx4 b o hb (kp3 b o e)
 have bk4:∀ b o,C.base.get? b=some o→h4.get? b=some o:=fun b o e=>kp4 b o (fun q=>by rw [q,hT2.2] at e;cases e) (bk2 b o e)
 have sz4:I+1≤h4.objs.size:=by have:(s2.heap.push oI).objs.size≤h4.objs.size:=hge4;lia
 refine builtins_go O (s:=⟨h4,s2.gens,s2.drawn,tk4,s2.os⟩) bk4 ?_
 have hlI:l≠I:=fun q=>by have:=ltN hol;rw [hIa,q] at this;exact Nat.lt_irrefl _ this
 have hlT:l≠T:=fun q=>by rw [q,hT2.1] at hol;cases hol;cases hcl
 have hcs:cStatics<C.base.objs.size:=by obtain ⟨_,hn,_⟩:=TT.nolimit;exact hn.lt
 have hvl:vs.length=ds.length:=hall.length
 refine ⟨I,[I,l],[I],vs.toArray.size,(fun i v=>vs.toArray[i]?=some v),(fun i h=>h.IsListIter I l i∧h.IsList l vs.toArray),(fun V=>true),(fun i v=>∃ b u,v=.bytes b u∧kss[i]?=some (bI b)),rfl,(fun A' hA=>Walks.list hA I l hlI vs.toArray),?_,?_,TT.nolimit.keeps bk4,?_,?_,?_⟩
 ·refine ⟨⟨oI,?_,by rw [← hOI],by rw [← hOI];rfl⟩,⟨ol,kp4 _ _ hlT hol,hcl,nl,hdl⟩⟩
  refine hx4 _ _ (fun q=>by rw [q] at hTI;exact Nat.lt_irrefl _ hTI) ?_
  rw [← hIa];exact Heap.get?_push_size _ (by rw [← hOI];rfl)
 ·intro b hb
  show @LT.lt Nat _ b h4.objs.size
  rcases mcj hb with rfl | hb
  ·lia
  ·rw [msj hb];have:=ltN hol;lia
 ·intro h
  have:=msj h
  have h1:@LT.lt Nat _ cStatics C.base.objs.size:=hcs
  rw [this] at h1
  lia
 ·intro href hh
  refine ⟨fun A' E' i v s₂ m₂ V V V V V=>wpAny_pure ⟨rfl,⟨s₂.heap,s₂.toks,rfl,fun V V e=>e⟩⟩,fun A' E' i v s₂ m₂ hA hP V hns hm hkp=>?_⟩
  have hP:vs[i]?=some v:=by simpa using hP
  obtain ⟨d,hd,hvd⟩:=hall.getV hP
  obtain ⟨x,Cc,dx,fs,ks,rfl,hx,hdx,hf,hks,ho⟩:=hds i d hd
  have hvq:=hvd.vEq
  subst hvq
  obtain ⟨es,kk1,hF,I1⟩:=R2.inst hx hdx
  obtain ⟨w',hw',hwd⟩:=hF.some hf
  have kp:∀ b o,b≠T→s2.heap.get? b=some o→s₂.heap.get? b=some o:=fun b o hb e=>by
   have hlt:=ltN e
   exact hkp b (List.mem_range.mpr (by show @LT.lt Nat _ b h4.objs.size;lia)) (fun q=>by rw [msj q] at hlt;lia) o (hh b o (kp4 b o hb e))
  have xT:∀ {a:Addr}{ob:Obj},s2.heap.get? a=some ob→ob.cls≠.none→a≠T:=fun {a ob} h hc q=>by rw [q,hT2.1] at h;cases h;exact hc rfl
  obtain ⟨j1,j2,j3,j4⟩:=I1
  have I2:InstAt s₂.heap x (instObj Cc dx) Cc (some (dictOf es kk1)):=⟨kp _ _ (xT j1 (by simp [instObj])) j1,j2,j3,kp _ _ (xT j4 (by simp [dictOf])) j4⟩
  have F2:Fr C.base h4.objs.size s₂.heap m₂:=⟨hns,fun b o e=>kp b o (fun q=>by rw [q,hT2.2] at e;cases e) (bk2 b o e),by lia⟩
  unfold ownA at ho
  rw [Bool.and_eq_true,Bool.and_eq_true] at ho
  obtain ⟨⟨o1,o2⟩,o3⟩:=ho
  refine qgl (C:={ C with env:=genEnv scope cl h4.objs.size code builtinsNs C.env,A:=A' }) (a:=x) rfl ?_
  refine wpAny_Name (wpAny_loadName_local hkind hy hns hm ⟨rfl,?_⟩) hny
  split at o3
  ·rename_i a hfa
   refine get_own F2 O.kin I2 o1 o2 hfa o3 hw' ?_ ?_
   ·exact DIn.eB hwd fun V V V=>rfl
   ·refine DIn.eB hwd fun V V e=>?_
    exact ⟨⟨_,_,rfl,by rw [hks,e]⟩,⟨s₂.heap,_,rfl,fun V V e=>e⟩⟩
  ·cases o3
 ·intro a h₅ tk gs hgb hlt hsz hk₅ W hat
  have hall2:(passing (fun V=>true) vs.toArray.size 0)=List.range vs.length:=by unfold passing;simp
  rw [hall2] at W
  refine spliced_nil ?_
  refine wpAny_call_entry FJ.slot_join (typeIs_bytes _ _ _) FJ.entry_join (FJ.join_treeG ?_) (FJ.args_join_2 _ _)
  have hlt:@LT.lt Nat _ h4.objs.size a:=hlt
  have W1:=WalksS.in4_1 W
  have W3:WalksS C.prog C.w C.A.in1.in1.in1 a _ _ _ _ _ _:=WalksS.of_in1 (A:=C.A.in1.in1.in1) W
  show wpAny _ _ (do
   let t ← typeOf (.ref a)
   if t == .type "list" || t == .type "tuple" then return (.ref a)
   let iter ← (pyIter (.ref a)).tryCatch fun e=>do
    if ← isInstance e (.type "TypeError") then rule "bytes.join.not-iterable";raiseError "TypeError" "can only join an iterable"
    else throw e
   call (.type "list") [iter]) _ _ _
  refine wpAny_bind (wpAny_typeOf hat.1.typeIs ?_)
  rw [if_neg (by decide)]
  refine wpAny_bind (wpAny_tryCatch (W1.self _ _ _ _ hat ?_))
  refine call_list_gen (A:=C.A.in1) W3 (fun i s' st=>st.1.typeIs) hat ?_ (List.mem_cons_self) (fun s' acc' c' hm hS hit=>?_) ?_
  ·intro b hb
   show @LT.lt Nat _ b h₅.objs.size
   rcases mcj hb with rfl | hb
   ·lia
   ·rcases mcj hb with rfl | hb
    ·show @LT.lt Nat _ h4.objs.size _;lia
    ·have:@LT.lt Nat _ b h4.objs.size:=List.mem_range.mp hb;lia
  ·have hal:acc'.toList.length=kss.length:=by rw [Array.length_toList,hit.1,List.length_range,hvl,hlen]
   have hA:DAll [] acc'.toList (kss.map D.bytes):=DAll.ofGet (by rw [lem,hal]) fun j v d h1 h2=>by
    obtain ⟨i,hj,b,u,rfl,hb⟩:=hit.2 j v (by rw [← Array.getElem?_toList];exact h1)
    have hij:i=j:=by
     rw [List.getElem?_range (by have:=(List.getElem?_eq_some_iff.mp hj).1;simpa using this)] at hj
     exact (Option.some.inj hj).symm
    subst hij
    rw [List.getElem?_map,hb] at h2
    cases h2
    exact .bytes rfl
   obtain ⟨bs,hbs,e1⟩:=bytesAre hA
   have ef:((bs.map Array.toList).flatten).length=kss.flatten.length:=by rw [← e1,qgb,lem]
   refine ⟨_,acc'.toList,bs,rfl,⟨_,hS,rfl,c',by simp⟩,hbs,by rw [ef];exact hz,fun t' k' r hr=>⟨_,rfl,?_⟩⟩
   have nw:∀ b:Nat,b<I→b ∉ (h₅.objs.size::h4.objs.size::[I]):=fun b hb hm=>by
    rcases mcj hm with q | hm
    ·lia
    ·rcases mcj hm with q | hm
     ·lia
     ·have:=msj hm;lia
   have keepF:∀ b o,b≠T→s2.heap.get? b=some o→s'.heap.get? b=some o:=fun b o hb e =>
    hm.heap b o (nw b (by have:=ltN e;lia)) (Heap.get?_push_of_some _ (hk₅ b o (kp4 b o hb e)))
   have tabF:s'.heap.get? T=some (tabO ps'):=hm.heap T _ (nw T hTI) (Heap.get?_push_of_some _ (hk₅ _ _ ht4))
   have g2:=R2.gns
   have gF:(∀ (i:Nat) (x:GenState),C.gens[i]?=some x→s'.gens[i]?=some x)∧AllBare s'.gens:=by
    have gm:GenOnlyQ s2.gens.size (s2.gens.push gs) s'.gens:=hm.gens
    refine ⟨fun i x hx=>?_,gm.bare (AllBare.push g2.2 hgb)⟩
    have hxi:=g2.1 i x hx
    have hlt:i<s2.gens.size:=(Array.getElem?_eq_some_iff.mp hxi).1
    have hp:(s2.gens.push gs)[i]?=some x:=by rw [Array.getElem?_push_lt hlt];rw [← hxi];exact (Array.getElem?_eq_getElem hlt).symm
    rcases gm with q | ⟨⟨_,q⟩,_⟩
    ·rw [q];exact hp
    ·rw [q i (by lia)];exact hp
   have R2':Rel C ⟨ρ,m1++(T,.raw (tabO ps))::m2⟩ i2 s2:=by rw [← hms];exact R2
   have RF:=R2'.table keepF tabF gF (d:=s'.drawn) (tk:=k')
   have eo:s'.os=s2.os:=hm.os
   rw [← eo] at RF
   refine ⟨.bytes kss.flatten,_,i2,qa0 hs1 hs2,RF,.bytes ?_,kk ps' htr4 hmore⟩
   show r.toList.map (fun c=>(c.toNat:Int))=_
   rw [hr,← qgb,e1]
  ·rw [List.length_range];unfold sizeLine;lia
end
def Turn (M:Model) (A:Around) (c:Code) (t:Sem Fin) (fs:List Frame) (s:Shared) (Φ:End→Shared→Prop):Prop :=
 ∀ (Γ:PySem.Ctx) (p:Pos),Γ.code=c→Γ.Woken A→qdo Γ→∃ e s',Runs M Γ p t fs s e s'∧Φ e s'
def qbq (fs:List Frame):Prop:=∀ F∈fs,qak F.where_.1=false
theorem qdo.over {Γ:PySem.Ctx} (h:qdo Γ) {fs:List Frame} (hp:qbq fs):qdo (Γ.over fs):=⟨h.1,fun q hq=>by
 have hq:q∈fs.map Frame.where_++Γ.below:=hq
 rcases maj hq with hq | hq
 ·obtain ⟨F,hF,rfl⟩:=mmj hq
  exact hp F hF
 ·exact h.2 q hq⟩
section
variable {M:Model}{A:Around}{c:Code}{fs:List Frame}{s:Shared}{Φ:End→Shared→Prop}
theorem qaz {α:Type}{m:Sem α}{K:α→Sem Fin}{H:Value→Sem Fin}{gd lv} (hp:qbq fs) (h:wpC M (A.over c fs) m (fun a s'=>Turn M A c (K a) fs s' Φ) (fun x s'=>Turn M A c (H x) fs s' Φ) s):Turn M A c (m.wrap K H gd lv) fs s Φ:=by
 rintro Γ p rfl hΓ hc
 exact runs_wrap_of_wp K H gd lv m (h (Γ.over fs) p (hΓ.over fs) (hc.over hp)) (fun a p' s' h'=>h' Γ p' rfl hΓ hc) (fun x p' s' h'=>h' Γ p' rfl hΓ hc)
theorem qfz {p':Pos}{k:Unit→Sem Fin} (hp:qbq fs) (h:Turn M A c (k ()) fs s Φ):Turn M A c (.at p' k) fs s Φ :=
 qaz (m:=standAt p') (K:=k) (H:=.raise) (gd:=id) (lv:=id) hp (qap (wpAny_standAt h))
theorem turn_point {l:List Value}{k:Unit→Sem Fin} (hp:qbq fs) (h:Turn M A c (k ()) fs s Φ):Turn M A c (.point l k) fs s Φ :=
 qaz (m:=point) (K:=k) (H:=.raise) (gd:=id) (lv:=fun V=>l) hp (qap (wpAny_point h))
theorem turn_call {c':Code}{h g l}{k:Result→Sem Fin} (hd:qak c'=false) (hc:∀ p,Turn M A c' (M.den c') (.ret k h g l c p []::fs) s Φ):Turn M A c (.call c' h g l k) fs s Φ:=by
 rintro Γ p rfl hΓ hcl
 obtain ⟨e,s',hr,he⟩:=hc p (Γ.goto c') p rfl (hΓ.goto c') (hcl.goto hd)
 exact ⟨e,s',runs_call_seg hr,he⟩
theorem qgt {k h g l c₁ p₁ kp} (r:Result) (hd:qak c₁=false) (hk:Turn M A c₁ (k r) fs s Φ):Turn M A c (leafOf r) (.ret k h g l c₁ p₁ kp::fs) s Φ:=by
 rintro Γ p rfl hΓ hcl
 obtain ⟨e,s',hr,he⟩:=hk (Γ.goto c₁) p₁ rfl (hΓ.goto c₁) (hcl.goto hd)
 exact ⟨e,s',Runs.pop r hr,he⟩
theorem qfi {c':Code} (hq:c'.quiet=true) (hd:qak c'=false) (hc:Turn M A c' (M.den c') fs s Φ):Turn M A c (.pure (.again c')) fs s Φ:=by
 rintro Γ p rfl hΓ hcl
 obtain ⟨e,s',hr,he⟩:=hc (Γ.goto c') p rfl (hΓ.goto c') (hcl.goto hd)
 exact ⟨e,s',Runs.head (c₁:=c') (fun V V x=>.again hq x) hr,he⟩
theorem turn_end (r:Result) (h:Φ (.ret r) s):Turn M A c (leafOf r) [] s Φ:=by
 rintro Γ p rfl _ _
 exact ⟨.ret r,s,Runs.leaf r,h⟩
theorem turn_yield {v g l}{k:Resume→Sem Fin} (hfs:splitAtGen fs=none) (h:∀ p,Φ (.susp v g l k c p fs) s):Turn M A c (.yield v g l k) fs s Φ:=by
 rintro Γ p rfl _ _
 exact ⟨_,s,Runs.yield' fs hfs,h p⟩
def GoT (M:Model) (A:Around) (gs:GenState) (s:Shared) (Φ:End→Shared→Prop):Prop :=
 match gs with
 | .fresh c=>qak c=false∧Turn M A c (M.den c) [] s Φ
 | .suspended k _ c _ fs _=>qak c=false∧Turn M A c (k (.send .none)) fs s Φ
 | _=>False
theorem wpC_resume {g:Nat}{gs:GenState}{l:List Value}{α:Type}{k:GenResult→Sem α}{Q:α→Shared→Prop}{E:Value→Shared→Prop} (hg:s.gens[g]?=some gs) (hgo:GoT M A gs (s.setGen g .running) Φ)
 (fin:∀ e s1,Φ e s1→e.quiet=true∧wpC M A (k e.result) Q E (s1.setGen g e.genState)):wpC M A (.resume g (.send .none) l k) Q E s:=by
 intro Γ p hΓ hcl
 rw [Sem.wp_resume]
 have cl:∀ c,qak c=false→qdo (Γ.wake c p):=fun c hd=>⟨hd,fun q hq=>by
  rcases mcj hq with e | hq
  ·rw [e];exact hcl.1
  ·exact hcl.2 q hq⟩
 cases gs with
 | fresh c =>
  obtain ⟨hd,hs⟩:=hgo
  obtain ⟨e₁,s₁,hr,he⟩:=hs (Γ.wake c p) p rfl (hΓ.wake c p) (cl c hd)
  obtain ⟨h1,h2⟩:=fin e₁ s₁ he
  exact ⟨_,_,by unfold Wakes;rw [hg];exact ⟨e₁,s₁,hr,h1,rfl,rfl⟩,h2 Γ p hΓ hcl⟩
 | suspended k₀ l₀ c₀ p₀ fs₀ cl₀ =>
  obtain ⟨hd,hs⟩:=hgo
  obtain ⟨e₁,s₁,hr,he⟩:=hs (Γ.wake c₀ p) p₀ rfl (hΓ.wake c₀ p) (cl c₀ hd)
  obtain ⟨h1,h2⟩:=fin e₁ s₁ he
  exact ⟨_,_,by unfold Wakes;rw [hg];exact ⟨e₁,s₁,hr,h1,rfl,rfl⟩,h2 Γ p hΓ hcl⟩
 | running=>exact hgo.elim
 | finished=>exact hgo.elim
end
section
variable {prog:Program}{w:World}{A:Around}{fs:List Frame}{s:Shared}{Φ:End→Shared→Prop}{env:Env}{K:Flow→Sem Fin}{H:Value→Sem Fin}{c:Code}{gd:Bool→Bool}{lv:List Value→List Value}
theorem qc5 {M:Model}{st:Stmt}{rest:List Stmt} (h:Turn M A c ((exec st env).wrap (fun f=>match f with | .next=>(execs rest env).wrap K H gd lv | f=>K f) H gd lv) fs s Φ):Turn M A c ((execs (st::rest) env).wrap K H gd lv) fs s Φ:=by
 rw [execs_cons_wrap];exact h
theorem qfy {M:Model} (h:Turn M A c (K .next) fs s Φ):Turn M A c ((execs [] env).wrap K H gd lv) fs s Φ:=h
theorem turn_if {M:Model}{test:Expr}{body orelse:List Stmt}{pos:Pos} (hp:qbq fs) (h:wpAny M (A.over c fs) (isTrue test env (eval test env)) (fun b s'=>Turn M A c ((execs (if b=true then body else orelse) env).wrap K H gd lv) fs s' Φ) (fun x s'=>Turn M A c (H x) fs s' Φ) s) :
 Turn M A c ((exec (.If test body orelse pos) env).wrap K H gd lv) fs s Φ:=by
 rw [exec_If]
 show Turn M A c (.at pos fun V=>(isTrue test env (eval test env) >>= fun b=>if b=true then execs body env else execs orelse env).wrap K H gd lv) fs s Φ
 refine qfz hp ?_
 rw [Sem.bind_eq_wrap',Sem.wrap_wrap]
 refine qaz hp (qap (wpAny_mono h (fun b s' h'=>?_) fun V V x=>x))
 cases b <;> exact h'
theorem qf8 {M:Model}{e:Expr}{ypos pos:Pos} (hp:qbq fs) (hfs:splitAtGen fs=none)
 (h:wpAny M (A.over c fs) (eval e env) (fun v s'=>∀ (k:Resume→Sem Fin) (p:Pos) (l:List Value),(∀ s'' Ψ,Turn M A c (K .next) fs s'' Ψ→Turn M A c (k (.send .none)) fs s'' Ψ)→Φ (.susp v (gd false) l k c p fs) s') (fun x s'=>Turn M A c (H x) fs s' Φ) s)
 (hco:env.scope.isCoroutine=false) (hi:interactive env=false):Turn M A c ((exec (.Expr (.Yield (some e) ypos) pos) env).wrap K H gd lv) fs s Φ:=by
 rw [exec_Expr env _ pos hi rfl]
 show Turn M A c (.at pos fun V=>((eval e env >>= fun v=>(standAt ypos >>= fun V=>yieldOut env v)) >>= fun x=>dropValue (.Yield (some e) ypos) pos x).wrap K H gd lv) fs s Φ
 have hy:∀ v,yieldOut env v=yieldValue v:=fun v=>by simp only [yieldOut,hco,Bool.false_eq_true,if_false]
 simp only [hy]
 refine qfz hp ?_
 rw [Sem.bind_eq_wrap',Sem.bind_eq_wrap',Sem.wrap_wrap,Sem.wrap_wrap]
 refine qaz hp (qap (wpAny_mono h (fun v s' h'=>?_) fun V V x=>x))
 refine qfz hp (turn_yield hfs fun p=>?_)
 exact h' _ p _ fun s'' Ψ x=>x
theorem turn_while {M:Model}{test:Expr}{body orelse:List Stmt}{pos:Pos} (hp:qbq fs)
 (h:∀ p,Turn M A (.whileLoop test body orelse env) (M.den (.whileLoop test body orelse env))
  (.ret (fun r=>((match r with | .ok f=>(.pure f:Sem Flow) | .error e=>.raise e).onRaise fun (x:Value)=>do
   if (← field x 1) == Value.none then unsupported "frame.own-activation:exception-without-traceback"
   setFlight x env.frame).wrap K H gd lv) none (gd false) (lv []) c p []::fs) s Φ) :
 Turn M A c ((exec (.While test body orelse pos) env).wrap K H gd lv) fs s Φ:=qfz hp (turn_call rfl h)
theorem qd3 {test:Expr}{body:List Stmt} (hp:qbq fs)
 (h:wpAny (model prog w) (A.over (.whileLoop test body [] env) fs) (isTrue test env (eval test env)) (fun b s' =>
  if b=true then
   Turn (model prog w) A (.whileLoop test body [] env) ((execs body env).wrap (fun f=>match f with
    | .next | .cont=>.pure (.again (.whileLoop test body [] env))
    | .brk=>.pure (.done .next)
    | .ret v=>.pure (.done (.ret v))) (fun e=>(do noteFrame e env;theTreesLotGoes e:Sem Unit).wrap (fun V=>.raise e) .raise id id) id id) fs s' Φ
  else Turn (model prog w) A (.whileLoop test body [] env) (.pure (.done .next)) fs s' Φ)
  (fun x s'=>Turn (model prog w) A (.whileLoop test body [] env) ((do noteFrame x env;theTreesLotGoes x:Sem Unit).wrap (fun V=>.raise x) .raise id id) fs s' Φ) s) :
 Turn (model prog w) A (.whileLoop test body [] env) ((model prog w).den (.whileLoop test body [] env)) fs s Φ:=by
 show Turn _ A _ ((whileTurn test body [] env).onRaise (fun x=>do noteFrame x env;theTreesLotGoes x)) fs s Φ
 unfold whileTurn
 rw [Sem.onRaise_eq_wrap,Sem.bind_eq_wrap',Sem.wrap_wrap]
 refine qaz hp (qap (wpAny_mono h (fun b s' hb=>?_) fun x s' hx=>?_))
 ·cases b with
  | true =>
   rw [if_pos rfl] at hb
   show Turn _ A _ (Sem.wrap _ _ _ _ (if true=true then _ else _)) fs s' Φ
   rw [if_pos rfl,Sem.bind_eq_wrap',Sem.wrap_wrap]
   rw [Sem.wrap_congr (execs body env) _ _ (K':=fun f=>match f with
    | .next | .cont=>.pure (.again (.whileLoop test body [] env))
    | .brk=>.pure (.done .next)
    | .ret v=>.pure (.done (.ret v))) (H':=(fun e=>(do noteFrame e env;theTreesLotGoes e:Sem Unit).wrap (fun V=>.raise e) .raise id id))
    (fun f=>by cases f <;> rfl)
    (fun e=>by first | exact Sem.bind_eq_wrap _ _ | (show (do noteFrame e env;theTreesLotGoes e:Sem Unit).bind (fun V=>.raise e)=_;rw [Sem.bind_eq_wrap]))]
   exact hb
  | false =>
   rw [if_neg bft] at hb
   exact hb
 ·first
   | (rw [← Sem.bind_eq_wrap] at hx;exact hx)
   | (show Turn _ A _ ((do noteFrame x env;theTreesLotGoes x:Sem Unit).bind fun V=>.raise x) fs s' Φ;rw [Sem.bind_eq_wrap];exact hx)
theorem turn_func {body:List Stmt} (hp:qbq fs)
 (h:Turn (model prog w) A (.func body env) ((execs body env).wrap (fun f=>.pure (.done (.ret (match f with | .ret v=>v | _=>.none)))) (fun e=>(leaving env e).wrap (fun V=>.raise e) .raise id id) id id) fs s Φ) :
 Turn (model prog w) A (.func body env) ((model prog w).den (.func body env)) fs s Φ:=by
 show Turn _ A _ (.point [] fun V=>((execs body env).onRaise (leaving env)) >>= _) fs s Φ
 refine turn_point hp ?_
 rw [Sem.onRaise_eq_wrap,Sem.bind_eq_wrap',Sem.wrap_wrap]
 rw [Sem.wrap_congr (execs body env) _ _ (K':=fun f=>.pure (.done (.ret (match f with | .ret v=>v | _=>.none))))
  (H':=fun e=>(leaving env e).wrap (fun V=>.raise e) .raise id id) (fun f=>by cases f <;> rfl)
  (fun e=>by rw [Sem.bind_eq_wrap,Sem.wrap_wrap];rfl)]
 exact h
end
section
variable {imm:List Cell}{s:Shared}{ms:List (Addr×AO)}{ρ1 ρ2:List Slot}
theorem swap_perm {α:Type} (o k1 f k2 h:List α) (a b:α):(a::((o++k1)++((b::f)++(k2++h)))).Perm (b::((o++k2)++((a::f)++(k1++h)))):=by
 have p1:((o++k1)++((b::f)++(k2++h))).Perm (b::(o++(k2++(f++(k1++h))))):=by
  have:((o++k1)++((b::f)++(k2++h)))=(o++k1)++b::(f++(k2++h)):=rfl
  rw [this]
  refine List.perm_middle.trans (.cons _ ?_)
  rw [laa]
  refine List.Perm.append_left _ ?_
  have e1:(k1++(f++(k2++h))).Perm (k2++(k1++(f++h))):=by
   have:(f++(k2++h)).Perm (k2++(f++h)):=List.perm_append_comm_assoc _ _ _
   exact (List.Perm.append_left _ this).trans (List.perm_append_comm_assoc _ _ _)
  have e2:(k1++(f++h)).Perm (f++(k1++h)):=List.perm_append_comm_assoc _ _ _
  exact e1.trans (List.Perm.append_left _ e2)
 have p2:((o++k2)++((a::f)++(k1++h))).Perm (a::(o++(k2++(f++(k1++h))))):=by
  have:((o++k2)++((a::f)++(k1++h)))=(o++k2)++a::(f++(k1++h)):=rfl
  rw [this]
  refine List.perm_middle.trans (.cons _ ?_)
  rw [laa]
 exact (p1.cons a).trans ((List.Perm.swap b a _).trans (p2.symm.cons b))
theorem swapX {C1 C2:Cx}{m1 m2:Str→Option Value}{os kc1 kc2 fs H:List Cell}{o1 o2:Obj}{outs:List (Addr×(Str→Option Value))}{gg:Array GenState}
 (R:RelX C1 ⟨ρ1,ms⟩ imm s m1 os kc1 ((C2.env.locals,o2)::fs)) (h1:C1.hid=kc2++H) (h2:C2.hid=kc1++H) (u1:C1.outs=(C2.env.locals,m2)::outs) (u2:C2.outs=(C1.env.locals,m1)::outs)
 (eb:C2.base=C1.base) (eo:C2.os=C1.os) (ep:C2.prog=C1.prog) (ew:C2.w=C1.w) (ab:C1.base.objs.size≤C2.env.locals) (ho1:s.heap.get? C1.env.locals=some o1) (hkd:∀ p∈kc2,∃ v,p.2.data=.cell v)
 (gn:(∀ (i:Nat) (g:GenState),C2.gens[i]?=some g→gg[i]?=some g)∧AllBare gg)
 (nm:(ρ2.map (·.name)).Nodup) (kn:∀ p∈ρ2,C2.env.kindOf p.name=some p.kind) (va:∀ p∈ρ2,∀ d,p.val=some d→qf5 C2.env C2.cap m2 imm kc2 p.name p.kind d)
 (cc:∀ p∈ρ2,p.kind=.cell→∃ c o,C2.env.cells.lookup p.name=some c∧((c,o)∈kc2∨(c,o)∈C2.cap)) {d:Drawn}{tk:Nat} :
 RelX C2 ⟨ρ2,ms⟩ imm ⟨s.heap,gg,d,tk,s.os⟩ m2 os kc2 ((C1.env.locals,o1)::fs):=by
 have hb1:C1.base.get? C1.env.locals=none:=by
  cases hq:C1.base.get? C1.env.locals with
  | none=>rfl
  | some o=>exact absurd (Heap.lt_size hq) (Nat.not_lt.mpr R.fr.above)
 have ou:=R.ou
 rw [u1] at ou
 cases ou with | cons hN ou =>
 have A2:=R.mem_fs (.head _)
 have nw1:∀ q∈(os++kc1)++(((C2.env.locals,o2)::fs)++(kc2++H)),q.1≠C1.env.locals:=fun q hq=>by
  refine (R.nw q ?_).2.1
  rw [h1]
  rcases maj hq with h | h
  ·rcases maj h with h | h
   ·exact mal _ h
   ·exact mar _ (mal _ h)
  ·exact mar _ (mar _ (mar _ h))
 have nd1:(((C1.env.locals,o1)::((os++kc1)++(((C2.env.locals,o2)::fs)++(kc2++H)))).map (·.1)).Nodup:=by
  rw [lmc,List.nodup_cons]
  refine ⟨fun h=>?_,?_⟩
  ·obtain ⟨q,hq,e⟩:=mmj h
   exact nw1 q hq e
  ·rw [lma,List.nodup_append]
   have hn:=R.hn
   rw [h1] at hn
   refine ⟨R.nd,hn,fun a ha b hb e=>?_⟩
   obtain ⟨q,hq,rfl⟩:=mmj hb
   refine R.ap q (mar _ ?_) (e ▸ ha)
   rw [h1];exact hq
 have nd2:=((swap_perm os kc1 fs kc2 H (C1.env.locals,o1) (C2.env.locals,o2)).map (·.1)).nodup_iff.mp nd1
 rw [lmc,List.nodup_cons,lma,List.nodup_append] at nd2
 obtain ⟨n1,n2,n3,n4⟩:=nd2
 rw [← lma] at n1
 have old:∀ q∈(os++kc2)++(((C1.env.locals,o1)::fs)++(kc1++H)),s.heap.get? q.1=some q.2∧C1.base.get? q.1=none:=by
  intro q hq
  rcases maj hq with h | h
  ·rcases maj h with h | h
   ·have:=R.mem_os h;exact ⟨this.1,this.2.2⟩
   ·have:=R.mem_hid (p:=q) (by rw [h1];exact mal _ h);exact ⟨this.1,this.2.2⟩
  rcases maj h with h | h
  ·rcases mcj h with h | h
   ·subst h;exact ⟨ho1,hb1⟩
   ·have:=R.mem_fs (.tail _ h);exact ⟨this.1,this.2.2⟩
  rcases maj h with h | h
  ·have:=R.mem_kc h;exact ⟨this.1,this.2.2⟩
  ·have:=R.mem_hid (p:=q) (by rw [h1];exact mar _ h);exact ⟨this.1,this.2.2⟩
 have immL2:∀ q∈imm,q.1≠C2.env.locals:=fun q hq e=>R.ah q hq (by rw [e];exact .head _)
 have ah2:∀ q∈imm,q.1 ∉ ((os++kc2)++(((C1.env.locals,o1)::fs)++(kc1++H))).map (·.1):=fun q hq h=>by
  obtain ⟨z,hz,e⟩:=mmj h
  rcases maj hz with h | h
  ·rcases maj h with h | h
   ·exact R.ap q (mal _ hq) (by rw [← e];exact List.mem_map_of_mem (f:=(·.1)) (mal _ h))
   ·exact R.ah q hq (by rw [h1,← e];exact List.mem_map_of_mem (f:=(·.1)) (mar _ (mal _ h)))
  rcases maj h with h | h
  ·rcases mcj h with h | h
   ·exact (R.mem_imm hq).2.1 (by rw [← e,h])
   ·exact R.ah q hq (by rw [← e];exact List.mem_map_of_mem (f:=(·.1)) (mal _ (.tail _ h)))
  rcases maj h with h | h
  ·exact R.ap q (mal _ hq) (by rw [← e];exact List.mem_map_of_mem (f:=(·.1)) (mar _ h))
  ·exact R.ah q hq (by rw [h1,← e];exact List.mem_map_of_mem (f:=(·.1)) (mar _ (mar _ h)))
 have hN1:∀ h:Heap,h.get? C1.env.locals=some o1→h.Ns C1.env.locals m1:=by
  obtain ⟨oL,esL,epL,hoL,hdL,hkL,hfL⟩:=R.fr.ns
  rw [ho1] at hoL;cases hoL
  exact fun h e=>⟨_,esL,epL,e,hdL,hkL,hfL⟩
 exact {
  fr:=by rw [eb];exact ⟨hN _ A2.1,R.fr.keep,ab⟩
  nw:=fun q hq=>by
   rw [h2] at hq
   rw [eb]
   rcases maj hq with h | h
   ·have:=old q (mal _ (mal _ h))
    exact ⟨this.1,fun e=>n1 (by rw [← e];exact List.mem_map_of_mem (f:=(·.1)) (mal _ (mal _ h))),this.2⟩
   rcases maj h with h | h
   ·have:=old q (mal _ (mar _ h))
    exact ⟨this.1,fun e=>n1 (by rw [← e];exact List.mem_map_of_mem (f:=(·.1)) (mal _ (mar _ h))),this.2⟩
   rcases maj h with h | h
   ·have:=R.mem_imm h
    exact ⟨this.1,immL2 q h,this.2.2⟩
   ·have:=old q (mar _ h)
    exact ⟨this.1,fun e=>n1 (by rw [← e];exact List.mem_map_of_mem (f:=(·.1)) (mar _ h)),this.2⟩
  mu:=by rw [ep,ew];exact R.mu
  kd:=hkd
  nd:=n2
  ap:=fun q hq h=>by
   rw [h2] at hq
   rcases maj hq with hq | hq
   ·refine ah2 q hq ?_
    rw [lma];exact mal _ h
   ·exact n4 _ h _ (List.mem_map_of_mem (f:=(·.1)) hq) rfl
  ah:=fun q hq h=>by
   rw [h2] at h
   refine ah2 q hq ?_
   rw [lma];exact mar _ h
  hn:=by rw [h2];exact n3
  ou:=by rw [u2];exact .cons hN1 ou
  nm:=nm
  kn:=kn
  va:=va
  cc:=cc
  gn:=gn
  so:=by rw [eo];exact R.so }
end
noncomputable abbrev Cx.wait (C:Cx) (Lg:Addr) (mg:Str→Option Value) (c:Cell) (g:Array GenState):Cx:={ C with hid:=c::C.hid,outs:=(Lg,mg)::C.outs,gens:=g,capH:=fun p h=>.tail _ (C.capH p h) }
noncomputable abbrev Cx.genr (C:Cx) (genv:Env) (A':Around) (m:Str→Option Value) (kc:List Cell) (c:Cell) (g:Array GenState):Cx:={ C with env:=genv,A:=A',hid:=kc++(c::C.hid),outs:=(C.env.locals,m)::C.outs,gens:=g,cap:=[],capH:=fun V h=>nomatch h }
structure GnRec (P:Params) (f:Addr) (fd:FuncData) (body:List Stmt):Prop where
 lk:(K39 P).lookup f=some { cls:=.type "function",data:=.func fd }
 code:codeIn (K39 P) fd.code fd.qualname=true
 body:fd.body=.stmts body
 bind:∀ v,bindArgs fd ⟨[v],[]⟩=pure [(("self":Str),v)]
 gl:fd.globals=mainGlobals
 bi:fd.builtins=builtinsNs
 clo:fd.closure=[]
 hk:fd.scope.kind=.function
 hg:fd.scope.isGenerator=true
 hc:fd.scope.isCoroutine=false
 hs:fd.scope.names.lookup ("self":Str)=some .local
 nb:(fd.scope.names.all fun x=>!(x.1 == ("__debug__":Str)) && !(x.1 == ("__classdict__":Str)))=true
theorem rec_it {P:Params}:GnRec P 320 (fdAt P 320) (qad (fdAt P 320)) where
 lk:=by kernel_rfl
 code:=by kernel_rfl
 body:=by kernel_rfl
 bind:=fun v=>by kernel_rfl
 gl:=by kernel_rfl
 bi:=by kernel_rfl
 clo:=by kernel_rfl
 hk:=by kernel_rfl
 hg:=by kernel_rfl
 hc:=by kernel_rfl
 hs:=by kernel_rfl
 nb:=by kernel_rfl
section
variable {C:Cx}{σ:AS}{n:Nat}{imm:List Cell}{s:Shared}{m:Str→Option Value}{os kc fs:List Cell}
theorem RelX.toWait (R:RelX C σ imm s m os kc fs) {h':Heap}{Lg ga:Addr}{oLg oga:Obj}{mg:Str→Option Value}{G:Array GenState} (hk:∀ b o,s.heap.get? b=some o→h'.get? b=some o) (hL:h'.get? Lg=some oLg) (hG:h'.get? ga=some oga)
 (nL:s.heap.get? Lg=none) (nG:s.heap.get? ga=none) (ne:Lg≠ga) (hN:∀ h:Heap,h.get? Lg=some oLg→h.Ns Lg mg) (hg:AllBare G) {d:Drawn}{tk:Nat} :
 RelX (C.wait Lg mg (ga,oga) G) σ imm ⟨h',G,d,tk,s.os⟩ m os kc ((Lg,oLg)::fs):=by
 obtain ⟨a1,a2,a3,a4,a5⟩:=R.fresh nL
 obtain ⟨b1,b2,b3,b4,b5⟩:=R.fresh nG
 have mem:∀ q∈((Lg,oLg)::fs)++((ga,oga)::C.hid),q=(Lg,oLg)∨q=(ga,oga)∨q∈fs++C.hid:=fun q hq=>by
  rcases maj hq with h | h
  ·rcases mcj h with h | h
   ·exact .inl h
   ·exact .inr (.inr (mal _ h))
  ·rcases mcj h with h | h
   ·exact .inr (.inl h)
   ·exact .inr (.inr (mar _ h))
 have hn:=R.hn
 exact {
  fr:=⟨R.fr.ns.keeps hk,fun b o e=>hk _ _ (R.fr.keep b o e),R.fr.above⟩
  nw:=fun q hq=>by
   rcases maj hq with h | h
   ·have:=R.mem_os h;exact ⟨hk _ _ this.1,this.2⟩
   rcases maj h with h | h
   ·have:=R.mem_kc h;exact ⟨hk _ _ this.1,this.2⟩
   rcases maj h with h | h
   ·have:=R.mem_imm h;exact ⟨hk _ _ this.1,this.2⟩
   rcases mem q h with rfl | rfl | h
   ·exact ⟨hL,a1,a2⟩
   ·exact ⟨hG,b1,b2⟩
   ·have:=R.nw q (mar _ (mar _ (mar _ h)));exact ⟨hk _ _ this.1,this.2⟩
  mu:=R.mu
  kd:=R.kd
  nd:=R.nd
  ap:=fun q hq=>by
   rcases maj hq with h | h
   ·exact R.ap q (mal _ h)
   rcases mem q h with rfl | rfl | h
   ·exact a3
   ·exact b3
   ·exact R.ap q (mar _ h)
  ah:=fun q hq h=>by
   obtain ⟨z,hz,e⟩:=mmj h
   rcases mem z hz with rfl | rfl | hz
   ·exact a5 (by show Lg∈_;rw [show Lg=q.1 from e];exact List.mem_map_of_mem (f:=(·.1)) hq)
   ·exact b5 (by show ga∈_;rw [show ga=q.1 from e];exact List.mem_map_of_mem (f:=(·.1)) hq)
   ·exact R.ah q hq (by rw [← e];exact List.mem_map_of_mem (f:=(·.1)) hz)
  hn:=by
   rw [lma,List.mem_append,not_or] at a4 b4
   rw [lma,List.nodup_append] at hn ⊢
   refine ⟨List.nodup_cons.mpr ⟨a4.1,hn.1⟩,List.nodup_cons.mpr ⟨b4.2,hn.2.1⟩,fun x hx y hy e=>?_⟩
   rcases mcj hx with hx | hx
   ·rcases mcj hy with hy | hy
    ·exact ne (hx.symm.trans (e.trans hy))
    ·exact a4.2 (by show Lg∈_;rw [show Lg=y from hx.symm.trans e];exact hy)
   ·rcases mcj hy with hy | hy
    ·exact b4.1 (by show ga∈_;rw [show ga=x from hy.symm.trans e.symm];exact hx)
    ·exact hn.2.2 x hx y hy e
  ou:=.cons hN R.ou
  nm:=R.nm
  kn:=R.kn
  va:=R.va
  cc:=R.cc
  gn:=⟨fun V V e=>e,hg⟩
  so:=R.so }
theorem RelX.dropKc (R:RelX C σ imm s m os kc fs) (h:∀ p∈σ.ρ,p.kind≠.cell):RelX C σ imm s m os [] fs where
 fr:=R.fr
 nw:=fun p hp=>by
  rcases maj hp with h | h
  ·exact R.mem_os h
  ·exact R.nw p (mar _ (mar _ h))
 mu:=R.mu
 kd:=fun V h=>nomatch h
 nd:=by
  have:=R.nd
  rw [List.append_nil]
  rw [lma,List.nodup_append] at this
  exact this.1
 ap:=fun q hq hm=>R.ap q hq (by rw [List.append_nil] at hm;rw [lma];exact mal _ hm)
 ah:=R.ah
 hn:=R.hn
 ou:=R.ou
 nm:=R.nm
 kn:=R.kn
 va:=fun p hp d e=>by
  have:=R.va p hp d e
  have hk:=h p hp
  generalize p.kind=k at this hk ⊢
  cases this with
  | loc a b=>exact .loc a b
  | cell a b c r=>exact absurd rfl hk
  | cap a b c r=>exact .cap a b c r
  | free a b c r=>exact .free a b c r
 cc:=fun p hp e=>absurd e (h p hp)
 gn:=R.gn
 so:=R.so
theorem Ok.wait {Lg mg c g} (O:Ok C n):Ok (C.wait Lg mg c g) n:={ O with }
theorem OkR.wait {Lg mg c g} (G:OkR C):OkR (C.wait Lg mg c g):=by
 obtain ⟨frs,h1,h2⟩:=G.ex
 exact ⟨⟨frs,h1,fun e he=>by obtain ⟨a,L,b,c⟩:=h2 e he;exact ⟨a,L,b,.tail _ c⟩⟩,G.fr,G.gd⟩
theorem gen_call {f:Addr}{fd:FuncData}{body:List Stmt}{a:Value} (O:Ok C (n+1)) (GR:GnRec C.w.params f fd body) (R:RelX C σ imm s m os kc fs) {Q E:Value→Shared→Prop}
 (q:∀ h' tk Lg ga oLg oga,Lg=s.heap.objs.size→C.base.objs.size≤Lg→(∀ b o,s.heap.get? b=some o→h'.get? b=some o)→h'.IsGen ga s.gens.size→RelX (C.wait Lg (bindL (callEnvC fd Lg f).kindOf [(("self":Str),a)] fun V=>none) (ga,oga) (s.gens.push (.fresh (.func body (callEnvC fd Lg f))))) σ imm ⟨h',s.gens.push (.fresh (.func body (callEnvC fd Lg f))),s.drawn,tk,s.os⟩ m os kc ((Lg,oLg)::fs) →
  Q (.ref ga) ⟨h',s.gens.push (.fresh (.func body (callEnvC fd Lg f))),s.drawn,tk,s.os⟩):wpAny C.M C.A (call (.ref f) [a] []) Q E s:=by
 obtain ⟨p,loose,mg,mb,TT⟩:=O.top
 have kin:=O.kin.keeps R.fr.keep
 have hLs:C.base.objs.size≤s.heap.objs.size:=by
  exact Nat.le_trans R.fr.above (Nat.le_of_lt (by obtain ⟨o,_,_,ho,_⟩:=R.fr.ns;exact Heap.lt_size ho))
 refine wpAny_call (codeAny_call_generator (Nat.lt_of_le_of_lt (Nat.le_add_right _ _) O.dep) (kin _ _ GR.lk) rfl GR.hc GR.hg GR.body (codeRec_of kin GR.code) (wpAny_of_eq (GR.bind a) ?_))
 rw [GR.clo]
 refine wpAny_newFunctionEnv_cells GR.hk (fun x hx=>?_) fun env he s' x=>?_
 ·rw [msj hx];exact .inl GR.hs
 ·subst he
  have hk:=x.toInCall.keep
  obtain ⟨h₁,tk,rfl,hk₁⟩:=x.done
  refine ⟨(TT.nolimit.keeps R.fr.keep).keeps hk,?_⟩
  have hns:h₁.Ns s.heap.objs.size (bindL (callEnvC fd s.heap.objs.size f).kindOf [(("self":Str),a)] fun V=>none):=x.toInCall.ns
  obtain ⟨oL,esL,epL,hoL,hdL,hkL,hfL⟩:=hns
  have hlt:=ltN hoL
  have kp:=fun b o (e:h₁.get? b=some o)=>(Heap.get?_push_of_some { cls:=.type "generator",data:=.fields #[.int s.gens.size 0,.str fd.name tk,.str fd.qualname (tk+1)] } e)
  have hge:=Heap.get?_push_size h₁ (o:={ cls:=.type "generator",data:=.fields #[.int s.gens.size 0,.str fd.name tk,.str fd.qualname (tk+1)] }) rfl
  refine q _ _ s.heap.objs.size h₁.objs.size oL { cls:=.type "generator",data:=.fields #[.int s.gens.size 0,.str fd.name tk,.str fd.qualname (tk+1)] } rfl hLs (fun b o e=>kp _ _ (hk₁ b o e)) ⟨_,_,_,hge,rfl,rfl,rfl⟩ ?_
  exact R.toWait (fun b o e=>kp _ _ (hk₁ b o e)) (kp _ _ hoL) hge (Heap.get?_none_of_le (Nat.le_refl _)) (Heap.get?_none_of_le (Nat.le_of_lt hlt)) (Nat.ne_of_lt hlt) (fun h e=>⟨oL,esL,epL,e,hdL,hkL,hfL⟩) (AllBare.push R.gn.2 rfl)
end
noncomputable def iterA (P:Params) (Cc f:Addr):Bool:=(findIn (KK P) (.ref Cc) "__iter__" == some (some (.ref f))) && (typeIn (KK P) (.ref f) == some (.type "function"))
section
variable {C:Cx}{σ:AS}{n:Nat}{imm:List Cell}{s:Shared}{m:Str→Option Value}{os kc fs:List Cell}
theorem pyIter_own {x Cc dx f:Addr}{Q E:Value→Shared→Prop} (O:Ok C n) (R:Rel C σ imm s) (hx:(x,AO.inst Cc dx)∈σ.ms) (hi:iterA C.w.params Cc f=true)
 (h:wpAny C.M C.A (call (.ref f) [.ref x] []) (fun v s'=>∃ ga g,v=.ref ga∧s'.heap.IsGen ga g∧Q v s') E s):wpAny C.M C.A (pyIter (.ref x)) Q E s:=by
 unfold iterA at hi
 simp only [Bool.and_eq_true,beq_iff_eq] at hi
 obtain ⟨i1,i2⟩:=hi
 have kin:=O.kin.keeps R.base_keep
 obtain ⟨o,ho,hox⟩:=R.at_ms hx
 cases hox
 have sp:∀ {Q:Option Value→Shared→Prop},Q (some (.ref f)) s→wpAny C.M C.A (specialOf (.ref x) (Str.ofString "__iter__")) Q E s:=fun q=>by
  unfold specialOf typeOf
  refine wpAny_bind (wpAny_bind (wpAny_load ho (wpAny_pure ?_)))
  exact (looks_findIn kin i1).here q
 unfold pyIter
 refine wpAny_bind (sp ?_)
 have bd:wpAny C.M C.A (bindSpecialIfBound? (.ref x) (Str.ofString "__iter__")) (fun r s'=>r=some (.ref f,[.ref x])∧s'=s) E s:=by
  unfold bindSpecialIfBound?
  refine wpAny_bind (sp ?_)
  have b1:∀ {E':Value→Shared→Prop},wpAny C.M C.A (do return some (← bindSpecial (.ref f) (.ref x))) (fun r s'=>r=some (.ref f,[.ref x])∧s'=s) E' s:=by
   unfold bindSpecial
   refine wpAny_bind (wpAny_bind ((looks_typeIn kin i2).here ?_))
   rw [if_pos (by decide)]
   exact wpAny_pure (wpAny_pure ⟨rfl,rfl⟩)
  refine wpAny_bind (wpAny_askSetting ?_)
  dsimp only
  split
  ·exact b1
  ·exact wpAny_tryCatch b1
 unfold callSpecialIfBoundUnlessNone?
 refine wpAny_bind (wpAny_holding (wpAny_bind (wpAny_mono bd (fun r s' hr=>?_) fun V V x=>x)))
 obtain ⟨rfl,rfl⟩:=hr
 dsimp only
 rw [if_neg (show ¬ ((Value.ref f == Value.none)=true) from bft)]
 refine wpAny_bind (wpAny_mono h (fun v s' hv=>?_) fun V V x=>x)
 obtain ⟨ga,g,rfl,hg,q⟩:=hv
 refine wpAny_pure ?_
 exact wpAny_bind (wpAny_specialOf hg.typeIs slot_gen_next.lookup (wpAny_pure q))
end
section
variable {prog:Program}{w:World}{A:Around}{E:Value→Shared→Prop}{s:Shared}{Φ:End→Shared→Prop}
theorem pyNextC {ga:Addr}{g:Nat}{gs:GenState}{Q:Option Value→Shared→Prop} (hh:A.handled=none) (hl:s.heap.NoLimit) (hroom:A.depth<recursionLimit) (hg:s.heap.IsGen ga g) (hgs:s.gens[g]?=some gs)
 (hgo:GoT (model prog w) A.in1 gs (s.setGen g .running) Φ)
 (fok:∀ f s1,Φ (.ret (.ok f)) s1→f=.ret .none∧∀ h',(∀ b o,s1.heap.get? b=some o→h'.get? b=some o)→Q none { s1.setGen g .finished with heap:=h' })
 (ferr:∀ e s1,Φ (.ret (.error e)) s1→s1.heap.IsGen ga g∧Looks (model prog w) s1.heap (isInstance e (.type "StopIteration")) false∧E e (s1.setGen g .finished))
 (fsusp:∀ v gd l k c p fs s1,Φ (.susp v gd l k c p fs) s1→gd=false∧fs.any Frame.guarded=false∧Q (some v) (s1.setGen g (.suspended k l c p fs false))):wpC (model prog w) A (pyNext (.ref ga)) Q E s:=by
 unfold pyNext
 refine qae (qe4 (qbp (name:=Str.ofString "__next__") hg.typeIs slot_gen_next (qbg slot_gen_next hg.typeIs entry_gen_next (show Builtin.Bytes.decodersThatHold.contains "generator.__next__"=false by decide +kernel) ?_ (args_gen_next _))))
 show wpC _ A.in1 (Builtin.Generator.genWake (.ref ga) (.send .none)) _ _ s
 unfold Builtin.Generator.genWake
 refine qa1 (wpAny_holding (wpAny_genNumber hg ?_))
 refine qa1 (wpAny_genState hgs ?_)
 have main:∀ (st:GenStatus),wpC (model prog w) A.in1 (Sem.resume g (.send .none) [] fun x=>match x with
  | .yielded v=>ret v
  | .returned v=>do
   if v == .none then raiseNew (← newExc (.type "StopIteration") [])
   rule "generator.return-value";throw (← newExc (.type "StopIteration") [v])
  | .raised e=>Builtin.Generator.genLeft (.ref ga) e
  | .running=>do rule "generator.already-executing";raiseError "ValueError" "generator already executing"
  | .justStarted=>do rule "generator.send-to-fresh";raiseError "TypeError" "can't send non-None value to a just-started generator"
  | .finished=>do raiseNew (← newExc (.type "StopIteration") []))
  (fun fin s'=>∃ v,fin=.done (.ret v)∧(fun v=>(fun a=>wpC (model prog w) A (match a with | .ok (some v)=>pure (some v) | .ok none=>unsupported "iter:the-iterator's-class-has-lost-its-__next__-amid-the-walk" | .error e=>do if ← isInstance e (.type "StopIteration") then pure none else throw e) Q E) (Except.ok (some v))) v s')
  (fun e=>(fun a=>wpC (model prog w) A (match a with | .ok (some v)=>pure (some v) | .ok none=>unsupported "iter:the-iterator's-class-has-lost-its-__next__-amid-the-walk" | .error e=>do if ← isInstance e (.type "StopIteration") then pure none else throw e) Q E) (Except.error e)) s:=by
  intro _
  refine wpC_resume hgs hgo fun e s1 he=>?_
  cases e with
  | ret r =>
   refine ⟨rfl,?_⟩
   cases r with
   | ok f =>
    obtain ⟨rfl,hq⟩:=fok f s1 he
    refine qap ?_
    show wpAny _ A.in1 (do
     if Value.none == Value.none then raiseNew (← newExc (.type "StopIteration") [])
     rule "generator.return-value";throw (← newExc (.type "StopIteration") [Value.none]):Sem Fin) _ _ _
    rw [if_pos (by decide)]
    refine wpAny_bind ?_
    simp only [newExc,newTuple]
    refine wpAny_bind (wpAny_newObj_type ?_ (by size_fits))
    refine wpAny_bind (m:=firstArgMember _ _) (wpAny_of_eq (a:=Value.none) (by first | rfl | (simp only [firstArgMember];rfl)) ?_)
    refine wpAny_newObj_type ?_ (by size_fits)
    refine wpAny_bind (wpAny_bind (wpAny_handled ?_))
    rw [show A.in1.handled=none from hh]
    refine wpAny_throw ?_
    refine qap ?_
    refine wpAny_bind (wpAny_isInstance (T:="StopIteration") (b:=true) ⟨_,Heap.get?_push_size _ rfl,rfl⟩ isSubtype_stop ?_)
    exact wpAny_pure (hq _ fun b o hb=>Heap.get?_push_of_some _ (Heap.get?_push_of_some _ hb))
   | error e =>
    obtain ⟨hg1,hL,hq⟩:=ferr e s1 he
    refine qap ?_
    show wpAny _ A.in1 (Builtin.Generator.genLeft (.ref ga) e) _ _ (s1.setGen g .finished)
    unfold Builtin.Generator.genLeft
    obtain ⟨o,nm,qn,ho,hc,hd,hsl⟩:=hg1
    refine wpAny_bind ?_
    unfold Builtin.Generator.madeByALambda
    refine wpAny_bind (wpAny_load (s:=s1.setGen g .finished) ho (wpAny_pure ?_))
    rw [hd]
    rw [show (o.cls == Value.type "generator" && (match (Data.fields #[Value.int g 0,nm,qn]) with | .fields vs=>vs[3]? == some (.bool true) | _=>false))=false by simp]
    refine wpAny_bind (hL _ _ _ (s1.setGen g .finished) (fun V V e=>e) ?_)
    rw [if_neg (by decide)]
    unfold Builtin.Generator.genEscaped
    refine wpAny_bind (hL _ _ _ (s1.setGen g .finished) (fun V V e=>e) ?_)
    rw [if_pos (by decide)]
    refine wpAny_throw ?_
    refine qap ?_
    refine wpAny_bind (hL _ _ _ (s1.setGen g .finished) (fun V V e=>e) ?_)
    rw [if_neg bft]
    exact wpAny_throw hq
  | susp v gd l k c p fs =>
   obtain ⟨rfl,hfs,hq⟩:=fsusp v gd l k c p fs s1 he
   refine ⟨by simp [End.quiet,hfs],?_⟩
   have eg:(End.susp v false l k c p fs).genState=.suspended k l c p fs false:=by simp [End.genState,hfs]
   rw [eg]
   exact qa8 ⟨v,rfl,qa8 hq⟩
 cases gs with
 | running=>exact hgo.elim
 | finished=>exact hgo.elim
 | fresh c=>exact qa1 (wpAny_roomToWake hl hroom (main .fresh))
 | suspended k l c p fs cl=>exact qa1 (wpAny_roomToWake hl hroom (main .suspended))
end
structure Names (C:Cx) (ρ:List Slot) (m:Str→Option Value) (kc imm:List Cell):Prop where
 nm:(ρ.map (·.name)).Nodup
 kn:∀ p∈ρ,C.env.kindOf p.name=some p.kind
 va:∀ p∈ρ,∀ d,p.val=some d→qf5 C.env C.cap m imm kc p.name p.kind d
 cc:∀ p∈ρ,p.kind=.cell→∃ c o,C.env.cells.lookup p.name=some c∧((c,o)∈kc∨(c,o)∈C.cap)
 kd:∀ p∈kc,∃ v,p.2.data=.cell v
theorem Names.mono {C ρ m kc imm imm'} (N:Names C ρ m kc imm) (hs:imm⊆imm'):Names C ρ m kc imm':={ N with va:=fun p hp d e=>(N.va p hp d e).mono hs }
def GVars (genv:Env) (mg:Str→Option Value) (imm:List Cell) (ρ:List Slot):Prop:=∀ p∈ρ,∀ d,p.val=some d→qf5 genv [] mg imm [] p.name p.kind d
theorem GVars.mono {genv mg imm imm' ρ} (h:GVars genv mg imm ρ) (hs:imm⊆imm'):GVars genv mg imm' ρ:=fun p hp d e=>(h p hp d e).mono hs
structure GSlots (genv:Env) (ρ:List Slot):Prop where
 nm:(ρ.map (·.name)).Nodup
 kn:∀ p∈ρ,genv.kindOf p.name=some p.kind
 nc:∀ p∈ρ,p.kind≠.cell
section
variable {C:Cx}{ρ ρg:List Slot}{ms:List (Addr×AO)}{imm:List Cell}{s:Shared}{m mg:Str→Option Value}{os kc fs:List Cell}{c:Cell}{G gg:Array GenState}{genv:Env}{A':Around}{σ:AS}{n:Nat}
theorem RelX.names {L} (R:RelX (C.wait L mg c G) ⟨ρ,ms⟩ imm s m os kc fs):Names C ρ m kc imm:=⟨R.nm,R.kn,R.va,R.cc,R.kd⟩
theorem wake_in (R:RelX (C.wait genv.locals mg c G) ⟨ρ,ms⟩ imm s m os kc fs) (ab:C.base.objs.size≤genv.locals) (hg:AllBare gg) (gv:GVars genv mg imm ρg) (gs:GSlots genv ρg) {d:Drawn}{tk:Nat} :
 Rel (C.genr genv A' m kc c gg) ⟨ρg,ms⟩ imm ⟨s.heap,gg,d,tk,s.os⟩:=by
 have ou:=R.ou
 cases ou with | @cons _ og _ fs1 _ hN ou =>
 obtain ⟨oL,esL,epL,hoL,hdL,hkL,hfL⟩:=R.fr.ns
 exact ⟨mg,os,[],(C.env.locals,oL)::fs1,swapX (C1:=C.wait genv.locals mg c G) (C2:=C.genr genv A' m kc c gg) (kc2:=[]) (H:=c::C.hid) (outs:=C.outs) (m2:=mg) R rfl rfl rfl rfl rfl rfl rfl rfl ab hoL (fun V h=>nomatch h) ⟨fun V V e=>e,hg⟩
  gs.nm gs.kn gv fun p hp e=>absurd e (gs.nc p hp)⟩
theorem qgr {fg:List Cell} (R:RelX (C.genr genv A' m kc c G) ⟨ρg,ms⟩ imm s mg os [] fg) (N:Names C ρ m kc imm) (ab:C.base.objs.size≤C.env.locals) (hg:AllBare gg) {d:Drawn}{tk:Nat} :
 ∃ fs',RelX (C.wait genv.locals mg c gg) ⟨ρ,ms⟩ imm ⟨s.heap,gg,d,tk,s.os⟩ m os kc fs':=by
 have ou:=R.ou
 cases ou with | @cons _ og _ fs1 _ hN ou =>
 obtain ⟨oL,esL,epL,hoL,hdL,hkL,hfL⟩:=R.fr.ns
 exact ⟨_,swapX (C1:=C.genr genv A' m kc c G) (C2:=C.wait genv.locals mg c gg) (kc1:=[]) (kc2:=kc) (H:=c::C.hid) (outs:=C.outs) (m2:=m) R rfl rfl rfl rfl rfl rfl rfl rfl ab hoL N.kd ⟨fun V V e=>e,hg⟩ N.nm N.kn N.va N.cc⟩
theorem wake_out (R:Rel (C.genr genv A' m kc c G) ⟨ρg,ms⟩ imm s) (gs:GSlots genv ρg) (N:Names C ρ m kc imm) (ab:C.base.objs.size≤C.env.locals) (hg:AllBare gg) {d:Drawn}{tk:Nat} :
 ∃ mg os fs',RelX (C.wait genv.locals mg c gg) ⟨ρ,ms⟩ imm ⟨s.heap,gg,d,tk,s.os⟩ m os kc fs'∧GVars genv mg imm ρg:=by
 obtain ⟨mg,os,kg,fg,R⟩:=R
 have R:=R.dropKc gs.nc
 obtain ⟨fs',R2⟩:=qgr R N ab hg (d:=d) (tk:=tk)
 exact ⟨mg,os,fs',R2,R.va⟩
theorem RelX.unwait {L} (R:RelX (C.wait L mg c G) σ imm s m os kc fs) (hg:∀ (i:Nat) (x:GenState),C.gens[i]?=some x→s.gens[i]?=some x):∃ fs',RelX C σ imm s m os kc fs':=by
 have ou:=R.ou
 cases ou with | @cons _ og _ fs1 _ hN ou =>
 have sub:∀ q,q∈fs1++C.hid→q∈((L,og)::fs1)++(c::C.hid):=fun q h=>by
  rcases maj h with h | h
  ·exact mal _ (.tail _ h)
  ·exact mar _ (.tail _ h)
 have hsl:((fs1++C.hid).map (·.1)).Sublist ((((L,og)::fs1)++(c::C.hid)).map (·.1)):=((List.sublist_cons_self _ _).append (List.sublist_cons_self _ _)).map _
 have nw1:News C.base C.env.locals s.heap (os++(kc++(imm++(fs1++C.hid)))):=fun q hq=>by
  rcases maj hq with h | h
  ·exact R.mem_os h
  rcases maj h with h | h
  ·exact R.mem_kc h
  rcases maj h with h | h
  ·exact R.mem_imm h
  ·exact R.nw q (mar _ (mar _ (mar _ (sub q h))))
 have ap1:∀ q∈imm++(fs1++C.hid),q.1 ∉ (os++kc).map (·.1):=fun q hq=>R.ap q (by
  rcases maj hq with h | h
  ·exact mal _ h
  ·exact mar _ (sub q h))
 exact ⟨fs1,{ fr:=R.fr,nw:=nw1,mu:=R.mu,kd:=R.kd,nd:=R.nd,ap:=ap1,ah:=fun q hq h=>R.ah q hq (hsl.subset h),hn:=R.hn.sublist hsl,ou:=ou,nm:=R.nm,kn:=R.kn,va:=R.va,cc:=R.cc,gn:=⟨hg,R.gn.2⟩,so:=R.so }⟩
theorem Rel.around {A1 A2:Around} (R:Rel (C.genr genv A1 m kc c G) σ imm s):Rel (C.genr genv A2 m kc c G) σ imm s:=by
 obtain ⟨mg,os,kg,fg,R⟩:=R
 exact ⟨mg,os,kg,fg,{ fr:=R.fr,nw:=R.nw,mu:=R.mu,kd:=R.kd,nd:=R.nd,ap:=R.ap,ah:=R.ah,hn:=R.hn,ou:=R.ou,nm:=R.nm,kn:=R.kn,va:=R.va,cc:=R.cc,gn:=R.gn,so:=R.so }⟩
theorem fly_out {e cls c2:Value}{A'':Around}{Q:Unit→Shared→Prop}{E:Value→Shared→Prop} (ab:C.base.objs.size≤C.env.locals) (Gk:OkR C) (f:Fly (C.genr genv A' m kc c G) ⟨ρg,ms⟩ imm e cls c2 s) (gs:GSlots genv ρg) (N:Names C ρ m kc imm) (hfr:genv.frame=some genv.locals) (hA':∀ frs,C.A.frames=some frs→A'.frames=some (genv::frs)) (hA:A''.frames=A'.frames) (hg:∀ (i:Nat) (x:GenState),C.gens[i]?=some x→G[i]?=some x)
 (q:∀ s',Fly C ⟨ρ,ms⟩ imm e cls c2 s'→(∀ (i:Nat) (x:GenState),G[i]?=some x→s'.gens[i]?=some x)→s'.heap.get? c.1=some c.2→Q () s'):wpAny C.M A'' (leaving genv e) Q E s:=by
 obtain ⟨frs',mg,os',kg,fs',B,a,fl,rfl,hfl,hAf,RR,hB,hbB,hF⟩:=f
 obtain ⟨frs,hfrs,hfs⟩:=Gk.ex
 have hA1:A'.frames=some (genv::C.env::frs):=hA' _ hfrs
 have:frs'=C.env::frs:=by
  have hAf:A'.frames=some (genv::frs'):=hAf
  have:=Option.some.inj (hAf.symm.trans hA1)
  exact (List.cons.inj this).2
 subst this
 refine leaveT (L:=genv.locals) hfl (by rw [hA];exact hA1) hfr hF fun h' fl' hfl' hF' hu=>?_
 have RR1:=RR.dropKc gs.nc
 have hB1:∀ p∈os'++([]++(imm++(kc++(c::C.hid)))),B.get? p.1=some p.2:=fun p hp=>hB p (by
  rcases maj hp with h | h
  ·exact mal _ h
  ·exact mar _ (mar _ h))
 obtain ⟨fs2,_,RR2⟩:=RR1.ups (h':=h') (d:=s.drawn) (tk:=s.toks) (fun p hp=>hF'.1 _ _ (hB1 p hp)) (fun b o e=>hF'.1 _ _ (hbB b o e)) hu
 obtain ⟨fs3,RB⟩:=qgr RR2 N ab RR.gn.2 (gg:=s.gens) (d:=s.drawn) (tk:=s.toks)
 obtain ⟨fs4,RC⟩:=RB.unwait fun i x h=>RR.gn.1 i x (hg i x h)
 refine q _ ⟨frs,m,os',kc,fs4,B,a,fl',rfl,hfl' _,hfrs,RC,fun p hp=>?_,hbB,hF'⟩ RR.gn.1 (hF'.1 _ _ (hB1 c (mar _ (mar _ (mar _ (mar _ (.head _)))))))
 rcases maj hp with h | h
 ·exact hB1 p (mal _ h)
 rcases maj h with h | h
 ·exact hB1 p (mar _ (mar _ (mar _ (mal _ h))))
 rcases maj h with h | h
 ·exact hB1 p (mar _ (mar _ (mal _ h)))
 ·exact hB1 p (mar _ (mar _ (mar _ (mar _ (.tail _ h)))))
end
structure AGen (A A':Around) (genv:Env):Prop where
 hn:A'.handled=A.handled
 dep:A'.depth≤A.depth+1
 un:A'.units≤A.units+4
 fr:∀ frs,A.frames=some frs→A'.frames=some (genv::frs)
 gd:A.guards=some []→A'.guards=some []
noncomputable abbrev gF (body:List Stmt) (genv:Env) (k:Result→Sem Fin) (p:Pos):Frame:=.ret k none false [] (.func body genv) p []
section
variable {A:Around}{body b2:List Stmt}{genv:Env}{test:Expr}{k:Result→Sem Fin}{p:Pos}
theorem agen0:AGen A (A.in1.over (.func body genv) []) genv:=⟨rfl,Nat.le_of_eq rfl,Nat.le_of_eq rfl,fun frs h=>by
 show pushEnvs [genv] (pushEnvs [] A.frames)=_
 rw [h];rfl,fun h=>by
 show pushGuards [] (pushGuards [] A.guards)=_
 rw [h];rfl⟩
theorem agenW:AGen A (A.in1.over (.whileLoop test b2 [] genv) [gF body genv k p]) genv:=⟨rfl,Nat.le_of_eq rfl,Nat.le_of_eq rfl,fun frs h=>by
 show pushEnvs [] (pushEnvs [genv] A.frames)=_
 rw [h];rfl,fun h=>by
 show pushGuards [] (pushGuards [] A.guards)=_
 rw [h];rfl⟩
theorem qgx:qbq []:=fun V h=>nomatch h
theorem qel:qbq [gF body genv k p]:=fun F h=>by rw [msj h];rfl
end
section
variable {C:Cx}{n:Nat}{f:Addr}{fd:FuncData}{body:List Stmt}{L:Nat}{A':Around}{m:Str→Option Value}{kc:List Cell}{c:Cell}{g:Array GenState}
theorem okGen (O:Ok C (n+1)) (GR:GnRec C.w.params f fd body) (hcl:(callEnvC fd L f).cells=[]) (ag:AGen C.A A' (callEnvC fd L f)):Ok (C.genr (callEnvC fd L f) A' m kc c g) n where
 fk:=GR.hk
 gl:=GR.gl
 bi:=GR.bi
 dep:=by have:=O.dep;have h:A'.depth≤C.A.depth+1:=ag.dep;show A'.depth+n<recursionLimit;lia
 un:=by have:=O.un;have h:A'.units≤C.A.units+4:=ag.un;show A'.units+20 * n+20<cLine;lia
 hn:=ag.hn.trans O.hn
 nb:=fun y k hy=>by
  have:=List.all_eq_true.mp GR.nb (y,k) (qan hy)
  simpa using this
 ci:=fun y z c h1 h2=>by
  have h1:(callEnvC fd L f).cells.lookup y=some c:=h1
  rw [hcl] at h1;cases h1
 kin:=O.kin
 top:=O.top
theorem okRGen (O:Ok C n) (G:OkR C) (ag:AGen C.A A' (callEnvC fd L f)):OkR (C.genr (callEnvC fd L f) A' m kc c g):=by
 obtain ⟨frs,h1,h2⟩:=G.ex
 exact ⟨⟨C.env::frs,ag.fr _ h1,fun e he=>by
  rcases mcj he with rfl | he
  ·exact ⟨O.fk,_,G.fr,.head _⟩
  ·obtain ⟨a,L,b,c⟩:=h2 e he
   exact ⟨a,L,b,.tail _ c⟩⟩,rfl,ag.gd G.gd⟩
end
section
variable {C:Cx}{σ:AS}
end
inductive TkD {St:Type} (I:St→List (Addr×AO)→Prop) (T:St→Bool→D→St→Prop) (x:St) (d:D) (M':List (Addr×AO)):Prop
 | mk (b:Bool) (fr:D) (x':St):d=.tup [.bool b,fr]→(fr=.none∨∃ f,fr=.val (.ref f))→T x b fr x'→I x' M'→TkD I T x d M'
structure Taker (C:Cx) (k:Nat) (a:Addr) {St:Type} (I:St→List (Addr×AO)→Prop) (T:St→Bool→D→St→Prop) (Er:St→Value→Value→List (Addr×AO)→Prop) (mu:St→Nat):Prop where
 take:∀ x M1,I x M1→FnR C.w.params 327 k [.val (.ref a)] M1 (TkD I T x) (Er x)
 inst:∀ x M1,I x M1→∃ dx fs,(a,AO.inst 330 dx)∈M1∧(dx,AO.dict fs)∈M1∧fs.lookup ("take_frame":Str)=none
 dec:∀ x fr x',T x true fr x'→mu x'<mu x
 stop:∀ x cls c2 M',Er x cls c2 M'→subIn (KK C.w.params) cls (.type "StopIteration")=some false
noncomputable abbrev gS (a:Addr) (w f:Option D):List Slot:=[⟨"self",.local,some (.val (.ref a))⟩,⟨"whole",.local,w⟩,⟨"frame",.local,f⟩]
noncomputable abbrev qaq (t1 t2 t3 t4 t5 t6 t7:Pos) (k:Nat):Stmt:=.Assign [.Tuple [.Name "whole" t1,.Name "frame" t2] k t3] (.Call (.Attribute (.Name "self" t4) "take_frame" t5) [] [] t6) t7
inductive TkK {St:Type} (I:St→List (Addr×AO)→Prop) (T:St→Bool→D→St→Prop) (x:St) (ρ:List Slot) (M2:List (Addr×AO)) (d:D) (σ':AS):Prop
 | mk (b:Bool) (fr:D) (x':St) (M1':List (Addr×AO)):d=.tup [.bool b,fr]→(fr=.none∨∃ f,fr=.val (.ref f))→T x b fr x'→I x' M1'→σ'=⟨ρ,M1'++M2⟩→TkK I T x ρ M2 d σ'
inductive TkE {St:Type} (Er:St→Value→Value→List (Addr×AO)→Prop) (x:St) (ρ:List Slot) (M2:List (Addr×AO)) (cls c2:Value) (σ':AS):Prop
 | mk (M1':List (Addr×AO)):Er x cls c2 M1'→σ'=⟨ρ,M1'++M2⟩→TkE Er x ρ M2 cls c2 σ'
inductive GoOk {St:Type} (C:Cx) (I:St→List (Addr×AO)→Prop) (T:St→Bool→D→St→Prop) (a:Addr) (M2:List (Addr×AO)) (x:St) (imm:List Cell) (fl:Flow) (s':Shared):Prop
 | mk (h:fl=.next) (b:Bool) (fr:D) (x':St) (M1':List (Addr×AO)) (imm':List Cell):imm⊆imm'→(fr=.none∨∃ f,fr=.val (.ref f))→T x b fr x'→I x' M1'→Rel C ⟨gS a (some (.bool b)) (some fr),M1'++M2⟩ imm' s'→GoOk C I T a M2 x imm fl s'
inductive GoEr {St:Type} (C:Cx) (Er:St→Value→Value→List (Addr×AO)→Prop) (ρ:List Slot) (M2:List (Addr×AO)) (x:St) (imm:List Cell) (e:Value) (s':Shared):Prop
 | mk (cls c2:Value) (M1':List (Addr×AO)) (imm':List Cell):imm⊆imm'→Er x cls c2 M1'→Fly C ⟨ρ,M1'++M2⟩ imm' e cls c2 s'→GoEr C Er ρ M2 x imm e s'
section
variable {C:Cx}{n k:Nat}{a:Addr}{St:Type}{I:St→List (Addr×AO)→Prop}{T:St→Bool→D→St→Prop}{Er:St→Value→Value→List (Addr×AO)→Prop}{mu:St→Nat}{M1 M2:List (Addr×AO)}{x:St}{w f:Option D}{imm:List Cell}{s:Shared}
theorem take_go {t1 t2 t3 t4 t5 t6 t7:Pos}{kk:Nat} (hpos:(t5.endLine == t6.line)=true) (O:Ok C k) (G:OkR C) (TK:Taker C k a I T Er mu) (hI:I x M1) (R:Rel C ⟨gS a w f,M1++M2⟩ imm s) :
 wpC C.M C.A (exec (qaq t1 t2 t3 t4 t5 t6 t7 kk) C.env) (GoOk C I T a M2 x imm) (GoEr C Er (gS a w f) M2 x imm) s:=by
 obtain ⟨dx,fs,hi,hd,hl⟩:=TK.inst x M1 hI
 have h:XR C ⟨gS a w f,M1++M2⟩ (.Call (.Attribute (.Name "self" t4) "take_frame" t5) [] [] t6) (TkK I T x (gS a w f) M2) (TkE Er x (gS a w f) M2) :=
  qcu O G (X_name O .here) (mal _ hi) (mal _ hd) hl (by kernel_rfl) .nil (.refl _) (TK.take x M1 hI)
   (fun d M1' ⟨b,fr,x',e,h1,h2,h3⟩=>⟨b,fr,x',M1',e,h1,h2,h3,rfl⟩) (fun cls c2 M1' h=>⟨M1',h,rfl⟩) rfl hpos (by decide)
 refine qci (qa4 (h.go imm s R) (fun v s' ⟨d,σ',i',hs,R',hv,b,fr,x',M1',e,h1,h2,h3,eσ⟩=>?_) fun e s' ⟨σ',i',cls,c2,hs,F,M1',h1,eσ⟩=>?_) rfl rfl
 ·subst e eσ
  have hA:Asgs C [.Name "whole" t1,.Name "frame" t2] [.bool b,fr] (gS a w f) (gS a (some (.bool b)) (some fr)) :=
   .cons (Asg_name O (.there .here)) (.cons (Asg_name O (.there (.there .here))) .nil fun V V=>rfl) fun V V=>rfl
  exact (qdu O hA).go _ i' s' v R' hv _ _ fun s2 R2=>⟨rfl,b,fr,x',M1',i',hs,h1,h2,h3,R2⟩
 ·subst eσ
  exact ⟨cls,c2,M1',i',hs,h1,F⟩
end
noncomputable abbrev backT1 (genv:Env) (x:Value):Sem Unit:=do
 if (← field x 1) == Value.none then unsupported "frame.own-activation:exception-without-traceback"
 setFlight x genv.frame
noncomputable abbrev K0:Flow→Sem Fin:=fun f=>.pure (.done (.ret (match f with | .ret v=>v | _=>.none)))
noncomputable abbrev H0 (genv:Env):Value→Sem Fin:=fun e=>(leaving genv e).wrap (fun V=>.raise e) .raise id id
noncomputable abbrev qd1 (tB:Stmt) (q2 q3 q4 q5 q6 q7 q8:Pos) (j:Nat):List Stmt:=[.If (.Compare (.Name "frame" q2) [.IsNot] [.Constant .none j q3] q4) [.Expr (.Yield (some (.Name "frame" q5)) q6) q7] [] q8,tB]
noncomputable abbrev cW (genv:Env) (q1:Pos) (B:List Stmt):Code:=.whileLoop (.Name "whole" q1) B [] genv
noncomputable abbrev KW (cw:Code):Flow→Sem Fin:=fun f=>match f with
 | .next | .cont=>.pure (.again cw)
 | .brk=>.pure (.done .next)
 | .ret v=>.pure (.done (.ret v))
noncomputable abbrev HW (genv:Env):Value→Sem Fin:=fun e=>(do noteFrame e genv;theTreesLotGoes e:Sem Unit).wrap (fun V=>.raise e) .raise id id
structure KOk (M:Model) (A:Around) (body:List Stmt) (genv:Env) (kk:Result→Sem Fin):Prop where
 ok:∀ s Φ,Turn M A (.func body genv) (.pure (.done (.ret .none))) [] s Φ→Turn M A (.func body genv) (kk (.ok .next)) [] s Φ
 err:∀ e s Φ,wpAny M (A.over (.func body genv) []) (backT1 genv e) (fun V s'=>Turn M A (.func body genv) (H0 genv e) [] s' Φ) (fun x s'=>Turn M A (.func body genv) (H0 genv x) [] s' Φ) s→Turn M A (.func body genv) (kk (.error e)) [] s Φ
section
variable {St:Type}
inductive GRet (C:Cx) (genv:Env) (m:Str→Option Value) (kc:List Cell) (c:Cell) (g1:Array GenState) (a:Addr) (I:St→List (Addr×AO)→Prop) (T:St→Bool→D→St→Prop) (Jm:St→Prop) (M2:List (Addr×AO)) (imm0:List Cell) (fl:Flow) (s':Shared):Prop
 | mk (h:fl=.ret .none) (y:St) (fr:D) (x':St) (M1:List (Addr×AO)) (imm:List Cell):imm0⊆imm→Jm y→T y false fr x'→I x' M1→Rel (C.genr genv C.A m kc c g1) ⟨gS a (some (.bool false)) (some fr),M1++M2⟩ imm s'→GRet C genv m kc c g1 a I T Jm M2 imm0 fl s'
inductive GErr (C:Cx) (c:Cell) (g1:Array GenState) (ρ:List Slot) (Er:St→Value→Value→List (Addr×AO)→Prop) (Jm:St→Prop) (M2:List (Addr×AO)) (imm0:List Cell) (e:Value) (s':Shared):Prop
 | mk (y:St) (cls c2:Value) (M1:List (Addr×AO)) (imm:List Cell):imm0⊆imm→Jm y→Er y cls c2 M1→Fly C ⟨ρ,M1++M2⟩ imm e cls c2 s'→(∀ (i:Nat) (x:GenState),g1[i]?=some x→s'.gens[i]?=some x)→s'.heap.get? c.1=some c.2→GErr C c g1 ρ Er Jm M2 imm0 e s'
inductive GSus (C:Cx) (body:List Stmt) (genv:Env) (kk:Result→Sem Fin) (cw:Code) (REST:Sem Fin) (m:Str→Option Value) (kc:List Cell) (c:Cell) (g1:Array GenState) (a:Addr) (I:St→List (Addr×AO)→Prop) (T:St→Bool→D→St→Prop) (Jm:St→Prop) (M2:List (Addr×AO)) (imm0:List Cell) (v:Value) (gd:Bool) (k:Resume→Sem Fin) (c':Code) (fs:List Frame) (s':Shared):Prop
 | mk (h1:gd=false) (p':Pos) (h2:c'=cw) (h3:fs=[gF body genv kk p']) (h4:∀ s'' Ψ,Turn C.M C.A.in1 cw REST [gF body genv kk p'] s'' Ψ→Turn C.M C.A.in1 cw (k (.send .none)) [gF body genv kk p'] s'' Ψ) (y:St) (f:Addr) (x':St) (M1:List (Addr×AO)) (imm:List Cell) :
  imm0⊆imm→v=.ref f→Jm y→T y true (.val (.ref f)) x'→I x' M1→Rel (C.genr genv C.A m kc c g1) ⟨gS a (some (.bool true)) (some (.val (.ref f))),M1++M2⟩ imm s'→GSus C body genv kk cw REST m kc c g1 a I T Jm M2 imm0 v gd k c' fs s'
def GPost (C:Cx) (body:List Stmt) (genv:Env) (kk:Result→Sem Fin) (cw:Code) (REST:Sem Fin) (m:Str→Option Value) (kc:List Cell) (c:Cell) (g1:Array GenState) (ρ:List Slot) (a:Addr) (I:St→List (Addr×AO)→Prop) (T:St→Bool→D→St→Prop) (Er:St→Value→Value→List (Addr×AO)→Prop) (Jm:St→Prop) (M2:List (Addr×AO)) (imm0:List Cell) (e:End) (s':Shared):Prop :=
 match e with
 | .ret (.ok fl)=>GRet C genv m kc c g1 a I T Jm M2 imm0 fl s'
 | .ret (.error e)=>GErr C c g1 ρ Er Jm M2 imm0 e s'
 | .susp v gd _ k c' _ fs=>GSus C body genv kk cw REST m kc c g1 a I T Jm M2 imm0 v gd k c' fs s'
variable {C:Cx}{k:Nat}{a:Addr}{I:St→List (Addr×AO)→Prop}{T:St→Bool→D→St→Prop}{Er:St→Value→Value→List (Addr×AO)→Prop}{mu:St→Nat}{M1 M2:List (Addr×AO)}{x:St}{imm imm0:List Cell}{s:Shared}
 {f:Addr}{fd:FuncData}{body:List Stmt}{L:Nat}{kk:Result→Sem Fin}{m:Str→Option Value}{kc:List Cell}{c:Cell}{g1:Array GenState}{ρ:List Slot}{Jm:St→Prop}{t1 t2 t3 t4 t5 t6 t7 q1 q2 q3 q4 q5 q6 q7 q8 p:Pos}{j kt:Nat}
structure Wake (C:Cx) (k:Nat) (f:Addr) (fd:FuncData) (body:List Stmt) (L:Nat) (a:Addr) (I:St→List (Addr×AO)→Prop) (T:St→Bool→D→St→Prop) (Er:St→Value→Value→List (Addr×AO)→Prop) (mu:St→Nat) (kk:Result→Sem Fin)
 (m:Str→Option Value) (kc:List Cell) (g1:Array GenState) (ρ:List Slot) (Jm:St→Prop) (imm0:List Cell):Prop where
 O:Ok C (k+1)
 G:OkR C
 TK:Taker C k a I T Er mu
 GR:GnRec C.w.params f fd body
 hcl:(callEnvC fd L f).cells=[]
 ab:C.base.objs.size≤C.env.locals
 N:Names C ρ m kc imm0
 gs:∀ w fr,GSlots (callEnvC fd L f) (gS a w fr)
 hg:∀ (i:Nat) (x:GenState),C.gens[i]?=some x→g1[i]?=some x
 skip:∀ x x',Jm x→T x true .none x'→Jm x'
 K:KOk C.M C.A.in1 body (callEnvC fd L f) kk
theorem qgs (Wk:Wake C k f fd body L a I T Er mu kk m kc g1 ρ Jm imm0) {A':Around} (ag:AGen C.A A' (callEnvC fd L f)) {e cls c2:Value}{w fr:Option D}{cw:Code}{REST:Sem Fin} (hs:imm0⊆imm) (hJ:Jm x) (hE:Er x cls c2 M1) (F:Fly (C.genr (callEnvC fd L f) A' m kc c g1) ⟨gS a w fr,M1++M2⟩ imm e cls c2 s) :
 Turn C.M C.A.in1 (.func body (callEnvC fd L f)) (H0 (callEnvC fd L f) e) [] s (GPost C body (callEnvC fd L f) kk cw REST m kc c g1 ρ a I T Er Jm M2 imm0):=by
 refine qaz qgx (qap ?_)
 refine fly_out Wk.ab Wk.G F (Wk.gs _ _) (Wk.N.mono hs) rfl ag.fr ?_ Wk.hg fun s' F' hg' hc'=>?_
 ·obtain ⟨frs,h1,_⟩:=Wk.G.ex
  exact ((agen0 (A:=C.A)).fr _ h1).trans (ag.fr _ h1).symm
 ·show Turn C.M C.A.in1 (.func body (callEnvC fd L f)) (leafOf (.error e)) [] s' _
  exact turn_end (.error e) ⟨x,cls,c2,M1,imm,hs,hJ,hE,F',hg',hc'⟩
theorem qfh (Wk:Wake C k f fd body L a I T Er mu kk m kc g1 ρ Jm imm0) {B:List Stmt}{e cls c2:Value}{w fr:Option D}{REST:Sem Fin} (hs:imm0⊆imm) (hJ:Jm x) (hE:Er x cls c2 M1)
 (F:Fly (C.genr (callEnvC fd L f) (C.A.in1.over (cW (callEnvC fd L f) q1 B) [gF body (callEnvC fd L f) kk p]) m kc c g1) ⟨gS a w fr,M1++M2⟩ imm e cls c2 s) :
 Turn C.M C.A.in1 (cW (callEnvC fd L f) q1 B) (HW (callEnvC fd L f) e) [gF body (callEnvC fd L f) kk p] s (GPost C body (callEnvC fd L f) kk (cW (callEnvC fd L f) q1 B) REST m kc c g1 ρ a I T Er Jm M2 imm0):=by
 have ag:AGen C.A (C.A.in1.over (cW (callEnvC fd L f) q1 B) [gF body (callEnvC fd L f) kk p]) (callEnvC fd L f):=agenW
 have Og:=okGen (m:=m) (kc:=kc) (c:=c) (g:=g1) Wk.O Wk.GR Wk.hcl ag
 have Gg:=okRGen (m:=m) (kc:=kc) (c:=c) (g:=g1) Wk.O Wk.G ag
 obtain ⟨b,fl,rfl,hfl,x1⟩:=F.open
 refine qaz qel (qap (wpAny_bind ?_))
 refine x1.note (A':=C.A.in1.over (cW (callEnvC fd L f) q1 B) [gF body (callEnvC fd L f) kk p]) Gg rfl hfl fun s2 x2=>wpAny_theTreesLotGoes ?_
 show Turn C.M C.A.in1 _ (leafOf (.error (.ref b))) [gF body (callEnvC fd L f) kk p] s2 _
 refine qgt (.error (.ref b)) rfl (Wk.K.err _ _ _ ?_)
 refine x2.back (A':=C.A.in1.over (.func body (callEnvC fd L f)) []) (E:=fun e s'=>Turn C.M C.A.in1 (.func body (callEnvC fd L f)) (H0 (callEnvC fd L f) e) [] s' _) Gg fun s3 x3=>?_
 exact qgs Wk ag hs hJ hE (x3.fly (.inr (.inr rfl)))
end
section
variable {St:Type}{C:Cx}{k:Nat}{a:Addr}{I:St→List (Addr×AO)→Prop}{T:St→Bool→D→St→Prop}{Er:St→Value→Value→List (Addr×AO)→Prop}{mu:St→Nat}{M1 M2:List (Addr×AO)}{x:St}{imm imm0:List Cell}{s:Shared}
 {f:Addr}{fd:FuncData}{body:List Stmt}{L:Nat}{kk:Result→Sem Fin}{m:Str→Option Value}{kc:List Cell}{c:Cell}{g1:Array GenState}{ρ:List Slot}{Jm:St→Prop}{t1 t2 t3 t4 t5 t6 t7 q1 q2 q3 q4 q5 q6 q7 q8 p:Pos}{j kt:Nat}
theorem Taker.gen {A1:Around}{genv:Env} (h:Taker C k a I T Er mu):Taker (C.genr genv A1 m kc c g1) k a I T Er mu:=⟨h.take,h.inst,h.dec,h.stop⟩
noncomputable abbrev REST (genv:Env) (tB:Stmt) (cw:Code):Sem Fin:=(execs [tB] genv).wrap (KW cw) (HW genv) id id
theorem qfg (Wk:Wake C k f fd body L a I T Er mu kk m kc g1 ρ Jm imm0) {x y:St}{fr:D}{M1:List (Addr×AO)}{imm:List Cell}{s:Shared}{A1:Around}{B:List Stmt}{RS:Sem Fin} (hs:imm0⊆imm) (hJ:Jm x) (hT:T x false fr y) (hI:I y M1)
 (R:Rel (C.genr (callEnvC fd L f) A1 m kc c g1) ⟨gS a (some (.bool false)) (some fr),M1++M2⟩ imm s) :
 Turn C.M C.A.in1 (cW (callEnvC fd L f) q1 B) (C.M.den (cW (callEnvC fd L f) q1 B)) [gF body (callEnvC fd L f) kk p] s (GPost C body (callEnvC fd L f) kk (cW (callEnvC fd L f) q1 B) RS m kc c g1 ρ a I T Er Jm M2 imm0):=by
 have ag:AGen C.A (C.A.in1.over (cW (callEnvC fd L f) q1 B) [gF body (callEnvC fd L f) kk p]) (callEnvC fd L f):=agenW
 have Og:=okGen (m:=m) (kc:=kc) (c:=c) (g:=g1) Wk.O Wk.GR Wk.hcl ag
 refine qd3 qel ?_
 refine (T_name (C:=C.genr (callEnvC fd L f) _ m kc c g1) (X_name Og (.there .here)) Tr_bool).go imm s R.around _ _ fun i1 s1 hs1 R1=>?_
 rw [if_neg bft]
 show Turn C.M C.A.in1 _ (leafOf (.ok .next)) [gF body (callEnvC fd L f) kk p] s1 _
 refine qgt (.ok .next) rfl (Wk.K.ok _ _ ?_)
 show Turn C.M C.A.in1 _ (leafOf (.ok (.ret .none))) [] s1 _
 exact turn_end (.ok (.ret .none)) ⟨rfl,x,fr,y,M1,i1,qa0 hs hs1,hJ,hT,hI,R1.around⟩
theorem qgu (hpos:(t5.endLine == t6.line)=true) (Wk:Wake C k f fd body L a I T Er mu kk m kc g1 ρ Jm imm0) :
 ∀ (N:Nat) (x:St) (b:Bool) (fr:D) (y:St) (M1:List (Addr×AO)) (imm:List Cell) (s:Shared) (A1:Around) (p:Pos),(b=true→mu y<N)→imm0⊆imm→Jm x→(fr=D.none∨∃ f,fr=.val (.ref f))→T x b fr y→I y M1 →
  Rel (C.genr (callEnvC fd L f) A1 m kc c g1) ⟨gS a (some (.bool b)) (some fr),M1++M2⟩ imm s →
  Turn C.M C.A.in1 (cW (callEnvC fd L f) q1 (qd1 (qaq t1 t2 t3 t4 t5 t6 t7 kt) q2 q3 q4 q5 q6 q7 q8 j)) (C.M.den (cW (callEnvC fd L f) q1 (qd1 (qaq t1 t2 t3 t4 t5 t6 t7 kt) q2 q3 q4 q5 q6 q7 q8 j))) [gF body (callEnvC fd L f) kk p] s
   (GPost C body (callEnvC fd L f) kk (cW (callEnvC fd L f) q1 (qd1 (qaq t1 t2 t3 t4 t5 t6 t7 kt) q2 q3 q4 q5 q6 q7 q8 j)) (REST (callEnvC fd L f) (qaq t1 t2 t3 t4 t5 t6 t7 kt) (cW (callEnvC fd L f) q1 (qd1 (qaq t1 t2 t3 t4 t5 t6 t7 kt) q2 q3 q4 q5 q6 q7 q8 j))) m kc c g1 ρ a I T Er Jm M2 imm0):=by
 intro N
 induction N with
 | zero =>
  intro x b fr y M1 imm s A1 p hb hs hJ hfr hT hI R
  cases b with
  | true=>exact absurd (hb rfl) (Nat.not_lt_zero _)
  | false=>exact qfg Wk hs hJ hT hI R
 | succ N ih =>
  intro x b fr y M1 imm s A1 p hb hs hJ hfr hT hI R
  cases b with
  | false=>exact qfg Wk hs hJ hT hI R
  | true =>
   have ag:AGen C.A (C.A.in1.over (cW (callEnvC fd L f) q1 (qd1 (qaq t1 t2 t3 t4 t5 t6 t7 kt) q2 q3 q4 q5 q6 q7 q8 j)) [gF body (callEnvC fd L f) kk p]) (callEnvC fd L f):=agenW
   have Og:=okGen (m:=m) (kc:=kc) (c:=c) (g:=g1) Wk.O Wk.GR Wk.hcl ag
   have Gg:=okRGen (m:=m) (kc:=kc) (c:=c) (g:=g1) Wk.O Wk.G ag
   refine qd3 qel ?_
   refine (T_name (C:=C.genr (callEnvC fd L f) _ m kc c g1) (X_name Og (.there .here)) Tr_bool).go imm s R.around _ _ fun i1 s1 hs1 R1=>?_
   rw [if_pos rfl]
   refine qc5 (turn_if qel ?_)
   rcases hfr with rfl | ⟨fa,rfl⟩
   ·refine (T_cmp (C:=C.genr (callEnvC fd L f) _ m kc c g1) (X_name Og (.there (.there .here))) X_none Cmp_isNot0 rfl).go i1 s1 R1 _ _ fun i2 s2 hs2 R2=>?_
    rw [if_neg bft]
    refine qfy (qc5 (qaz qel (qa4 (take_go (C:=C.genr (callEnvC fd L f) _ m kc c g1) hpos Og Gg Wk.TK.gen hI R2) (fun fl s3 h3=>?_) fun e s3 h3=>?_)))
    ·obtain ⟨rfl,b',fr',y',M1',i3,hs3,hfr',hT',hI',R3⟩:=h3
     refine qfy (qfi rfl rfl ?_)
     exact ih y b' fr' y' M1' i3 s3 _ p (fun e=>by subst e;have:=Wk.TK.dec _ _ _ hT';have:=hb rfl;lia) (qa0 hs (qa0 hs1 (qa0 hs2 hs3))) (Wk.skip _ _ hJ hT) hfr' hT' hI' R3
    ·obtain ⟨cls,c2,M1',i3,hs3,hE,F⟩:=h3
     exact qfh Wk (qa0 hs (qa0 hs1 (qa0 hs2 hs3))) (Wk.skip _ _ hJ hT) hE F
   ·refine (T_cmp (C:=C.genr (callEnvC fd L f) _ m kc c g1) (X_name Og (.there (.there .here))) X_none (Cmp_isNot (by intro h;cases h)) rfl).go i1 s1 R1 _ _ fun i2 s2 hs2 R2=>?_
    rw [if_pos rfl]
    refine qc5 (qf8 qel rfl ?_ Wk.GR.hc (by unfold interactive;rw [show (callEnvC fd L f).scope.kind=.function from Wk.GR.hk];rfl))
    refine (X_name (C:=C.genr (callEnvC fd L f) _ m kc c g1) (d:=.val (.ref fa)) Og (.there (.there .here))).goV i2 s2 R2 _ _ fun i3 s3 hs3 R3=>?_
    intro k' p' l' hk
    exact ⟨rfl,p,rfl,rfl,hk,x,fa,y,M1,i3,qa0 hs (qa0 hs1 (qa0 hs2 hs3)),rfl,hJ,hT,hI,R3.around⟩
theorem turn_rest (hpos:(t5.endLine == t6.line)=true) (Wk:Wake C k f fd body L a I T Er mu kk m kc g1 ρ Jm imm0) {w fr:Option D}{A1:Around} (hs:imm0⊆imm) (hJ:Jm x) (hI:I x M1) (R:Rel (C.genr (callEnvC fd L f) A1 m kc c g1) ⟨gS a w fr,M1++M2⟩ imm s) :
 Turn C.M C.A.in1 (cW (callEnvC fd L f) q1 (qd1 (qaq t1 t2 t3 t4 t5 t6 t7 kt) q2 q3 q4 q5 q6 q7 q8 j)) (REST (callEnvC fd L f) (qaq t1 t2 t3 t4 t5 t6 t7 kt) (cW (callEnvC fd L f) q1 (qd1 (qaq t1 t2 t3 t4 t5 t6 t7 kt) q2 q3 q4 q5 q6 q7 q8 j))) [gF body (callEnvC fd L f) kk p] s
  (GPost C body (callEnvC fd L f) kk (cW (callEnvC fd L f) q1 (qd1 (qaq t1 t2 t3 t4 t5 t6 t7 kt) q2 q3 q4 q5 q6 q7 q8 j)) (REST (callEnvC fd L f) (qaq t1 t2 t3 t4 t5 t6 t7 kt) (cW (callEnvC fd L f) q1 (qd1 (qaq t1 t2 t3 t4 t5 t6 t7 kt) q2 q3 q4 q5 q6 q7 q8 j))) m kc c g1 ρ a I T Er Jm M2 imm0):=by
 have ag:AGen C.A (C.A.in1.over (cW (callEnvC fd L f) q1 (qd1 (qaq t1 t2 t3 t4 t5 t6 t7 kt) q2 q3 q4 q5 q6 q7 q8 j)) [gF body (callEnvC fd L f) kk p]) (callEnvC fd L f):=agenW
 have Og:=okGen (m:=m) (kc:=kc) (c:=c) (g:=g1) Wk.O Wk.GR Wk.hcl ag
 have Gg:=okRGen (m:=m) (kc:=kc) (c:=c) (g:=g1) Wk.O Wk.G ag
 refine qc5 (qaz qel (qa4 (take_go (C:=C.genr (callEnvC fd L f) _ m kc c g1) hpos Og Gg Wk.TK.gen hI R.around) (fun fl s3 h3=>?_) fun e s3 h3=>?_))
 ·obtain ⟨rfl,b',fr',y',M1',i3,hs3,hfr',hT',hI',R3⟩:=h3
  refine qfy (qfi rfl rfl ?_)
  exact qgu hpos Wk (mu y'+1) x b' fr' y' M1' i3 s3 _ p (fun V=>Nat.lt_succ_self _) (qa0 hs hs3) hJ hfr' hT' hI' R3
 ·obtain ⟨cls,c2,M1',i3,hs3,hE,F⟩:=h3
  exact qfh Wk (qa0 hs hs3) hJ hE F
theorem turn_start (hpos:(t5.endLine == t6.line)=true) {t1' t2' t3' t4' t5' t6' t7' q9:Pos}{kt':Nat} (hpos':(t5'.endLine == t6'.line)=true)
 (hb:body=[qaq t1' t2' t3' t4' t5' t6' t7' kt',.While (.Name "whole" q1) (qd1 (qaq t1 t2 t3 t4 t5 t6 t7 kt) q2 q3 q4 q5 q6 q7 q8 j) [] q9])
 (Wk:Wake C k f fd body L a I T Er mu kk m kc g1 ρ Jm imm0) (hkk:kk=fun r=>((match r with | .ok f=>(.pure f:Sem Flow) | .error e=>.raise e).onRaise (backT1 (callEnvC fd L f))).wrap (fun (f':Flow)=>match f' with | .next=>(execs [] (callEnvC fd L f)).wrap K0 (H0 (callEnvC fd L f)) id id | f'=>K0 f') (H0 (callEnvC fd L f)) id id)
 {w fr:Option D}{A1:Around} (hs:imm0⊆imm) (hJ:Jm x) (hI:I x M1) (R:Rel (C.genr (callEnvC fd L f) A1 m kc c g1) ⟨gS a w fr,M1++M2⟩ imm s) :
 Turn C.M C.A.in1 (.func body (callEnvC fd L f)) (C.M.den (.func body (callEnvC fd L f))) [] s
  (GPost C body (callEnvC fd L f) kk (cW (callEnvC fd L f) q1 (qd1 (qaq t1 t2 t3 t4 t5 t6 t7 kt) q2 q3 q4 q5 q6 q7 q8 j)) (REST (callEnvC fd L f) (qaq t1 t2 t3 t4 t5 t6 t7 kt) (cW (callEnvC fd L f) q1 (qd1 (qaq t1 t2 t3 t4 t5 t6 t7 kt) q2 q3 q4 q5 q6 q7 q8 j))) m kc c g1 ρ a I T Er Jm M2 imm0):=by
 have ag:AGen C.A (C.A.in1.over (.func body (callEnvC fd L f)) []) (callEnvC fd L f):=agen0
 have Og:=okGen (m:=m) (kc:=kc) (c:=c) (g:=g1) Wk.O Wk.GR Wk.hcl ag
 have Gg:=okRGen (m:=m) (kc:=kc) (c:=c) (g:=g1) Wk.O Wk.G ag
 refine turn_func qgx ?_
 rw [congrArg (fun b=>execs b (callEnvC fd L f)) hb]
 refine qc5 (qaz qgx (qa4 (take_go (C:=C.genr (callEnvC fd L f) _ m kc c g1) hpos' Og Gg Wk.TK.gen hI R.around) (fun fl s3 h3=>?_) fun e s3 h3=>?_))
 ·obtain ⟨rfl,b',fr',y',M1',i3,hs3,hfr',hT',hI',R3⟩:=h3
  refine qc5 (turn_while qgx fun p=>?_)
  have:=qgu (q1:=q1) (q2:=q2) (q3:=q3) (q4:=q4) (q5:=q5) (q6:=q6) (q7:=q7) (q8:=q8) (j:=j) (c:=c) (M2:=M2) (t1:=t1) (t2:=t2) (t3:=t3) (t4:=t4) (t7:=t7) (kt:=kt) hpos Wk (mu y'+1) x b' fr' y' M1' i3 s3 _ p (fun V=>Nat.lt_succ_self _) (qa0 hs hs3) hJ hfr' hT' hI' R3
  rw [hkk] at this ⊢
  exact this
 ·obtain ⟨cls,c2,M1',i3,hs3,hE,F⟩:=h3
  exact qgs Wk ag (qa0 hs hs3) hJ hE F
end
section
variable {M:Model}{A:Around}{E:Value→Shared→Prop}{s:Shared}{env:Env}
theorem qfd {c:Code}{h:Option Value}{Q:Flow→Shared→Prop} (hc:qbe M (A.mark h) c (fun r s'=>match r with | .ok f=>Q f s' | .error e=>cameBackBy M A env E e s') s) (hd:qak c=false) (hnb:h≠some byPass:=by walk_at "n"):wpC M A (runOwn c env h) Q E s:=by
 unfold runOwn
 exact qd6 (wpC_run hc hd hnb)
theorem wpC_For {target iter:Expr}{body orelse:List Stmt}{pos:Pos}{Q:Flow→Shared→Prop}
 (h:wpAny M A (eval iter env) (fun x s₁=>wpAny M A (pyIter x) (fun it s₂=>qbe M A (.forLoop target it body orelse env) (fun r s'=>match r with | .ok f=>Q f s' | .error e=>cameBackBy M A env E e s') s₂) E s₁) E s)
 (hs:∀ x,foldedSetIterable iter env x=pure x):wpC M A (exec (.For target iter body orelse pos) env) Q E s:=by
 rw [exec_For]
 refine qa1 (wpAny_standAt ?_)
 refine qa1 (wpAny_mono h (fun x s₁ h₁=>?_) fun V V h'=>h')
 refine qa1 (wpAny_of_eq (hs x) ?_)
 refine qa1 (wpAny_standAt ?_)
 refine qa1 (wpAny_holding (wpAny_mono h₁ (fun it s₂ h₂=>?_) fun V V h'=>h'))
 exact qfd h₂ rfl
theorem wpC_While {test:Expr}{body orelse:List Stmt}{pos:Pos}{Q:Flow→Shared→Prop}
 (h:qbe M A (.whileLoop test body orelse env) (fun r s'=>match r with | .ok f=>Q f s' | .error e=>cameBackBy M A env E e s') s):wpC M A (exec (.While test body orelse pos) env) Q E s:=by
 rw [exec_While];exact qa1 (wpAny_standAt (qfd h rfl))
theorem qgq {α:Type}{t:Sem α}{Q:α→Shared→Prop} (h:wpC M A t Q (notedBy M A env E) s):wpC M A (t.onRaise fun x=>do noteFrame x env;theTreesLotGoes x) Q E s :=
 qd6 (qa4 h (fun V V q=>q) fun V V hx=>wpAny_bind (wpAny_mono hx (fun V V e=>wpAny_theTreesLotGoes e) fun V V e=>e))
end
section
variable {prog:Program}{w:World}{A:Around}{s:Shared}{R:Result→Shared→Prop}
theorem codeC_for {target:Expr}{it:Value}{body:List Stmt}{env:Env} (I:Nat→Shared→Prop)
 (turn:∀ n s,I n s→wpC (model prog w) A (pyNext it) (fun r s₁=>match r with
  | none=>R (.ok .next) s₁
  | some v=>wpAny (model prog w) A (letOwnedTupleGo target it v) (fun V s₀=>wpAny (model prog w) A (assign target env v) (fun V s₂=>wpC (model prog w) A (execs body env) (fun f s₃=>match f with
   | .next | .cont=>∃ m,m<n∧I m s₃
   | .brk=>R (.ok .next) s₃
   | .ret v=>R (.ok (.ret v)) s₃) (notedBy (model prog w) A env fun e s'=>R (.error e) s') s₂) (notedBy (model prog w) A env fun e s'=>R (.error e) s') s₀) (notedBy (model prog w) A env fun e s'=>R (.error e) s') s₁) (notedBy (model prog w) A env fun e s'=>R (.error e) s') s)
 (n:Nat) (h:I n s):qbe (model prog w) A (.forLoop target it body [] env) R s:=by
 refine qfn rfl rfl I (fun n s hI=>?_) n h
 show wpC _ _ ((forTurn target it body [] env).onRaise (fun x=>do noteFrame x env;theTreesLotGoes x)) _ _ s
 refine qgq ?_
 unfold forTurn
 refine qa1 (wpAny_standAt (qae (qd6 (qa4 (turn n s hI) (fun r s₁ h₁=>?_) fun V V h'=>wpAny_standAt h'))))
 cases r with
 | none=>exact qa8 (.inr ⟨rfl,rfl,codeC_of (codeAny_block (wpAny_execs_nil h₁))⟩)
 | some v =>
  refine qa1 (wpAny_mono h₁ (fun V s₀ h₀=>?_) fun V V h'=>h')
  refine qa1 (wpAny_mono h₀ (fun V s₂ h₂=>?_) fun V V h'=>h')
  refine qae (qa4 h₂ (fun f s₃ h₃=>?_) fun V V h'=>h')
  cases f with
  | next=>exact qa8 (.inl ⟨rfl,h₃⟩)
  | cont=>exact qa8 (.inl ⟨rfl,h₃⟩)
  | brk=>exact qa8 h₃
  | ret v=>exact qa8 h₃
theorem codeC_while {test:Expr}{body:List Stmt}{env:Env} (I:Nat→Shared→Prop)
 (turn:∀ n s,I n s→wpAny (model prog w) A (isTrue test env (eval test env)) (fun b s₂ =>
  if b=true then wpC (model prog w) A (execs body env) (fun f s₃=>match f with
   | .next | .cont=>∃ m,m<n∧I m s₃
   | .brk=>R (.ok .next) s₃
   | .ret v=>R (.ok (.ret v)) s₃) (notedBy (model prog w) A env fun e s'=>R (.error e) s') s₂
  else R (.ok .next) s₂) (notedBy (model prog w) A env fun e s'=>R (.error e) s') s)
 (n:Nat) (h:I n s):qbe (model prog w) A (.whileLoop test body [] env) R s:=by
 refine qfn rfl rfl I (fun n s hI=>?_) n h
 show wpC _ _ ((whileTurn test body [] env).onRaise (fun x=>do noteFrame x env;theTreesLotGoes x)) _ _ s
 refine qgq ?_
 unfold whileTurn
 refine qa1 (wpAny_mono (turn n s hI) (fun b s₂ h₂=>?_) fun V V h'=>h')
 cases b with
 | false=>exact qap (wpAny_bind (wpAny_execs_nil (wpAny_pure h₂)))
 | true =>
  refine qae (qa4 h₂ (fun f s₃ h₃=>?_) fun V V h'=>h')
  cases f with
  | next=>exact qa8 (.inl ⟨rfl,h₃⟩)
  | cont=>exact qa8 (.inl ⟨rfl,h₃⟩)
  | brk=>exact qa8 h₃
  | ret v=>exact qa8 h₃
end
section
variable {C:Cx}{σ:AS}{n:Nat}{imm:List Cell}{s:Shared}
theorem RelX.gensTo {m os kc fs} (R:RelX C σ imm s m os kc fs) {g:Array GenState} (hg:(∀ (i:Nat) (x:GenState),C.gens[i]?=some x→g[i]?=some x)∧AllBare g):RelX C σ imm ⟨s.heap,g,s.drawn,s.toks,s.os⟩ m os kc fs :=
 { fr:=R.fr,nw:=R.nw,mu:=R.mu,kd:=R.kd,nd:=R.nd,ap:=R.ap,ah:=R.ah,hn:=R.hn,ou:=R.ou,nm:=R.nm,kn:=R.kn,va:=R.va,cc:=R.cc,gn:=hg,so:=R.so }
theorem Fly.gensTo {e cls c2:Value} (F:Fly C σ imm e cls c2 s) {g:Array GenState} (hg:(∀ (i:Nat) (x:GenState),C.gens[i]?=some x→g[i]?=some x)∧AllBare g):Fly C σ imm e cls c2 ⟨s.heap,g,s.drawn,s.toks,s.os⟩:=by
 obtain ⟨frs,m,os,kc,fs,B,a,fl,h1,h2,h3,R,h5,h6,h7⟩:=F
 exact ⟨frs,m,os,kc,fs,B,a,fl,h1,h2,h3,R.gensTo hg,h5,h6,h7⟩
theorem Fly.gns {e cls c2:Value} (F:Fly C σ imm e cls c2 s):(∀ (i:Nat) (x:GenState),C.gens[i]?=some x→s.gens[i]?=some x)∧AllBare s.gens:=by
 obtain ⟨frs,m,os,kc,fs,B,a,fl,h1,h2,h3,R,h5,h6,h7⟩:=F
 exact R.gn
theorem qeb {g:Nat}{y:GenState}{G1:Array GenState} (hb:y.bare=true) (h1:∀ (i:Nat) (x:GenState),G1[i]?=some x→i≠g→s.gens[i]?=some x) (h2:AllBare s.gens) :
 (∀ (i:Nat) (x:GenState),G1[i]?=some x→i≠g→(s.setGen g y).gens[i]?=some x)∧AllBare (s.setGen g y).gens:=by
 refine ⟨fun i x h hi=>?_,fun z hz=>?_⟩
 ·rw [(GenOnly.setGen s g y).2 i hi];exact h1 i x h hi
 ·obtain ⟨i,hi,rfl⟩:=Array.mem_iff_getElem.mp hz
  by_cases e:i=g
  ·subst e
   have hi':i<s.gens.size:=by have:=(GenOnly.setGen s i y).1;lia
   have h3:=setGen_self (x:=y) (Array.getElem?_eq_getElem hi')
   rw [Array.getElem?_eq_getElem hi] at h3
   rw [Option.some.inj h3];exact hb
  ·have hi':i<s.gens.size:=by have:=(GenOnly.setGen s g y).1;lia
   have h3:=(GenOnly.setGen s g y).2 i e
   rw [Array.getElem?_eq_getElem hi,Array.getElem?_eq_getElem hi'] at h3
   rw [Option.some.inj h3]
   exact h2 _ (Array.getElem_mem hi')
end
theorem kOk {M:Model}{A:Around}{body:List Stmt}{genv:Env}:KOk M A body genv (fun r=>((match r with | .ok f=>(.pure f:Sem Flow) | .error e=>.raise e).onRaise (backT1 genv)).wrap (fun (f':Flow)=>match f' with | .next=>(execs [] genv).wrap K0 (H0 genv) id id | f'=>K0 f') (H0 genv) id id) where
 ok:=fun s Φ h=>h
 err:=fun e s Φ h=>by
  show Turn M A _ (((backT1 genv e).bind fun V=>(.raise e:Sem Flow)).wrap _ (H0 genv) id id) [] s Φ
  rw [Sem.bind_eq_wrap,Sem.wrap_wrap]
  exact qaz qgx (qap h)
def Ready (C:Cx) (body:List Stmt) (genv:Env) (kk:Result→Sem Fin) (cw:Code) (RS:Sem Fin) (gs:GenState):Prop :=
 gs=.fresh (.func body genv)∨∃ k l p p',gs=.suspended k l cw p [gF body genv kk p'] false∧∀ s'' Ψ,Turn C.M C.A.in1 cw RS [gF body genv kk p'] s'' Ψ→Turn C.M C.A.in1 cw (k (.send .none)) [gF body genv kk p'] s'' Ψ
theorem gSlots {P:Params}{L:Nat}{a:Addr}{w fr:Option D}:GSlots (callEnvC (fdAt P 320) L 320) (gS a w fr) where
 nm:=by show ([("self":Str),"whole","frame"]).Nodup;decide +kernel
 kn:=fun p hp=>by
  rcases mcj hp with rfl | hp
  ·show (fdAt P 320).scope.names.lookup _=_;kernel_rfl
  rcases mcj hp with rfl | hp
  ·show (fdAt P 320).scope.names.lookup _=_;kernel_rfl
  rw [msj hp]
  show (fdAt P 320).scope.names.lookup _=_;kernel_rfl
 nc:=fun p hp=>by
  rcases mcj hp with rfl | hp
  ·intro h;cases h
  rcases mcj hp with rfl | hp
  ·intro h;cases h
  rw [msj hp];intro h;cases h
theorem gCells {P:Params}{L:Nat}:(callEnvC (fdAt P 320) L 320).cells=[]:=by kernel_rfl
theorem gFirst {P:Params}{L:Nat}{a:Addr}{imm:List Cell}:GVars (callEnvC (fdAt P 320) L 320) (bindL (callEnvC (fdAt P 320) L 320).kindOf [(("self":Str),.ref a)] fun V=>none) imm (gS a none none):=fun p hp d e=>by
 rcases mcj hp with rfl | hp
 ·cases e
  exact .loc (v:=.ref a) (by kernel_rfl) (.val _)
 rcases mcj hp with rfl | hp
 ·cases e
 rw [msj hp] at e;cases e
inductive GInv {St:Type} (C:Cx) (a:Addr) (I:St→List (Addr×AO)→Prop) (J:St→List Slot→List (Addr×AO)→Prop) (mu:St→Nat) (body:List Stmt) (genv:Env) (Lg ga:Addr) (oga:Obj) (i1:List Cell) (g:Nat) (kk:Result→Sem Fin) (cw:Code) (RS:Sem Fin) (n:Nat) (s':Shared):Prop
 | mk (x:St) (ρ':List Slot) (M1' M2':List (Addr×AO)) (mg:Str→Option Value) (Garr:Array GenState) (imm':List Cell) (gs:GenState) (w fr:Option D):n=mu x→i1⊆imm'→J x ρ' M2'→I x M1'→Rel (C.wait Lg mg (ga,oga) Garr) ⟨ρ',M1'++M2'⟩ imm' s'→GVars genv mg imm' (gS a w fr) →
  Garr[g]?=some gs→(∀ (i:Nat) (y:GenState),C.gens[i]?=some y→Garr[i]?=some y)→Ready C body genv kk cw RS gs→GInv C a I J mu body genv Lg ga oga i1 g kk cw RS n s'
section
variable {St:Type}{C:Cx}{k:Nat}{a:Addr}{I:St→List (Addr×AO)→Prop}{T:St→Bool→D→St→Prop}{Er:St→Value→Value→List (Addr×AO)→Prop}{mu:St→Nat}{M1 M2:List (Addr×AO)}{x:St}
 {t1 t2 t3 t4 t5 t6 t7 t1' t2' t3' t4' t5' t6' t7' q1 q2 q3 q4 q5 q6 q7 q8 q9:Pos}{j kt kt':Nat}{KF:Fl→AS→Prop}{KE:Value→Value→AS→Prop}{rest:List Stmt}
theorem SR_forGen (hpos:(t5.endLine == t6.line)=true) (hpos':(t5'.endLine == t6'.line)=true)
 (hb:qad (fdAt C.w.params 320)=[qaq t1' t2' t3' t4' t5' t6' t7' kt',.While (.Name "whole" q1) (qd1 (qaq t1 t2 t3 t4 t5 t6 t7 kt) q2 q3 q4 q5 q6 q7 q8 j) [] q9])
 {tgt:Str}{iter:Expr}{body:List Stmt}{pos tp:Pos}{ρ:List Slot} (O:Ok C (k+1)) (G:OkR C) (TK:Taker C k a I T Er mu)
 (hit:X C ⟨ρ,M1++M2⟩ iter (.val (.ref a))) (hA:iterA C.w.params 330 320=true) (h0:I x M1) (hs:∀ y,foldedSetIterable iter C.env y=pure y)
 (J:St→List Slot→List (Addr×AO)→Prop) (hJ0:J x ρ M2) (hskip:∀ x x' ρ M2,J x ρ M2→T x true .none x'→J x' ρ M2)
 (turn:∀ x x' fa ρ M1 M2 (C':Cx),J x ρ M2→T x true (.val (.ref fa)) x'→I x' M1→Ok C' (k+1)→OkR C'→C'.w=C.w→∃ ρ',Put tgt .local (.val (.ref fa)) ρ ρ' ∧
  SLR C' ⟨ρ',M1++M2⟩ body (fun fl σ2=>match fl with | .next | .cont=>∃ ρ2 M2',σ2=⟨ρ2,M1++M2'⟩∧J x' ρ2 M2' | _=>False) (fun V V V=>False))
 (done:∀ x x' fr ρ M1 M2,J x ρ M2→T x false fr x'→I x' M1→SLR C ⟨ρ,M1++M2⟩ rest KF KE)
 (err:∀ x cls c2 ρ M1 M2,J x ρ M2→Er x cls c2 M1→KE cls c2 ⟨ρ,M1++M2⟩) :
 SLR C ⟨ρ,M1++M2⟩ (.For (.Name tgt tp) iter body [] pos::rest) KF KE:=.mk fun imm s R=>by
 obtain ⟨p0,loose,mgl,mb,TT⟩:=O.top
 refine qax (wpC_For (hit.go imm s R _ _ fun v i1 s1 hs1 R1 hv=>?_) hs)
 cases hv
 obtain ⟨dx0,fs0,hin,_,_⟩:=TK.inst _ _ h0
 refine pyIter_own O R1 (mal _ hin) hA ?_
 obtain ⟨m1,os1,kc1,fs1,RX1⟩:=R1
 refine gen_call O rec_it RX1 (a:=.ref a) fun h' tk Lg ga oLg oga hLg ab hk hG RW=>?_
 refine ⟨ga,s1.gens.size,rfl,hG,?_⟩
 generalize hgg:s1.gens.size=g at hG
 have hCg:∀ (i:Nat) (y:GenState),C.gens[i]?=some y→i≠g:=fun i y e q=>by
  have:=(Array.getElem?_eq_some_iff.mp (RX1.gn.1 i y e)).1
  lia
 have abC:C.base.objs.size≤C.env.locals:=RX1.fr.above
 have hog:∀ h:Heap,h.get? ga=some oga→h.IsGen ga g:=fun h e=>by
  obtain ⟨o,nm,qn,ho,r⟩:=hG
  have e2:=(RW.mem_hid (p:=(ga,oga)) (.head _)).1
  have e2:h'.get? ga=some oga:=e2
  rw [ho] at e2;cases e2
  exact ⟨_,nm,qn,e,r⟩
 have hLL:(callEnvC (fdAt C.w.params 320) Lg 320).locals=Lg:=rfl
 have ks:=@kOk C.M C.A.in1 (qad (fdAt C.w.params 320)) (callEnvC (fdAt C.w.params 320) Lg 320)
 generalize hkk:(fun r:Result=>((match r with | .ok f=>(.pure f:Sem Flow) | .error e=>.raise e).onRaise (backT1 (callEnvC (fdAt C.w.params 320) Lg 320))).wrap (fun (f':Flow)=>match f' with | .next=>(execs [] (callEnvC (fdAt C.w.params 320) Lg 320)).wrap K0 (H0 (callEnvC (fdAt C.w.params 320) Lg 320)) id id | f'=>K0 f') (H0 (callEnvC (fdAt C.w.params 320) Lg 320)) id id)=kk at ks
 generalize hcw:(cW (callEnvC (fdAt C.w.params 320) Lg 320) q1 (qd1 (qaq t1 t2 t3 t4 t5 t6 t7 kt) q2 q3 q4 q5 q6 q7 q8 j))=cw
 refine codeC_for (fun n s'=>GInv C a I J mu (qad (fdAt C.w.params 320)) (callEnvC (fdAt C.w.params 320) Lg 320) Lg ga oga i1 g kk cw (REST (callEnvC (fdAt C.w.params 320) Lg 320) (qaq t1 t2 t3 t4 t5 t6 t7 kt) cw) n s') ?_ (mu x)
  ⟨x,ρ,M1,M2,_,_,i1,_,none,none,rfl,qa2,hJ0,h0,RW.rel,gFirst,by rw [← hgg];exact Array.getElem?_push_size ..,fun i y e=>by
   have hi:=(Array.getElem?_eq_some_iff.mp (RX1.gn.1 i y e)).1
   rw [Array.getElem?_push_lt hi,← RX1.gn.1 i y e];exact (Array.getElem?_eq_getElem hi).symm,.inl rfl⟩
 rintro n s' ⟨x,ρ',M1',M2',mg,Garr,imm',gs,w,fr,rfl,hi1,hJ,hI,⟨m,os,kc,fs,RX⟩,gv,hgs,hGarr,hready⟩
 have hgs':s'.gens[g]?=some gs:=RX.gn.1 g gs hgs
 have hgen:s'.heap.IsGen ga g:=hog _ (RX.mem_hid (.head _)).1
 have hbk:=RX.fr.keep
 have hlim:s'.heap.NoLimit:=TT.nolimit.keeps hbk
 have gset:=qeb (s:=s') (g:=g) (y:=.running) (G1:=s'.gens) rfl (fun i y e V=>e) RX.gn.2
 have hC1:∀ (i:Nat) (y:GenState),C.gens[i]?=some y→(s'.setGen g .running).gens[i]?=some y:=fun i y e=>gset.1 i y (RX.gn.1 i y (hGarr i y e)) (hCg i y e)
 have hrun:(s'.setGen g .running).gens[g]?=some .running:=setGen_self hgs'
 generalize hg1:(s'.setGen g .running).gens=g1 at gset hC1 hrun
 have Wk:Wake C k 320 (fdAt C.w.params 320) (qad (fdAt C.w.params 320)) Lg a I T Er mu kk m kc g1 ρ' (fun y=>J y ρ' M2'∧mu y≤mu x) imm' :=
  { O:=O,G:=G,TK:=TK,GR:=rec_it,hcl:=gCells,ab:=abC,N:=RX.names,gs:=fun V V=>gSlots,hg:=hC1,skip:=fun y y' h ht=>⟨hskip _ _ _ _ h.1 ht,Nat.le_trans (Nat.le_of_lt (TK.dec _ _ _ ht)) h.2⟩,K:=ks }
 have RG:∀ A1,Rel (C.genr (callEnvC (fdAt C.w.params 320) Lg 320) A1 m kc (ga,oga) g1) ⟨gS a w fr,M1'++M2'⟩ imm' (s'.setGen g .running):=fun A1=>by
  have:=wake_in (genv:=callEnvC (fdAt C.w.params 320) Lg 320) (A':=A1) (gg:=g1) RX ab gset.2 gv gSlots (d:=s'.drawn) (tk:=s'.toks)
  rw [← hg1] at this ⊢
  exact this
 have hgo:GoT C.M C.A.in1 gs (s'.setGen g .running) (GPost C (qad (fdAt C.w.params 320)) (callEnvC (fdAt C.w.params 320) Lg 320) kk cw (REST (callEnvC (fdAt C.w.params 320) Lg 320) (qaq t1 t2 t3 t4 t5 t6 t7 kt) cw) m kc (ga,oga) g1 ρ' a I T Er (fun y=>J y ρ' M2'∧mu y≤mu x) M2' imm'):=by
  rcases hready with rfl | ⟨k',l,p,p',rfl,hres⟩
  ·refine ⟨rfl,?_⟩
   rw [← hcw]
   exact turn_start hpos hpos' hb Wk hkk.symm qa2 ⟨hJ,Nat.le_refl _⟩ hI (RG C.A)
  ·refine ⟨by rw [← hcw];rfl,hres _ _ ?_⟩
   rw [← hcw]
   exact turn_rest hpos Wk qa2 ⟨hJ,Nat.le_refl _⟩ hI (RG C.A)
 have fin:∀ s2:Shared,(∀ (i:Nat) (y:GenState),g1[i]?=some y→s2.gens[i]?=some y)→AllBare s2.gens→∀ y:GenState,y.bare=true→(∀ (i:Nat) (z:GenState),C.gens[i]?=some z→(s2.setGen g y).gens[i]?=some z)∧AllBare (s2.setGen g y).gens∧(s2.setGen g y).gens[g]?=some y:=fun s2 h1 h2 y hy=>by
  have:=qeb (s:=s2) (g:=g) (G1:=g1) hy (fun i z e V=>h1 i z e) h2
  exact ⟨fun i z e=>this.1 i z (hC1 i z e) (hCg i z e),this.2,setGen_self (h1 g _ hrun)⟩
 refine pyNextC O.hn hlim (Nat.lt_of_le_of_lt (Nat.le_add_right _ _) O.dep) hgen hgs' hgo (fun f s2 h2=>?_) (fun e s2 h2=>?_) fun v gd l k' c' p fs' s2 h2=>?_
 ·obtain ⟨rfl,y,fr',x',M1'',i2,hs2,⟨hJy,_⟩,hT,hI',R2⟩:=h2
  refine ⟨rfl,fun h3 hk3=>?_⟩
  obtain ⟨f1,f2,f3⟩:=fin s2 R2.gns.1 R2.gns.2 .finished rfl
  obtain ⟨mg',os',fs2,RX2,_⟩:=wake_out R2 gSlots (RX.names.mono hs2) abC f2 (d:=s2.drawn) (tk:=s2.toks)
  obtain ⟨fs3,RX3⟩:=RX2.unwait f1
  have RX4:=RX3.grow (h':=h3) (fun b o e=>hk3 b o e) (d:=s2.drawn) (tk:=s2.toks)
  exact qa4 ((done y x' fr' ρ' M1'' M2' hJy hT hI').go i2 _ RX4.rel) (fun V V h=>h.up (qa0 hs1 (qa0 hi1 hs2)))
   fun V V h=>h.up (qa0 hs1 (qa0 hi1 hs2))
 ·obtain ⟨y,cls,c2,M1'',i2,hs2,⟨hJy,_⟩,hE,F,hg2,hc2⟩:=h2
  refine ⟨hog _ hc2,?_,?_⟩
  ·obtain ⟨b,fl,rfl,hfl,x1⟩:=F.open
   have kin:(K39 C.w.params).In s2.heap:=O.kin.keeps x1.rel.base_keep
   exact x1.ty.andThen (looks_subIn kin (TK.stop _ _ _ _ hE))
  ·obtain ⟨f1,f2,f3⟩:=fin s2 hg2 F.gns.2 .finished rfl
   have F2:Fly C ⟨ρ',M1''++M2'⟩ i2 e cls c2 (s2.setGen g .finished):=F.gensTo ⟨f1,f2⟩
   exact F2.passes G rfl fun s3 F3=>⟨_,i2,cls,c2,qa0 hs1 (qa0 hi1 hs2),F3,err y cls c2 ρ' M1'' M2' hJy hE⟩
 ·obtain ⟨rfl,p',rfl,rfl,hres,y,fa,x',M1'',i2,hs2,rfl,⟨hJy,hmy⟩,hT,hI',R2⟩:=h2
  refine ⟨rfl,rfl,?_⟩
  obtain ⟨f1,f2,f3⟩:=fin s2 R2.gns.1 R2.gns.2 (.suspended k' l c' p [gF (qad (fdAt C.w.params 320)) (callEnvC (fdAt C.w.params 320) Lg 320) kk p'] false) rfl
  obtain ⟨mg',os',fs2,RX2,gv2⟩:=wake_out R2 gSlots (RX.names.mono hs2) abC f2 (d:=s2.drawn) (tk:=s2.toks)
  obtain ⟨ρ2,hP,hbd⟩:=turn y x' fa ρ' M1'' M2' (C.wait Lg mg' (ga,oga) _) hJy hT hI' O.wait G.wait rfl
  refine wpAny_of_eq (rfl:letOwnedTupleGo (.Name tgt tp) (.ref ga) (.ref fa)=pure ()) ?_
  refine (Asg_name (C:=C.wait Lg mg' (ga,oga) _) O.wait hP).go (M1''++M2') i2 _ (.ref fa) RX2.rel (.val _) _ _ fun s3 R3=>?_
  refine qa4 (hbd.go i2 s3 R3) (fun fl s4 h4=>?_) fun V V h=>by cases h with | mk _ _ _ _ _ _ x=>exact x.elim
  obtain ⟨f',σ4,i4,hs4,R4,hf4,hK⟩:=h4
  have nxt:(∃ ρ2 M2'',σ4=⟨ρ2,M1''++M2''⟩∧J x' ρ2 M2'')→∃ m,m<mu x∧GInv C a I J mu (qad (fdAt C.w.params 320)) (callEnvC (fdAt C.w.params 320) Lg 320) Lg ga oga i1 g kk c' (REST (callEnvC (fdAt C.w.params 320) Lg 320) (qaq t1 t2 t3 t4 t5 t6 t7 kt) c') m s4:=by
   rintro ⟨ρ3,M2'',rfl,hJ'⟩
   exact ⟨mu x',Nat.lt_of_lt_of_le (TK.dec _ _ _ hT) hmy,x',ρ3,M1'',M2'',mg',_,i4,_,_,_,rfl,qa0 hi1 (qa0 hs2 hs4),hJ',hI',R4,gv2.mono hs4,f3,f1,.inr ⟨k',l,p,p',rfl,hres⟩⟩
  cases hf4 with
  | next=>exact nxt hK
  | cont=>exact nxt hK
  | brk=>exact hK.elim
  | ret _=>exact hK.elim
end
section
variable {C:Cx}{σ:AS}{n:Nat}{imm:List Cell}{s:Shared}{prog:Program}{w:World}{A:Around}{E:Value→Shared→Prop}{P:Params}
theorem isi_one {x Cc Ct:Addr}{ox od:Obj}{s0:Shared}{b:Bool} (X:(KK P).In s0.heap) (I:InstAt s0.heap x ox Cc (some od)) (e:isiA P Cc Ct b=true) {h₀:Heap}{L:Addr}{m:Str→Option Value} (F:Fr h₀ L s0.heap m) (X₀:(KK P).In h₀) :
 Answers (fun s'=>s'.heap=s0.heap) (.ref x) (.ref Ct) b:=fun dep tk prog w A R s' hs=>by
 obtain ⟨h1,h2⟩:=hs
 obtain ⟨hh,g,d,tt,os⟩:=s'
 obtain rfl:hh=s0.heap:=h1
 cases b with
 | true=>exact isi_nested (s:=⟨s0.heap,g,d,tt,os⟩) X I.type e (h2 tt)
 | false=>exact qeq (s:=⟨s0.heap,g,d,tt,os⟩) X I e F X₀ (h2 (tt+1))
theorem isi_nested2 {x tp Cc C1 C2:Addr}{ox od ot:Obj}{k:Nat}{b1 b2:Bool}{tk:Tok}{Q:Fin→Shared→Prop} (X:(KK P).In s.heap) (I:InstAt s.heap x ox Cc (some od)) {h₀:Heap}{L:Addr}{m:Str→Option Value} (F:Fr h₀ L s.heap m) (X₀:(KK P).In h₀) (hne:Cc≠tp)
 (htp:s.heap.get? tp=some ot) (hc:ot.cls=.type "tuple") (hd:ot.data=.seq [Value.ref C1,.ref C2].toArray k) (e1:isiA P Cc C1 b1=true) (e2:isiA P Cc C2 b2=true) (h:∀ tk,Q (.done (.ret (.bool (b1 || b2)))) { s with toks:=tk }) :
 wpAny (model prog w) A (Builtin.«isinstance.nested» ⟨[.ref x,.ref tp,.int 0 tk],[]⟩) Q E s:=by
 have hT:s.TypeIs (.ref tp) "tuple":=⟨_,htp,hc⟩
 unfold Builtin.«isinstance.nested»
 refine wpAny_bind ((I.type (M:=model prog w)).here ?_)
 rw [if_neg (fun q=>by have:=beq_iff_eq.mp q;injection this with this;exact hne this)]
 refine wpAny_bind (wpAny_typeOf hT ?_)
 rw [if_neg (by decide)]
 refine wpAny_bind ?_
 unfold Builtin.Builtins.unionMembers
 refine wpAny_bind (wpAny_typeOf hT ?_)
 rw [if_neg (by decide)]
 refine wpAny_pure ?_
 refine wpAny_bind (wpAny_isInstance (T:="tuple") (b:=true) hT PySem.F.isi_sub_tuple ?_)
 rw [if_pos rfl]
 rw [if_neg (by decide)]
 refine wpAny_bind ?_
 show wpAny _ _ (load tp >>= fun o=>_) _ _ _
 refine wpAny_bind (wpAny_load htp ?_)
 rw [hd]
 refine wpAny_pure ?_
 refine wpAny_bind (wpAny_arrayLoop ?_)
 simp only [Option.getD_some,List.toList_toArray]
 refine isinstance_items (P:=fun s'=>s'.heap=s.heap) (dep:=0) (fun V V z=>z) [.ref C1,.ref C2] [b1,b2] _ _ ⟨isi_one X I e1 F X₀,isi_one X I e2 F X₀,trivial⟩ rfl fun tk'=>?_
 have:=h tk'
 cases b1 <;> cases b2 <;> exact wpAny_pure this
theorem X_isiT {x:Str}{p pos:Pos}{e1 e2:Expr}{a Cc dx C1 C2:Addr}{fs:List (Str×D)}{b1 b2:Bool} (O:Ok C n) (hx:X C σ (.Name x p) (.val (.builtin "isinstance"))) (h:Xs C σ [e1,e2] [.val (.ref a),.tup [.val (.ref C1),.val (.ref C2)]])
 (ha:(a,AO.inst Cc dx)∈σ.ms) (hd:(dx,AO.dict fs)∈σ.ms) (h1:isiA C.w.params Cc C1 b1=true) (h2:isiA C.w.params Cc C2 b2=true) (hk:((KK C.w.params).lookup Cc).isSome=true):X C σ (.Call (.Name x p) [e1,e2] [] pos) (.bool (b1 || b2)) :=
 qbt hx h fun imm vs hv s R Q E q=>by
  refine DAll.two hv fun V V g1 g2=>DIn.eV g1 (DIn.eT g2 fun tp ot tvs k hm hc hdt hall=>?_)
  revert hdt
  refine DAll.two hall fun V V y1 y2=>DIn.eV y1 (DIn.eV y2 fun hdt=>?_)
  obtain ⟨es,k',hF,I⟩:=R.inst ha hd
  have R':=R
  obtain ⟨m,os,kc,fs',RX⟩:=R'
  have hmm:=RX.mem_imm hm
  obtain ⟨oc,hoc⟩:=Option.isSome_iff_exists.mp hk
  have hne:Cc≠tp:=fun e=>by
   have h1:=O.kin _ _ hoc
   have h2:C.base.get? tp=none:=hmm.2.2
   rw [e,h2] at h1;cases h1
  exact call_isinstance (S:=fun V R s'=>(s'=s)∧∀ tk,R (.ok (.ret (.bool (b1 || b2)))) { s' with toks:=tk })
   (fun V V V V V hs=>isinstance_outer (by obtain ⟨rfl,hs⟩:=hs;exact isi_nested2 (O.kin.keeps RX.fr.keep) I RX.fr O.kin hne hmm.1 hc hdt h1 h2 hs) (fun e=>nomatch e)) ⟨rfl,fun tk=>q _ _ _ qa2 (R.tok tk) (.bool _)⟩
theorem SR_assert {test:Expr}{msg:Option Expr}{pos:Pos}{KF:Fl→AS→Prop}{KE:Value→Value→AS→Prop}{rest:List Stmt} (h:T C σ test true) (k:SLR C σ rest KF KE):SLR C σ (.Assert test msg pos::rest) KF KE :=
 qda (fun σ'=>σ'=σ) (fun imm s R=>qap (by
  rw [arm_exec_Assert]
  exact wpAny_bind (wpAny_standAt (wpAny_bind (h.go imm s R _ _ fun i1 s1 hs1 R1=>by rw [if_pos rfl];exact wpAny_pure ⟨rfl,σ,i1,hs1,R1,rfl⟩)))) ) fun σ' e=>e ▸ k
end
section
variable {C:Cx}{n:Nat}{KF:Fl→AS→Prop}{KE:Value→Value→AS→Prop}{rest:List Stmt}{ρ:List Slot}{ms ms':List (Addr×AO)}
theorem qf7 {o e:Expr}{apos pos p2:Pos}{a:Addr}{ds:List D}{d:D} (O:Ok C n) (ho:X C ⟨ρ,ms⟩ o (.val (.ref a))) (he:Xs C ⟨ρ,ms⟩ [e] [d]) (hM:MPut a (.lst ds) (.lst (ds++[d])) ms ms') (hz:ds.length≤1000000) (k:SLR C ⟨ρ,ms'⟩ rest KF KE)
 (hbase:attributeBase o "append" C.env (eval o C.env)=eval o C.env) (hline:(apos.endLine == pos.line)=true) (hn:qbj (.Call (.Attribute o "append" apos) [e] [] pos)=true):SLR C ⟨ρ,ms⟩ (.Expr (.Call (.Attribute o "append" apos) [e] [] pos) p2::rest) KF KE:=by
 obtain ⟨m1,m2,rfl,rfl⟩:=hM.split
 exact qdm (K:=fun V σ'=>σ'=⟨ρ,m1++(a,.lst (ds++[d]))::m2⟩) O (XM.toR (XM_append hbase hline ho he hz rfl)) (fun d σ' e=>by subst e;exact k) hn (by unfold interactive;rw [O.fk];rfl)
theorem SR_setAdd {o e:Expr}{apos pos p2:Pos}{a:Addr}{S:List Str}{x:Str} (O:Ok C n) (ho:X C ⟨ρ,ms⟩ o (.val (.ref a))) (he:Xs C ⟨ρ,ms⟩ [e] [.str x]) (hM:MPut a (.set S) (.set (x::S)) ms ms') (hz:S.length<4000) (k:SLR C ⟨ρ,ms'⟩ rest KF KE)
 (hbase:attributeBase o "add" C.env (eval o C.env)=eval o C.env) (hline:(apos.endLine == pos.line)=true) (hn:qbj (.Call (.Attribute o "add" apos) [e] [] pos)=true):SLR C ⟨ρ,ms⟩ (.Expr (.Call (.Attribute o "add" apos) [e] [] pos) p2::rest) KF KE:=by
 obtain ⟨m1,m2,rfl,rfl⟩:=hM.split
 exact qdm (K:=fun V σ'=>σ'=⟨ρ,m1++(a,.set (x::S))::m2⟩) O (XM.toR (XM_setAdd hbase hline ho he hz rfl)) (fun d σ' e=>by subst e;exact k) hn (by unfold interactive;rw [O.fk];rfl)
end
structure HF where
 f:Addr
 dx:Addr
 sf:Addr
 Cc:Addr
 sid:Int
 pad:Int
 data:List Int
 more:List (Str×D)
 S:List Str
noncomputable abbrev HF.fs (h:HF):List (Str×D):=("stream_id",.int h.sid)::("flags",.val (.ref h.sf))::("pad_length",.int h.pad)::("data",.bytes h.data)::h.more
noncomputable abbrev HF.M (h:HF):List (Addr×AO):=[(h.sf,.set h.S),(h.f,.inst h.Cc h.dx),(h.dx,.dict h.fs)]
noncomputable def HM (H:List HF):List (Addr×AO):=H.flatMap HF.M
noncomputable def HD (H:List HF):List D:=H.map fun h=>.val (.ref h.f)
theorem HM_mem {h:HF}{H:List HF} (hm:h∈H):(h.f,AO.inst h.Cc h.dx)∈HM H∧(h.dx,AO.dict h.fs)∈HM H:=by
 unfold HM
 exact ⟨List.mem_flatMap.mpr ⟨h,hm,.tail _ (.head _)⟩,List.mem_flatMap.mpr ⟨h,hm,.tail _ (.tail _ (.head _))⟩⟩
structure ClsF (P:Params) (Cc:Addr):Prop where
 o1:ownA P Cc "stream_id"=true
 o2:ownA P Cc "flags"=true
 o3:ownA P Cc "data"=true
 st:setA P Cc "data"=true
 iC:isiA P Cc 212 (Cc == 212)=true
 iH:isiA P Cc 138 (Cc == 138)=true
 iP:isiA P Cc 179 (Cc == 179)=true
 lk:((KK P).lookup Cc).isSome=true
theorem clsF {P:Params} (kd:Int):ClsF P (kCc kd):=by
 unfold kCc
 refine qbn (p:=ClsF P) ⟨?_,?_,?_,?_,?_,?_,?_,?_⟩ ⟨?_,?_,?_,?_,?_,?_,?_,?_⟩ ⟨?_,?_,?_,?_,?_,?_,?_,?_⟩ ⟨?_,?_,?_,?_,?_,?_,?_,?_⟩ ⟨?_,?_,?_,?_,?_,?_,?_,?_⟩ ⟨?_,?_,?_,?_,?_,?_,?_,?_⟩ ⟨?_,?_,?_,?_,?_,?_,?_,?_⟩ <;> kernel_rfl
theorem FnR_ofE {P:Params}{f:Addr}{fd:FuncData}{body:List Stmt}{ps:List Str}{ds:List D}{k:Nat}{M1:List (Addr×AO)}{K:D→List (Addr×AO)→Prop}{KE:Value→Value→List (Addr×AO)→Prop} (FR:qdn P f fd body ps) (hl:ds.length=ps.length)
 (hb:∀ C:Cx,C.w.params=P→C.cap=[]→(∃ L,C.env=callEnvC fd L f)→Ok C k→OkR C→SLR C ⟨qa7 fd.scope.names ps ds,M1⟩ body (fun fl σ'=>match fl with | .ret d=>K d σ'.ms | .next=>K .none σ'.ms | _=>False) (fun a b σ'=>KE a b σ'.ms)) :
 FnR P f (k+1) ds M1 K KE:=.mk fun C ρ M2 imm vs hP O G hv s R Q E q r=>by
 subst hP
 exact call_goR O G FR R hv hl (fun L hid m O' G'=>hb _ rfl rfl ⟨L,rfl⟩ O' G') q r
noncomputable def flds (o:Obj):Array Value:=match o.data with | .fields vs=>vs | _=>#[]
theorem tab_uhb {C:Cx}{n:Nat}{L:Nat} (O:Ok C n) (he:C.env=callEnvC (fdAt C.w.params 313) L 313):Tab C 308:=⟨312,o388 C.w.params,flds (o388 C.w.params),"/claim/cut.py",674,3,0,true,181,0,
 by rw [he];kernel_rfl,O.kin _ _ (by kernel_rfl),by kernel_rfl,by kernel_rfl,by kernel_rfl,by kernel_rfl,by kernel_rfl,by kernel_rfl,by kernel_rfl,by kernel_rfl,by decide⟩
noncomputable abbrev uM (l a dx b:Addr) (m:Int) (pre:List Int) (pl:Int) (ps:Array Value) (ds:List D) (R:List (Addr×AO)):List (Addr×AO):=(l,.lst ds)::(a,.inst 330 dx)::(dx,.dict (fbFs b l m pre pl))::(308,.raw (tabO ps))::R
noncomputable def eH (S:List Str):Bool:=S.contains "END_HEADERS"
noncomputable def joined (h0:HF) (H':List HF) (F:HF):HF:={ h0 with data:=((h0::H'++[F]).map HF.data).flatten,S:="END_HEADERS"::h0.S }
theorem SR_joinSet {C:Cx}{n:Nat}{KF:Fl→AS→Prop}{KE:Value→Value→AS→Prop}{rest:List Stmt}{ρ:List Slot}{ms m1 m2:List (Addr×AO)}{ms':Array Value→List (Addr×AO)}{T l x Cc dx:Addr}{ps:Array Value}{ds:List D}{kss:List (List Int)}{o iter:Expr}{y attr attr2:Str}{k:Nat}{cp apos pos px yp ap gp ap2 spos:Pos}{scope:Scope}{cl:List (Str×Addr)}{fs fs':List (Str×D)}
 (O:Ok C (n+1)) (TB:Tab C T) (hms:ms=m1++(T,.raw (tabO ps))::m2) (htr:TriplesOk ps.toList) (hi:X C ⟨ρ,ms⟩ iter (.val (.ref l))) (hl:(l,AO.lst ds)∈ms) (hlen:ds.length=kss.length) (hn:ds.length≤1000) (hz:kss.flatten.length≤16777216)
 (hds:∀ (i:Nat) (d:D),ds[i]?=some d→∃ x Cc dx fs ks,d=.val (.ref x)∧(x,AO.inst Cc dx)∈ms∧(dx,AO.dict fs)∈ms∧fs.lookup attr=some (.bytes ks)∧kss[i]?=some ks∧ownA C.w.params Cc attr=true)
 (hco:scope.isCoroutine=false) (hclos:closureFor scope C.env=pure cl) (hcell:∀ z∈scope.names,z.2≠.cell) (h0:scope.names.lookup (".0":Str)=some NameKind.local) (hy:scope.names.lookup y=some .local) (hkind:scope.kind=.function)
 (hfold:∀ x,genFold iter C.env x=pure x) (hline:(apos.endLine == pos.line)=true) (hny:(y == ("__debug__":Str))=false) (hset:setA C.w.params Cc attr2=true)
 (ho:∀ ps',X C ⟨ρ,m1++(T,.raw (tabO ps'))::m2⟩ o (.val (.ref x))) (hx:∀ ps',(x,AO.inst Cc dx)∈m1++(T,.raw (tabO ps'))::m2) (mp:∀ ps',MPut dx (.dict fs) (.dict fs') (m1++(T,.raw (tabO ps'))::m2) (ms' ps')) (fp:FPut attr2 (.bytes kss.flatten) fs fs') (hl2:fs.length≤900)
 (kk:∀ ps',TriplesOk ps'.toList→(∃ more,ps'=ps++more)→SLR C ⟨ρ,ms' ps'⟩ rest KF KE)
 (hnc:qbj (.Call (.Attribute (.Constant (.bytes []) k cp) "join" apos) [.GeneratorExp (.Attribute (.Name y yp) attr ap) [⟨.Name y px,iter,[],0⟩] scope gp] [] pos)=true) :
 SLR C ⟨ρ,ms⟩ (.Assign [.Attribute o attr2 ap2] (.Call (.Attribute (.Constant (.bytes []) k cp) "join" apos) [.GeneratorExp (.Attribute (.Name y yp) attr ap) [⟨.Name y px,iter,[],0⟩] scope gp] [] pos) spos::rest) KF KE:=by
 refine qdq (x:=x) (Cc:=Cc) (dx:=dx) (K:=fun d σ'=>∃ ps',TriplesOk ps'.toList∧(∃ more,ps'=ps++more)∧d=.bytes kss.flatten∧σ'=⟨ρ,m1++(T,.raw (tabO ps'))::m2⟩) O
  (XM.toR (XM_joinGen O TB hms htr hi hl hlen hn hz hds hco hclos hcell h0 hy hkind hfold hline hny fun ps' h1 h2=>⟨ps',h1,h2,rfl,rfl⟩)) hset ?_ hnc
 rintro d σ' ⟨ps',h1,h2,rfl,rfl⟩
 exact ⟨_,_,_,ho ps',hx ps',mp ps',fp,hl2,kk ps' h1 h2⟩
theorem SR_setNew {C:Cx}{n:Nat}{KF:Fl→AS→Prop}{KE:Value→Value→AS→Prop}{rest:List Stmt}{ρ:List Slot}{ms:List (Addr×AO)}{ms':Addr→List (Addr×AO)}{x Cc dx:Addr}{fs:List (Str×D)}{fs':Addr→List (Str×D)}{o:Expr}{attr:Str}{ap lp pos:Pos}
 (O:Ok C n) (hset:setA C.w.params Cc attr=true) (ho:∀ l,X C ⟨ρ,(l,.lst [])::ms⟩ o (.val (.ref x))) (hx:∀ l,(x,AO.inst Cc dx)∈(l,.lst [])::ms) (mp:∀ l,MPut dx (.dict fs) (.dict (fs' l)) ((l,.lst [])::ms) (ms' l)) (fp:∀ l,FPut attr (.val (.ref l)) fs (fs' l)) (hl:fs.length≤900)
 (k:∀ l,SLR C ⟨ρ,ms' l⟩ rest KF KE):SLR C ⟨ρ,ms⟩ (.Assign [.Attribute o attr ap] (.List [] lp) pos::rest) KF KE:=by
 refine qdq (x:=x) (Cc:=Cc) (dx:=dx) (K:=fun d σ'=>∃ l,d=.val (.ref l)∧σ'=⟨ρ,(l,.lst [])::ms⟩) O (XM.toR qfs) hset ?_ rfl
 rintro d σ' ⟨l,rfl,rfl⟩
 exact ⟨fs,fs' l,ms' l,ho l,hx l,mp l,fp l,hl,k l⟩
set_option maxHeartbeats 2000000 in
def Z308 (M:List (Addr×AO)):Prop:=∃ ps,(308,AO.raw (tabO ps))∈M
theorem Z308.app {M J:List (Addr×AO)} (h:Z308 M):Z308 (M++J):=h.imp fun V q=>mal _ q
set_option maxHeartbeats 2000000 in
theorem fn_uhb {P:Params}{l a dx b:Addr}{m pl:Int}{pre:List Int}{ps:Array Value}{F:HF}{H:List HF}{n:Nat} (htr:TriplesOk ps.toList) (cF:ClsF P F.Cc) (cH:∀ h∈H,ClsF P h.Cc) (hS:F.S.length<3000) (hSH:∀ h∈H,h.S.length<3000) (hl:H.length≤64) (hz:((H++[F]).map HF.data).flatten.length≤16777216) (hmo:F.more.length≤800) (hmH:∀ h∈H,h.more.length≤800) :
 FnR P 313 (n+2) [.val (.ref a),.val (.ref F.f)] (uM l a dx b m pre pl ps (HD H) (F.M++HM H))
 (fun d M'=>match H with
  | []=>if ((F.Cc == 138 || F.Cc == 179) && !eH F.S)=true then d=.none∧M'=uM l a dx b m pre pl ps (HD [F]) (F.M++HM []) else d=.val (.ref F.f)∧M'=uM l a dx b m pre pl ps (HD []) (F.M++HM [])
  | h0::H'=>(F.Cc == 212)=true∧F.sid=h0.sid∧H'.length<63 ∧
   if eH F.S=true then ∃ l' ps',TriplesOk ps'.toList∧(∃ more,ps'=ps++more)∧d=.val (.ref h0.f)∧M'=(l',.lst [])::(l,.lst (HD (h0::H')++[.val (.ref F.f)]))::(a,.inst 330 dx)::(dx,.dict (fbFs b l' m pre pl))::(308,.raw (tabO ps'))::(F.M++((joined h0 H' F).M++HM H'))
   else d=.none∧M'=uM l a dx b m pre pl ps (HD (h0::H')++[.val (.ref F.f)]) (F.M++HM (h0::H')))
 (fun cls c2 M'=>c2=.none∧cls=.ref 251∧Z308 M'∧match H with | []=>False | h0::H'=>¬ ((F.Cc == 212)=true∧F.sid=h0.sid∧H'.length<63)):=FnR_ofE rec_uhb.toD rfl (by
 intro C hP hcap hE O G
 subst hP
 obtain ⟨L,hE⟩:=hE
 rw [sl_uhb]
 obtain ⟨F1,F2,F3,F4,F5,F6,F7,F8⟩:=cF
 obtain ⟨ff,fdx,fsf,fCc,fsid,fpad,fdata,fmore,fS⟩:=F
 have ow:ownA C.w.params 330 "_headers_buffer"=true:=by kernel_rfl
 have TB:=tab_uhb O hE
 have hS:fS.length<3000:=hS
 dsimp only at F1 F2 F3 F4 F5 F6 F7 F8
 conv=>enter [3];whnf
 cases H with
 | nil =>
  show SLR C ⟨_,uM l a dx b m pre pl ps [] [(fsf,.set fS),(ff,.inst fCc fdx),(fdx,.dict (("stream_id",.int fsid)::("flags",.val (.ref fsf))::("pad_length",.int fpad)::("data",.bytes fdata)::fmore))]⟩ _ _ _
  walk_at "r.if"
  case yes=>intro h;cases h
  case no =>
   intro _
   refine' SR_if (T_bool (Ts.and (T_val (fun V V=>rfl) (X_isiT O ?xn_3 ?xs_3 ?m1_3 ?m2_3 F6 F7 F8) Tr_bool) (fun V=>Ts_one ?t2_3))) ?yes ?no
   case xn_3=>walk_at "m.x"
   case xs_3=>walk_at "m.xs"
   case m1_3=>walk_at "m.mem"
   case m2_3=>walk_at "m.mem"
   case t2_3=>walk_at "m.t"
   case yes =>
    intro h
    dsimp only [lca,lna]
    refine' qf7 O ?a_4 ?xs_4 ?mp_4 ?z_4 ?k rfl rfl rfl
    case a_4=>walk_at "m.x"
    case xs_4=>walk_at "m.xs"
    case mp_4=>walk_at "m.mput"
    case z_4=>decide
    case k =>
     walk_at "r.assign"
     case k =>
      walk_at "r.ret"
      case k =>
       dsimp only
       rw [if_pos (show ((fCc == 138 || fCc == 179) && !eH fS)=true from h)]
       exact ⟨rfl,rfl⟩
   case no =>
    intro h
    simp only [lna]
    walk_at "r.ret"
    case k =>
     dsimp only
     rw [if_neg (show ¬ ((fCc == 138 || fCc == 179) && !eH fS)=true from by rw [show ((fCc == 138 || fCc == 179) && !eH fS)=false from h];decide)]
     exact ⟨rfl,rfl⟩
 | cons h0 H' =>
  obtain ⟨G1,G2,G3,G4,G5,G6,G7,G8⟩:=cH h0 (.head _)
  have hS0:=hSH h0 (.head _)
  have hm0:=hmH h0 (.head _)
  obtain ⟨hf,hdx,hsf,hCc,hsid,hpad,hdata,hmore,hS'⟩:=h0
  have hl:H'.length+1≤64:=hl
  have hmo:fmore.length≤800:=hmo
  have hm0:hmore.length≤800:=hm0
  have hS0:hS'.length<3000:=hS0
  dsimp only at G1 G2 G3 G4
  have hHD:(HD H').length=H'.length:=by unfold HD;rw [lem]
  show SLR C ⟨_,uM l a dx b m pre pl ps (.val (.ref hf)::HD H') ((fsf,.set fS)::(ff,.inst fCc fdx)::(fdx,.dict (("stream_id",.int fsid)::("flags",.val (.ref fsf))::("pad_length",.int fpad)::("data",.bytes fdata)::fmore)) ::
   (hsf,.set hS')::(hf,.inst hCc hdx)::(hdx,.dict (("stream_id",.int hsid)::("flags",.val (.ref hsf))::("pad_length",.int hpad)::("data",.bytes hdata)::hmore))::HM H')⟩ _ _ _
  walk_at "r.if"
  case no=>intro h;cases h
  case yes =>
   intro _
   walk_at "r.assign"
   case k =>
   walk_at "r.assign"
   case k =>
   walk_at "r.if"
   case yes =>
    intro hv
    walk_at "r.assign"
    case k =>
    walk_at "r.raise"
    case k =>
     refine ⟨rfl,rfl,⟨ps,by walk_at "m.mem"⟩,fun hh=>?_⟩
     obtain ⟨h1,h2,_⟩:=hh
     have h2:fsid=hsid:=h2
     have h1:(fCc == 212)=true:=h1
     rw [h1,h2] at hv
     simp at hv
   case no =>
    intro hv
    have hv:(fCc == 212)=true∧fsid=hsid:=by simpa using hv
    obtain ⟨hC,hsd⟩:=hv
    rw [hC] at F5
    refine' SR_assert (T_val (fun V V=>rfl) (X_isi O ?xn_6 ?xs_6 ?m1_6 ?m2_6 F5) Tr_bool) ?k
    case xn_6=>walk_at "m.x"
    case xs_6=>walk_at "m.xs"
    case m1_6=>walk_at "m.mem"
    case m2_6=>walk_at "m.mem"
    case k =>
    refine' qf7 O ?a_7 ?xs_7 ?mp_7 ?z_7 ?k rfl rfl rfl
    case a_7=>walk_at "m.x"
    case xs_7=>walk_at "m.xs"
    case mp_7=>walk_at "m.mput"
    case z_7=>rw [List.length_cons,hHD];lia
    case k =>
    refine' SR_if (T_cmp ?la_8 ((X_glob O ?lb_8 g_BACKLOG).as (.int 64 622)) Cmp_gt rfl) ?yes ?no
    case la_8=>walk_at "m.x"
    case lb_8=>walk_at "m.has"
    case yes =>
     intro hlt
     have hlt:62<H'.length:=by
      have:=of_decide_eq_true hlt
      simp only [List.length_cons,lea,List.length_nil,hHD] at this
      lia
     dsimp only [lca,lna]
     walk_at "r.assign"
     case k =>
     walk_at "r.raise"
     case k =>
      refine ⟨rfl,rfl,⟨ps,by walk_at "m.mem"⟩,fun hh=>?_⟩
      obtain ⟨_,_,h3⟩:=hh
      lia
    case no =>
     intro hlt
     have hlt:H'.length<63:=by
      have:=of_decide_eq_false hlt
      simp only [List.length_cons,lea,List.length_nil,hHD] at this
      lia
     simp only [lna]
     walk_at "r.if"
     case no =>
      intro hEh
      walk_at "r.assign"
      case k =>
      walk_at "r.ret"
      case k =>
       dsimp only
       refine ⟨hC,hsd,hlt,?_⟩
       rw [if_neg (show ¬ eH fS=true from by rw [show eH fS=false from hEh];decide)]
       exact ⟨rfl,rfl⟩
     case yes =>
      intro hEh
      walk_at "r.assign"
      case k =>
      refine' SR_setAdd O ?a_11 ?xs_11 ?mp_11 ?z_11 ?k rfl rfl rfl
      case a_11=>walk_at "m.x"
      case xs_11=>walk_at "m.xs"
      case mp_11=>walk_at "m.mput"
      case z_11=>lia
      case k =>
      have hds:(.val (.ref hf)::(HD H'++[.val (.ref ff)]):List D)=HD (⟨hf,hdx,hsf,hCc,hsid,hpad,hdata,hmore,hS'⟩::H'++[⟨ff,fdx,fsf,fCc,fsid,fpad,fdata,fmore,fS⟩]):=by unfold HD;simp
      refine' SR_joinSet (cl:=[]) (T:=308) (ps:=ps) (l:=l) (x:=hf) (Cc:=hCc) (dx:=hdx) (kss:=(⟨hf,hdx,hsf,hCc,hsid,hpad,hdata,hmore,hS'⟩::H'++[⟨ff,fdx,fsf,fCc,fsid,fpad,fdata,fmore,fS⟩]:List HF).map HF.data) O TB ?jm_12 htr ?ji_12 ?jl_12 ?jlen_12 ?jn_12 ?jz_12 ?jd_12 rfl ?jc_12 ?jce_12 ?j0_12 ?jy_12 rfl ?jf_12 rfl ?jny_12 G4 (fun ps'=>?ho_12) (fun ps'=>?hm_12) (fun ps'=>?mp_12) ?fp_12 ?hl2_12 ?kk_12 rfl
      case jm_12=>exact (show _=[_,_,_]++_::_ from rfl)
      case ji_12=>walk_at "m.x"
      case jl_12=>walk_at "m.mem"
      case jlen_12=>rw [hds];unfold HD;rw [lem,lem]
      case jn_12=>rw [hds];unfold HD;rw [lem,lea,List.length_cons,List.length_singleton];lia
      case jz_12=>exact hz
      case jd_12 =>
       intro i d hd
       rw [hds] at hd
       unfold HD at hd
       rw [List.getElem?_map] at hd
       cases hh:(⟨hf,hdx,hsf,hCc,hsid,hpad,hdata,hmore,hS'⟩::H'++[⟨ff,fdx,fsf,fCc,fsid,fpad,fdata,fmore,fS⟩]:List HF)[i]? with
       | none=>rw [hh] at hd;cases hd
       | some h =>
        rw [hh] at hd
        have hd:D.val (.ref h.f)=d:=Option.some.inj hd
        have hmem:=List.mem_of_getElem? hh
        have hks:((⟨hf,hdx,hsf,hCc,hsid,hpad,hdata,hmore,hS'⟩::H'++[⟨ff,fdx,fsf,fCc,fsid,fpad,fdata,fmore,fS⟩]:List HF).map HF.data)[i]?=some h.data:=by rw [List.getElem?_map,hh];rfl
        refine ⟨h.f,h.Cc,h.dx,h.fs,h.data,hd.symm,?_,?_,(Fld.there (by decide +kernel) (.there (by decide +kernel) (.there (by decide +kernel) .here))).look,hks,?_⟩
        all_goals
         rcases maj hmem with q | q
         ·rcases mcj q with rfl | q
          ·first | exact G3 | walk_at "m.mem"
          ·first | exact (cH h (.tail _ q)).o3 | exact List.mem_cons_of_mem _ (List.mem_cons_of_mem _ (List.mem_cons_of_mem _ (List.mem_cons_of_mem _ (List.mem_cons_of_mem _ (List.mem_cons_of_mem _ (List.mem_cons_of_mem _ (List.mem_cons_of_mem _ (List.mem_cons_of_mem _ (List.mem_cons_of_mem _ (HM_mem q).1))))))))) | exact List.mem_cons_of_mem _ (List.mem_cons_of_mem _ (List.mem_cons_of_mem _ (List.mem_cons_of_mem _ (List.mem_cons_of_mem _ (List.mem_cons_of_mem _ (List.mem_cons_of_mem _ (List.mem_cons_of_mem _ (List.mem_cons_of_mem _ (List.mem_cons_of_mem _ (HM_mem q).2)))))))))
         ·rw [msj q]
          first | exact F3 | walk_at "m.mem"
      case jc_12=>rw [hE];kernel_rfl
      case jce_12 =>
       intro z hz
       rcases mcj hz with rfl | hz
       ·decide
       ·rw [msj hz];decide
      case j0_12=>kernel_rfl
      case jy_12=>kernel_rfl
      case jf_12=>intro _;rfl
      case jny_12=>decide +kernel
      case ho_12=>dsimp only [lca,lna];walk_at "m.x"
      case hm_12=>dsimp only [lca,lna];walk_at "m.mem"
      case mp_12=>dsimp only [lca,lna];walk_at "m.mput"
      case fp_12=>walk_at "m.fput"
      case hl2_12=>simp only [List.length_cons];lia
      case kk_12 =>
       intro ps' h1 h2
       refine' SR_setNew (x:=a) (Cc:=330) (dx:=dx) O FB_set_hb (fun l'=>?ho_14) (fun l'=>?hm_14) (fun l'=>?mp_14) (fun l'=>?fp_14) ?hl2_14 (fun l'=>?kk_14)
       case ho_14=>walk_at "m.x"
       case hm_14=>walk_at "m.mem"
       case mp_14=>walk_at "m.mput"
       case fp_14=>walk_at "m.fput"
       case hl2_14=>simp
       case kk_14 =>
        walk_at "r.ret"
        case k =>
         dsimp only
         refine ⟨hC,hsd,hlt,?_⟩
         rw [if_pos (show eH fS=true from hEh)]
         exact ⟨l',ps',h1,h2,rfl,rfl⟩)
section
variable {P:Params}{sid:Int}{S:List Str}{data body:List Int}{n:Nat}{f dx sf:Addr}
theorem fn_pb9:FnR P 72 (n+1) [.val (.ref f),.bytes data] (frM f dx sf 212 (fF sid sf 0 []) S)
 (fun d M'=>d=.none∧M'=frM f dx sf 212 (fF sid sf 0 data) S) (fun V V V=>False):=qc1 rec_pb.toD rfl (by
 intro C hP hcap O G
 subst hP
 rw [sl_pb]
 conv=>enter [3];whnf
 walk_at "r.set"
 case k=>exact qaw ⟨rfl,rfl⟩)
noncomputable abbrev hFs (sid:Int) (sf:Addr) (pad:Int) (data:List Int) (more:List (Str×D)):List (Str×D):=("stream_id",.int sid)::("flags",.val (.ref sf))::("pad_length",.int pad)::("data",.bytes data)::more
noncomputable def pRes (kd:Int) (S:List Str) (body:List Int):Except Str (Int×List Int×List (Str×D)) :=
 qav kd
  (match qah (S.contains "PADDED") body with | .error e=>.error e | .ok ks=>.ok (qb6 (S.contains "PADDED") body,ks,[]))
  (match qah (S.contains "PADDED") body with | .error e=>.error e | .ok ks=>match qac (S.contains "PRIORITY") 1 0 ks with | .error e=>.error e | .ok (kt,_)=>.ok (qb6 (S.contains "PADDED") body,kt,[]))
  (if body.length=4 then .ok (0,[],[("error_code",.int (qa9 body))]) else .error "missing")
  (match qah (S.contains "PADDED") body with | .error e=>.error e | .ok ks=>match qac false 5 0 ks with | .error e=>.error e | .ok (kt,mo)=>.ok (qb6 (S.contains "PADDED") body,kt,[("promised_stream_id",.int mo)]))
  (if body.length=4 then (if qa9 body % 2147483648=0 then .error "protocol" else .ok (0,[],[("window_increment",.int (qa9 body % 2147483648))])) else .error "missing")
  (.ok (0,body,[]))
  (.ok (0,body,[("kind",.int kd)]))
noncomputable def qck (kd v:Int):List (Str×D):=qav kd [] [] [("error_code",.int v)] [("promised_stream_id",.int v)] [("window_increment",.int v)] [] [("kind",.int v)]
noncomputable def pbF (kd:Int):Addr:=qav kd 103 135 154 176 195 72 72
theorem FnR.mono {f:Addr}{k:Nat}{ds:List D}{M1:List (Addr×AO)}{K K':D→List (Addr×AO)→Prop}{KE KE':Value→Value→List (Addr×AO)→Prop} (h:FnR P f k ds M1 K KE) (a:∀ d M,K d M→K' d M) (b:∀ c c2 M,KE c c2 M→KE' c c2 M):FnR P f k ds M1 K' KE' :=
 .mk fun C ρ M2 imm vs hP O G hv s R Q E q r=>h.go C ρ M2 imm vs hP O G hv s R Q E (fun v d M i s' hs R' hv hK=>q v d M i s' hs R' hv (a _ _ hK)) fun e c c2 M i s' hs F hK=>r e c c2 M i s' hs F (b _ _ _ hK)
end
section
variable {P:Params}{sid:Int}{S:List Str}{body:List Int}{n:Nat}{f dx sf:Addr}
theorem qab {α:Type}{k:Int}{a0 a1 a3 a5 a8 a9 a:α} (h0:k≠0) (h1:k≠1) (h3:k≠3) (h5:k≠5) (h8:k≠8) (h9:k≠9):qav k a0 a1 a3 a5 a8 a9 a=a:=by
 unfold qav
 simp [h0,h1,h3,h5,h8,h9]
theorem fn_body (kd:Int) (hS:S.length<100) (hl:body.length≤1000000) (hd:∀ k∈body,0≤k∧k<256):FnR P (pbF kd) (n+2) [.val (.ref f),.bytes body] (frM f dx sf (kCc kd) (kFs kd sid sf) S)
 (fun d M'=>d=.none∧∃ pad da mo,pRes kd S body=.ok (pad,da,mo)∧M'=frM f dx sf (kCc kd) (hFs sid sf pad da mo) S)
 (fun cls c2 V=>c2=.none∧∃ e,pRes kd S body=.error e∧exOf e cls):=by
 by_cases h0:kd=0
 ·subst h0
  refine (fn_dpb (P:=P) (n:=n) (f:=f) (dx:=dx) (sf:=sf) (sid:=sid) hS hl).mono ?_ ?_
  ·rintro d M ⟨rfl,ks,h1,rfl⟩
   exact ⟨rfl,_,_,[],by show (match qah (S.contains "PADDED") body with | .error e=>(.error e:Except Str (Int×List Int×List (Str×D))) | .ok ks=>.ok (qb6 (S.contains "PADDED") body,ks,[]))=_;rw [h1],rfl⟩
  ·rintro cls c2 M ⟨h1,e,h2,h3⟩
   exact ⟨h1,e,by show (match qah (S.contains "PADDED") body with | .error e=>(.error e:Except Str (Int×List Int×List (Str×D))) | .ok ks=>.ok (qb6 (S.contains "PADDED") body,ks,[]))=_;rw [h2],h3⟩
 by_cases h1:kd=1
 ·subst h1
  refine (fn_hpb (P:=P) (n:=n) (f:=f) (dx:=dx) (sf:=sf) (sid:=sid) hS hl).mono ?_ ?_
  ·rintro d M ⟨rfl,ks,kt,h1,h2,rfl⟩
   exact ⟨rfl,_,_,[],by show (match qah (S.contains "PADDED") body with | .error e=>(.error e:Except Str (Int×List Int×List (Str×D))) | .ok ks=>match qac (S.contains "PRIORITY") 1 0 ks with | .error e=>.error e | .ok (kt,_)=>.ok (qb6 (S.contains "PADDED") body,kt,[]))=_;rw [h1];dsimp only;rw [h2],rfl⟩
  ·rintro cls c2 M ⟨h1,⟨e,h2,h3⟩ | ⟨ks,e,h2,h3,h4⟩⟩
   ·exact ⟨h1,e,by show (match qah (S.contains "PADDED") body with | .error e=>(.error e:Except Str (Int×List Int×List (Str×D))) | .ok ks=>match qac (S.contains "PRIORITY") 1 0 ks with | .error e=>.error e | .ok (kt,_)=>.ok (qb6 (S.contains "PADDED") body,kt,[]))=_;rw [h2],h3⟩
   ·exact ⟨h1,e,by show (match qah (S.contains "PADDED") body with | .error e=>(.error e:Except Str (Int×List Int×List (Str×D))) | .ok ks=>match qac (S.contains "PRIORITY") 1 0 ks with | .error e=>.error e | .ok (kt,_)=>.ok (qb6 (S.contains "PADDED") body,kt,[]))=_;rw [h2];dsimp only;rw [h3],h4⟩
 by_cases h3:kd=3
 ·subst h3
  refine (fn_rpb (P:=P) (n:=n+1) (f:=f) (dx:=dx) (sf:=sf) (sid:=sid) (S:=S) hl).mono ?_ ?_
  ·rintro d M ⟨rfl,h1,rfl⟩
   exact ⟨rfl,_,_,_,by show (if body.length=4 then (.ok (0,[],[("error_code",.int (qa9 body))]):Except Str (Int×List Int×List (Str×D))) else .error "missing")=_;rw [if_pos h1],rfl⟩
  ·rintro cls c2 M ⟨h1,h2,h3⟩
   exact ⟨h1,"missing",by show (if body.length=4 then (.ok (0,[],[("error_code",.int (qa9 body))]):Except Str (Int×List Int×List (Str×D))) else .error "missing")=_;rw [if_neg h2],.inl ⟨rfl,h3⟩⟩
 by_cases h5:kd=5
 ·subst h5
  refine (fn_ppb (P:=P) (n:=n) (f:=f) (dx:=dx) (sf:=sf) (sid:=sid) hS hl hd).mono ?_ ?_
  ·rintro d M ⟨rfl,ks,kt,v,h1,h2,rfl⟩
   exact ⟨rfl,_,_,_,by show (match qah (S.contains "PADDED") body with | .error e=>(.error e:Except Str (Int×List Int×List (Str×D))) | .ok ks=>match qac false 5 0 ks with | .error e=>.error e | .ok (kt,mo)=>.ok (qb6 (S.contains "PADDED") body,kt,[("promised_stream_id",.int mo)]))=_;rw [h1];dsimp only;rw [h2],rfl⟩
  ·rintro cls c2 M ⟨h1,⟨e,h2,h3⟩ | ⟨ks,e,h2,h3,h4⟩⟩
   ·exact ⟨h1,e,by show (match qah (S.contains "PADDED") body with | .error e=>(.error e:Except Str (Int×List Int×List (Str×D))) | .ok ks=>match qac false 5 0 ks with | .error e=>.error e | .ok (kt,mo)=>.ok (qb6 (S.contains "PADDED") body,kt,[("promised_stream_id",.int mo)]))=_;rw [h2],h3⟩
   ·exact ⟨h1,e,by show (match qah (S.contains "PADDED") body with | .error e=>(.error e:Except Str (Int×List Int×List (Str×D))) | .ok ks=>match qac false 5 0 ks with | .error e=>.error e | .ok (kt,mo)=>.ok (qb6 (S.contains "PADDED") body,kt,[("promised_stream_id",.int mo)]))=_;rw [h2];dsimp only;rw [h3],h4⟩
 by_cases h8:kd=8
 ·subst h8
  refine (fn_wpb (P:=P) (n:=n+1) (f:=f) (dx:=dx) (sf:=sf) (sid:=sid) (S:=S) hl hd).mono ?_ ?_
  ·rintro d M ⟨rfl,h1,h2,rfl⟩
   exact ⟨rfl,_,_,_,by show (if body.length=4 then (if qa9 body % 2147483648=0 then .error "protocol" else .ok (0,[],[("window_increment",.int (qa9 body % 2147483648))]):Except Str (Int×List Int×List (Str×D))) else .error "missing")=_;rw [if_pos h1,if_neg h2],rfl⟩
  ·rintro cls c2 M ⟨h1,⟨h2,h3⟩ | ⟨h2,h3,h4⟩⟩
   ·exact ⟨h1,"missing",by show (if body.length=4 then (if qa9 body % 2147483648=0 then .error "protocol" else .ok (0,[],[("window_increment",.int (qa9 body % 2147483648))]):Except Str (Int×List Int×List (Str×D))) else .error "missing")=_;rw [if_neg h2],.inl ⟨rfl,h3⟩⟩
   ·exact ⟨h1,"protocol",by show (if body.length=4 then (if qa9 body % 2147483648=0 then .error "protocol" else .ok (0,[],[("window_increment",.int (qa9 body % 2147483648))]):Except Str (Int×List Int×List (Str×D))) else .error "missing")=_;rw [if_pos h2,if_pos h3],.inr ⟨rfl,h4⟩⟩
 by_cases h9:kd=9
 ·subst h9
  refine (fn_pb9 (P:=P) (n:=n+1) (f:=f) (dx:=dx) (sf:=sf) (sid:=sid) (S:=S) (data:=body)).mono ?_ fun V V V h=>h.elim
  rintro d M ⟨rfl,rfl⟩
  exact ⟨rfl,0,body,[],rfl,rfl⟩
 ·have e1:pbF kd=72:=qab h0 h1 h3 h5 h8 h9
  have e2:kCc kd=82:=qab h0 h1 h3 h5 h8 h9
  have e3:kFs kd sid sf=fX sid sf 0 [] "kind" (.int kd):=qab h0 h1 h3 h5 h8 h9
  have e4:pRes kd S body=.ok (0,body,[("kind",.int kd)]):=qab h0 h1 h3 h5 h8 h9
  rw [e1,e2,e3]
  refine (fn_pb (P:=P) (n:=n+1) (f:=f) (dx:=dx) (sf:=sf) (sid:=sid) (S:=S) (data:=body) (kd:=kd)).mono ?_ fun V V V h=>h.elim
  rintro d M ⟨rfl,rfl⟩
  exact ⟨rfl,0,body,_,e4,rfl⟩
theorem pbMeth (kd:Int):methA P (kCc kd) "parse_body" (pbF kd)=true:=by
 by_cases h0:kd=0
 ·subst h0;kernel_rfl
 by_cases h1:kd=1
 ·subst h1;kernel_rfl
 by_cases h3:kd=3
 ·subst h3;kernel_rfl
 by_cases h5:kd=5
 ·subst h5;kernel_rfl
 by_cases h8:kd=8
 ·subst h8;kernel_rfl
 by_cases h9:kd=9
 ·subst h9;kernel_rfl
 ·rw [show pbF kd=72 from qab h0 h1 h3 h5 h8 h9,show kCc kd=82 from qab h0 h1 h3 h5 h8 h9];kernel_rfl
end
inductive Pick (p:Addr×AO):List (Addr×AO)→List (Addr×AO)→Prop
 | here {l}:Pick p (p::l) l
 | there {q l l'}:Pick p l l'→Pick p (q::l) (q::l')
inductive Picks:List (Addr×AO)→List (Addr×AO)→List (Addr×AO)→Prop
 | nil {l}:Picks [] l l
 | cons {p ps l l1 l2}:Pick p l l1→Picks ps l1 l2→Picks (p::ps) l l2
theorem Pick.perm {p l l'} (h:Pick p l l'):l.Perm (p::l'):=by
 induction h with
 | here=>exact .refl _
 | there _ ih=>exact (ih.cons _).trans (List.Perm.swap _ _ _)
theorem Picks.perm {ps l l'} (h:Picks ps l l'):l.Perm (ps++l'):=by
 induction h with
 | nil=>exact .refl _
 | cons h _ ih=>exact h.perm.trans (ih.cons _)
section
variable {P:Params}{f:Addr}{k:Nat}{ds:List D}{M M1 J:List (Addr×AO)}{K:D→List (Addr×AO)→Prop}{KE:Value→Value→List (Addr×AO)→Prop}
theorem FnR.frame (F:FnR P f k ds M1 K KE) (hp:M.Perm (M1++J)):FnR P f k ds M (fun d M'=>∃ M1',M'=M1'++J∧K d M1') (fun c c2 M'=>∃ M1',M'=M1'++J∧KE c c2 M1') :=
 .mk fun C ρ M2 imm vs hP O G hv s R Q E q r=>by
  have hp2:(M++M2).Perm (M1++(J++M2)):=by rw [← laa];exact hp.append_right _
  refine F.go C ρ (J++M2) imm vs hP O G hv s (R.perm hp2) Q E (fun v d M1' i s' hs R' hv' hK=>?_) fun e c c2 M1' i s' hs F' hK=>?_
  ·rw [← laa] at R'
   exact q v d (M1'++J) i s' hs R' hv' ⟨M1',rfl,hK⟩
  ·rw [← laa] at F'
   exact r e c c2 (M1'++J) i s' hs F' ⟨M1',rfl,hK⟩
end
structure HOk (P:Params) (h:HF):Prop where
 c:ClsF P h.Cc
 s:h.S.length<3000
 m:h.more.length≤800
inductive Tk where
 | no
 | err (c:Addr)
 | yes (len:Nat) (kd sid pad:Int) (da:List Int) (mo:List (Str×D)) (S:List Str)
noncomputable def qdf (data:List Int):Nat:=(qa9 (cut (data.take 9) none (some 3))).toNat
noncomputable def tkS (data:List Int):List Str:=qaj (kIts (qau (data.take 9))) ((data.take 9).getD 4 0)
noncomputable def qbv (data:List Int):List Int:=(data.drop 9).take (qdf data)
noncomputable def qbd (m:Int) (data:List Int):Tk :=
 if data.length<9 then .no else
 if qg7 (qau (data.take 9)) (hSid (data.take 9))=true then .err 251 else
 if data.length<qdf data+9 then .no else
 if m<(qdf data:Int) then .err 263 else
 match pRes (qau (data.take 9)) (tkS data) (qbv data) with
 | .error e=>.err (if e="missing" then 275 else 251)
 | .ok (pad,da,mo)=>.yes (qdf data) (qau (data.take 9)) (hSid (data.take 9)) pad da mo (tkS data)
theorem qfe {w:Bool}{kind more:Int}{data kt:List Int}{v:Int} (h:qac w kind more data=.ok (kt,v)):kt.length≤data.length:=by
 unfold qac at h
 generalize (if w=true then (5:Int) else 4)=z at h
 split at h
 ·split at h
  ·cases h
  ·split at h
   ·split at h
    ·cases h
    ·cases h;exact qar _ _ _
   ·cases h;exact qar _ _ _
 ·cases h;exact Nat.le_refl _
noncomputable abbrev PT:=Int×List Int×List (Str×D)
def EAll (P:PT→Prop) (x:Except Str PT):Prop:=∀ y,x=.ok y→P y
section
variable {P:PT→Prop}{x y:Except Str PT}{z:PT}{e:Str}
theorem ea_ok (h:P z):EAll P (.ok z):=fun V q=>by cases q;exact h
theorem ea_err:EAll P (.error e):=fun V q=>by cases q
theorem ea_eq (q:x=y) (h:EAll P y):EAll P x:=fun z e=>h z (q.symm.trans e)
theorem ea_if {c:Prop} [Decidable c] (h:EAll P x) (k:EAll P y):EAll P (if c then x else y):=by
 split
 ·exact h
 ·exact k
theorem ea_1 {m:Except Str (List Int)}{F:List Int→Except Str PT} (h:∀ ks,m=.ok ks→EAll P (F ks)):EAll P (match (generalizing:=false) m with | .error e=>.error e | .ok ks=>F ks):=by
 cases m with
 | error e=>exact ea_err
 | ok ks=>exact h ks rfl
theorem ea_2 {m:Except Str (List Int×Int)}{F:List Int→Int→Except Str PT} (h:∀ kt v,m=.ok (kt,v)→EAll P (F kt v)):EAll P (match (generalizing:=false) m with | .error e=>.error e | .ok (kt,v)=>F kt v):=by
 cases m with
 | error e=>exact ea_err
 | ok p=>cases p with | mk kt v=>exact h kt v rfl
end
theorem qg4 {kd:Int}{S:List Str}{body:List Int}:EAll (fun p=>p.2.1.length≤body.length∧p.2.2.length≤1∧∃ v,p.2.2=qck kd v) (pRes kd S body) :=
 bkCases kd (fun a=>ea_eq (bk0 a) (ea_1 fun ks hk=>ea_ok ⟨(qc4 hk).1,Nat.zero_le _,0,(bk0 a).symm⟩))
  (fun a b=>ea_eq (bk1 a b) (ea_1 fun ks hk=>ea_2 (F:=fun kt V=>.ok (qb6 (S.contains "PADDED") body,kt,[])) fun kt v hu=>ea_ok ⟨Nat.le_trans (qfe hu) (qc4 hk).1,Nat.zero_le _,0,(bk1 a b).symm⟩))
  (fun a b c=>ea_eq (bk3 a b c) (ea_if (ea_ok ⟨Nat.zero_le _,Nat.le_refl _,_,(bk3 a b c).symm⟩) ea_err))
  (fun a b c d=>ea_eq (bk5 a b c d) (ea_1 fun ks hk=>ea_2 (F:=fun kt mo=>.ok (qb6 (S.contains "PADDED") body,kt,[("promised_stream_id",.int mo)])) fun kt v hu=>ea_ok ⟨Nat.le_trans (qfe hu) (qc4 hk).1,Nat.le_refl _,v,(bk5 a b c d).symm⟩))
  (fun a b c d f=>ea_eq (bk8 a b c d f) (ea_if (ea_if ea_err (ea_ok ⟨Nat.zero_le _,Nat.le_refl _,_,(bk8 a b c d f).symm⟩)) ea_err))
  (fun a b c d f g=>ea_eq (bk9 a b c d f g) (ea_ok ⟨Nat.le_refl _,Nat.zero_le _,0,(bk9 a b c d f g).symm⟩))
  fun a b c d f g=>ea_eq (bkE a b c d f g) (ea_ok ⟨Nat.le_refl _,Nat.le_refl _,kd,(bkE a b c d f g).symm⟩)
set_option tactic.hygienic true in
theorem qg3 {kd:Int}{S:List Str}{body da:List Int}{pad:Int}{mo:List (Str×D)} (h:pRes kd S body=.ok (pad,da,mo)):da.length≤body.length∧mo.length≤1:=⟨(qg4 _ h).1,(qg4 _ h).2.1⟩
theorem pRes_more {kd:Int}{S:List Str}{body da:List Int}{pad:Int}{mo:List (Str×D)} (h:pRes kd S body=.ok (pad,da,mo)):∃ v,mo=qck kd v:=(qg4 _ h).2.2
theorem kIts_len (kd:Int):(kIts kd).length≤4:=by
 unfold kIts
 exact qbn (p:=fun l:List (Addr×Int×Str)=>l.length≤4) (by decide) (by decide) (by decide) (by decide) (by decide) (by decide) (by decide)
theorem tkS_len (data:List Int):(tkS data).length≤4:=Nat.le_trans (qd4 _ _) (kIts_len _)
def uOut (l a dx b:Addr) (m:Int) (pre:List Int) (pl:Int) (ps:Array Value) (H:List HF) (F:HF) (d:D) (M':List (Addr×AO)):Prop:=match H with
 | []=>if ((F.Cc == 138 || F.Cc == 179) && !eH F.S)=true then d=.none∧M'=uM l a dx b m pre pl ps (HD [F]) (F.M++HM []) else d=.val (.ref F.f)∧M'=uM l a dx b m pre pl ps (HD []) (F.M++HM [])
 | h0::H'=>(F.Cc == 212)=true∧F.sid=h0.sid∧H'.length<63 ∧
  if eH F.S=true then ∃ l' ps',TriplesOk ps'.toList∧(∃ more,ps'=ps++more)∧d=.val (.ref h0.f)∧M'=(l',.lst [])::(l,.lst (HD (h0::H')++[.val (.ref F.f)]))::(a,.inst 330 dx)::(dx,.dict (fbFs b l' m pre pl))::(308,.raw (tabO ps'))::(F.M++((joined h0 H' F).M++HM H'))
  else d=.none∧M'=uM l a dx b m pre pl ps (HD (h0::H')++[.val (.ref F.f)]) (F.M++HM (h0::H'))
def uErr (H:List HF) (F:HF):Prop:=match H with
 | []=>False
 | h0::H'=>¬ ((F.Cc == 212)=true∧F.sid=h0.sid∧H'.length<63)
theorem fn_uhb' {P:Params}{l a dx b:Addr}{m pl:Int}{pre:List Int}{ps:Array Value}{F:HF}{H:List HF}{n:Nat} (htr:TriplesOk ps.toList) (oF:HOk P F) (oH:∀ h∈H,HOk P h) (hl:H.length≤64) (hz:((H++[F]).map HF.data).flatten.length≤16777216) :
 FnR P 313 (n+2) [.val (.ref a),.val (.ref F.f)] (uM l a dx b m pre pl ps (HD H) (F.M++HM H)) (uOut l a dx b m pre pl ps H F) (fun cls c2 M'=>c2=.none∧cls=.ref 251∧Z308 M'∧uErr H F) :=
 (fn_uhb htr oF.c (fun h hm=>(oH h hm).c) oF.s (fun h hm=>(oH h hm).s) hl hz oF.m fun h hm=>(oH h hm).m).mono (fun d M h=>by cases H <;> exact h) fun c c2 M h=>by cases H <;> exact h
noncomputable abbrev bM (b l a dx:Addr) (m:Int) (pre:List Int) (pl:Int) (ps:Array Value) (data:List Int) (H:List HF):List (Addr×AO):=(b,.ba data)::uM l a dx b m pre pl ps (HD H) (HM H)
def takeK (l a dx b:Addr) (m:Int) (pre:List Int) (pl:Int) (ps:Array Value) (data:List Int) (H:List HF) (d:D) (M':List (Addr×AO)):Prop :=
 (qbd m data=.no∧d=.tup [.bool false,.none]∧∃ J,M'=J++bM b l a dx m pre pl ps data H) ∨
 (∃ len kd sid pad da mo S f fdx fsf dU MU,qbd m data=.yes len kd sid pad da mo S∧uOut l a dx b m pre pl ps H ⟨f,fdx,fsf,kCc kd,sid,pad,da,mo,S⟩ dU MU∧d=.tup [.bool true,dU]∧M'=MU++[(b,.ba (data.drop (9+len)))])
def takeKE (m:Int) (data:List Int) (H:List HF) (cls c2:Value):Prop :=
 (∃ c,qbd m data=.err c∧cls=.ref c)∨(∃ len kd sid pad da mo S f fdx fsf,qbd m data=.yes len kd sid pad da mo S∧cls=.ref 251∧uErr H ⟨f,fdx,fsf,kCc kd,sid,pad,da,mo,S⟩)
noncomputable abbrev tSl (a:Addr) (vf vl ve vm vn:Option D):List Slot:=[⟨"self",.local,some (.val (.ref a))⟩,⟨"f",.local,vf⟩,⟨"length",.local,vl⟩,⟨"err",.local,ve⟩,⟨"msg",.local,vm⟩,⟨"new_frame",.local,vn⟩,⟨"len",.globalImplicit,none⟩,⟨"Frame",.globalImplicit,none⟩,⟨"bytes",.globalImplicit,none⟩,⟨"InvalidDataError",.globalImplicit,none⟩,⟨"InvalidFrameError",.globalImplicit,none⟩,⟨"ProtocolError",.globalImplicit,none⟩,⟨"FrameDataMissingError",.globalImplicit,none⟩]
set_option maxHeartbeats 2000000 in
theorem take_two {C:Cx}{l a dx b f fdx fsf:Addr}{m pl kd sid:Int}{pre data:List Int}{ps:Array Value}{H:List HF}{S:List Str}{nl n:Nat}{kf:List (Str×D)} (O:Ok C (n+4)) (G:OkR C) (hE:∃ L,C.env=callEnvC (fdAt C.w.params 327) L 327)
 (htr:TriplesOk ps.toList) (oH:∀ h∈H,HOk C.w.params h) (hl:H.length≤64) (hd:data.length≤1000000) (hz:(H.map HF.data).flatten.length≤8000000) (hm:m.natAbs<2 ^ 64)
 (hT1:qbd m data=(if data.length<nl+9 then .no else if m<(nl:Int) then .err 263 else match pRes kd S (qbv data) with | .error e=>.err (if e="missing" then 275 else 251) | .ok (pad,da,mo)=>.yes nl kd sid pad da mo S))
 (hSl:S.length≤4) (hlook:kf.lookup ("parse_body":Str)=none) (hcls:ClsF C.w.params (kCc kd)) (hmeth:methA C.w.params (kCc kd) "parse_body" (pbF kd)=true) (hbody:qbv data=(data.drop 9).take nl)
 (hfb:∀ n,FnR C.w.params (pbF kd) (n+2) [.val (.ref f),.bytes (qbv data)] (frM f fdx fsf (kCc kd) kf S) (fun d M'=>d=.none∧∃ pad da mo,pRes kd S (qbv data)=.ok (pad,da,mo)∧M'=frM f fdx fsf (kCc kd) (hFs sid fsf pad da mo) S) (fun cls c2 V=>c2=.none∧∃ e,pRes kd S (qbv data)=.error e∧exOf e cls)) :
 SLR C ⟨tSl a (some (.val (.ref f))) (some (.int (nl:Int))) none none none,frM f fdx fsf (kCc kd) kf S++bM b l a dx m pre pl ps data H⟩ ((qad (fdAt C.w.params 327)).drop 2)
  (fun fl σ'=>match fl with | .ret d=>takeK l a dx b m pre pl ps data H d σ'.ms | .next=>takeK l a dx b m pre pl ps data H .none σ'.ms | _=>False) (fun cls c2 σ'=>takeKE m data H cls c2∧Z308 σ'.ms):=by
 obtain ⟨L,hE⟩:=hE
 have ow:ownA C.w.params 330 "_data"=true:=by kernel_rfl
 conv=>enter [3];whnf
 try dsimp only [List.drop_succ_cons,List.drop_zero]
 try dsimp only [lca,lna]
 walk_at "r.if"
 case yes =>
  intro hlt
  have hlt:data.length<nl+9:=by have:=of_decide_eq_true hlt;lia
  walk_at "r.ret"
  case k=>exact .inl ⟨by rw [hT1,if_pos hlt],rfl,[_,_,_],rfl⟩
 case no =>
  intro hlt
  have hlt:¬ data.length<nl+9:=by have:=of_decide_eq_false hlt;lia
  rw [if_neg hlt] at hT1
  refine' qdm (K:=fun V σ'=>(nl:Int)≤m∧σ'=⟨tSl a (some (.val (.ref f))) (some (.int (nl:Int))) none none none,[(a,AO.inst 330 dx),(dx,.dict (fbFs b l m pre pl))]++((fsf,.set S)::(f,.inst (kCc kd) fdx)::(fdx,.dict kf)::(b,.ba data)::(l,.lst (HD H))::(308,.raw (tabO ps))::HM H)⟩) O
   (qcu (f:=306) O G ?o_1 ?m1_1 ?m2_1 ?lk_1 (by kernel_rfl) ?as_1 (Picks.perm ?pk_1) (fn_val (n:=n+3) (len:=(nl:Int)) (m:=m) (a:=a) (dx:=dx) (b:=b) (l:=l) (pre:=pre) (pl:=pl) hm (by show nl<2 ^ 64;exact Nat.lt_of_le_of_lt (Nat.le_trans (Nat.le_trans (Nat.le_add_right nl 9) (Nat.not_lt.mp hlt)) (by assumption)) (by decide:1000000<2 ^ 64))) ?q_1 ?r_1 rfl rfl (by decide)) ?kk_1 rfl (by unfold interactive;rw [O.fk];rfl)
  case o_1=>walk_at "m.x"
  case m1_1=>walk_at "m.mem"
  case m2_1=>walk_at "m.mem"
  case lk_1=>kernel_rfl
  case as_1=>walk_at "m.xs"
  case pk_1=>walk_at "m.picks"
  case q_1 =>
   rintro d M' ⟨rfl,hle,rfl⟩
   exact ⟨hle,rfl⟩
  case r_1 =>
   rintro cls c2 M' ⟨rfl,rfl,hgt⟩
   exact ⟨.inl ⟨263,by rw [hT1,if_pos hgt],rfl⟩,⟨ps,mar _ (by walk_at "m.mem")⟩⟩
  case kk_1 =>
   rintro _ σ' ⟨hle,rfl⟩
   rw [if_neg (by lia)] at hT1
   dsimp only [lca,lna]
   have hsl:(data.drop 9).take nl=cut data (some 9) (some (9+(nl:Int))):=by
    unfold cut
    simp only [Option.elim]
    have e1:clipAt data.length 9=9:=(qbx data.length 9).trans (Nat.min_eq_left (Nat.le_trans (Nat.le_add_left 9 nl) (Nat.not_lt.mp hlt)))
    have e2:clipAt data.length (9+(nl:Int))=9+nl:=by
     rw [show (9+(nl:Int))=((9+nl:Nat):Int) from by lia,qbx];lia
    rw [e1,e2]
    congr 1;lia
   refine' SR_try (KE1:=fun cls c2 σ'=>c2=.none∧(∃ e,pRes kd S (qbv data)=.error e∧exOf e cls)∧∃ ms,Z308 ms∧σ'=⟨tSl a (some (.val (.ref f))) (some (.int (nl:Int))) none none none,ms⟩) G ?hb_2 ?hh_2
   case hh_2 =>
    rintro cls c2 σ' ⟨rfl,⟨e,hpe,hex⟩,ms,hZ,rfl⟩
    rw [hpe] at hT1
    rcases hex with ⟨rfl,rfl⟩ | ⟨rfl,rfl⟩
    ·refine' qc0 (qch O ?h1_3 g_InvalidDataError (by kernel_rfl)) (qcv O G (qch O ?h2_3 g_InvalidFrameError (by kernel_rfl)) ec_IF ec_DM (fun a'=>⟨_,_,?p1_3,?p2_3,?p3_3,?p4_3,?p5_3⟩) (by rw [hE];kernel_rfl) ?ke_3)
     case h1_3=>walk_at "m.has"
     case h2_3=>walk_at "m.has"
     case p2_3=>walk_at "m.put"
     case p3_3=>walk_at "m.put"
     case p1_3=>walk_at "m.has"
     case p4_3=>walk_at "m.has"
     case p5_3=>walk_at "m.has"
     case ke_3=>exact fun c2=>⟨.inl ⟨275,by rw [hT1];rfl,rfl⟩,hZ⟩
    ·refine' qcv O G (qch O ?h1_4 g_InvalidDataError (by kernel_rfl)) ec_ID ec_PE (fun a'=>⟨_,_,?p1_4,?p2_4,?p3_4,?p4_4,?p5_4⟩) (by rw [hE];kernel_rfl) ?ke_4
     case h1_4=>walk_at "m.has"
     case p2_4=>walk_at "m.put"
     case p3_4=>walk_at "m.put"
     case p1_4=>walk_at "m.has"
     case p4_4=>walk_at "m.has"
     case p5_4=>walk_at "m.has"
     case ke_4=>exact fun c2=>⟨.inl ⟨251,by rw [hT1];rfl,rfl⟩,hZ⟩
   case hb_2 =>
    refine' qdm (K:=fun V σ'=>∃ pad da mo,pRes kd S (qbv data)=.ok (pad,da,mo)∧σ'=⟨tSl a (some (.val (.ref f))) (some (.int (nl:Int))) none none none,frM f fdx fsf (kCc kd) (hFs sid fsf pad da mo) S++((a,AO.inst 330 dx)::(dx,.dict (fbFs b l m pre pl))::(b,.ba data)::(l,.lst (HD H))::(308,.raw (tabO ps))::HM H)⟩) O
     (qcu O G ?o_5 ?m1_5 ?m2_5 hlook hmeth ?as_5 (Picks.perm ?pk_5) (hfb (n+2)) ?q_5 ?r_5 rfl rfl (by decide)) ?kk_5 rfl (by unfold interactive;rw [O.fk];rfl)
    case o_5=>walk_at "m.x"
    case m1_5=>walk_at "m.mem"
    case m2_5=>walk_at "m.mem"
    case as_5=>rw [hbody,hsl];unfold cut;walk_at "m.xs"
    case pk_5=>walk_at "m.picks"
    case q_5 =>
     rintro d M' ⟨rfl,pad,da,mo,h1,rfl⟩
     exact ⟨pad,da,mo,h1,rfl⟩
    case r_5 =>
     rintro cls c2 M' ⟨rfl,h2⟩
     exact ⟨rfl,h2,_,⟨ps,mar _ (by walk_at "m.mem")⟩,rfl⟩
    case kk_5 =>
     rintro _ σ' ⟨pad,da,mo,hpr,rfl⟩
     refine qaw ?_
     rw [hpr] at hT1
     dsimp only at hT1
     obtain ⟨hda,hmo⟩:=qg3 hpr
     dsimp only [lca,lna]
     refine' SR_delBa (i:=9+nl) (ks:=data) (a:=b) G.gd ?ho_7 ?he_7 ?hM_7 ?hz_7 ?hk_7 ?k
     case ho_7=>walk_at "m.x"
     case he_7=>rw [show ((9+nl:Nat):Int)=9+(nl:Int) from by lia];walk_at "m.x"
     case hM_7=>walk_at "m.mput"
     case hz_7=>lia
     case hk_7=>lia
     case k =>
      have oF:HOk C.w.params ⟨f,fdx,fsf,kCc kd,sid,pad,da,mo,S⟩:=⟨hcls,Nat.lt_of_le_of_lt hSl (by decide),Nat.le_trans hmo (by decide)⟩
      refine' qbo (K:=fun d σ'=>∃ MU,uOut l a dx b m pre pl ps H ⟨f,fdx,fsf,kCc kd,sid,pad,da,mo,S⟩ d MU∧σ'=⟨tSl a (some (.val (.ref f))) (some (.int (nl:Int))) none none none,MU++[(b,.ba (data.drop (9+nl)))]⟩) O
       (qcu (f:=313) O G ?o_8 ?m1_8 ?m2_8 ?lk_8 (by kernel_rfl) ?as_8 ?pp_8 (fn_uhb' (n:=n+2) (F:=⟨f,fdx,fsf,kCc kd,sid,pad,da,mo,S⟩) (l:=l) (a:=a) (dx:=dx) (b:=b) (m:=m) (pl:=pl) (pre:=pre) htr oF oH hl ?hz2_8) ?q_8 ?r_8 rfl rfl (by decide)) ?kk_8 rfl
      case o_8=>walk_at "m.x"
      case m1_8=>walk_at "m.mem"
      case m2_8=>walk_at "m.mem"
      case lk_8=>kernel_rfl
      case as_8=>walk_at "m.xs"
      case pp_8 =>
       have hpk:Picks [(l,.lst (HD H)),(a,.inst 330 dx),(dx,.dict (fbFs b l m pre pl)),(308,.raw (tabO ps)),(fsf,.set S),(f,.inst (kCc kd) fdx),(fdx,.dict (hFs sid fsf pad da mo))]
        ((fsf,.set S)::(f,.inst (kCc kd) fdx)::(fdx,.dict (hFs sid fsf pad da mo))::(a,.inst 330 dx)::(dx,.dict (fbFs b l m pre pl))::(b,.ba (data.drop (9+nl)))::(l,.lst (HD H))::(308,.raw (tabO ps))::HM H) ((b,.ba (data.drop (9+nl)))::HM H):=by walk_at "m.picks"
       refine hpk.perm.trans ?_
       have:∀ (X Y:List (Addr×AO)) (z:Addr×AO),(X++z::Y).Perm ((X++Y)++[z]):=fun X Y z=>List.perm_middle.trans (List.perm_append_singleton z (X++Y)).symm
       exact this _ _ _
      case hz2_8 =>
       rw [lma,List.flatten_append,lea]
       have:da.length≤data.length:=Nat.le_trans hda (by unfold qbv;rw [List.length_take,List.length_drop];exact qcy (Nat.le_refl _))
       simp only [lmc,List.map_nil,List.flatten_cons,List.flatten_nil,List.append_nil]
       lia
      case q_8 =>
       rintro d M' hU
       exact ⟨M',hU,rfl⟩
      case r_8 =>
       rintro cls c2 M' ⟨rfl,rfl,hZ,hU⟩
       exact ⟨.inr ⟨_,_,_,_,_,_,_,_,_,_,hT1,rfl,hU⟩,hZ.app⟩
      case kk_8 =>
       rintro d σ' ⟨MU,hU,rfl⟩
       refine' ⟨_,?put,?k⟩
       case put=>walk_at "m.put"
       case k =>
        walk_at "r.ret"
        case k=>exact .inr ⟨_,_,_,_,_,_,_,_,_,_,_,_,hT1,hU,rfl,rfl⟩
set_option maxHeartbeats 2000000 in
theorem fn_take {P:Params}{l a dx b:Addr}{m pl:Int}{pre:List Int}{ps:Array Value}{data:List Int}{H:List HF}{n:Nat} (htr:TriplesOk ps.toList) (oH:∀ h∈H,HOk P h) (hl:H.length≤64) (hd:data.length≤1000000) (hb:∀ k∈data,0≤k∧k<256) (hz:(H.map HF.data).flatten.length≤8000000) (hm:m.natAbs<2 ^ 64) :
 FnR P 327 (n+5) [.val (.ref a)] (bM b l a dx m pre pl ps data H) (takeK l a dx b m pre pl ps data H) (fun cls c2 M'=>takeKE m data H cls c2∧Z308 M'):=FnR_ofE rec_take.toD rfl (by
 intro C hP hcap hE O G
 subst hP
 obtain ⟨L,hE⟩:=hE
 rw [sl_take]
 have ow:ownA C.w.params 330 "_data"=true:=by kernel_rfl
 conv=>enter [3];whnf
 walk_at "r.if"
 case yes =>
  intro h9
  have h9:data.length<9:=by have:=of_decide_eq_true h9;lia
  walk_at "r.ret"
  case k=>exact .inl ⟨by unfold qbd;rw [if_pos h9],rfl,[],rfl⟩
 case no =>
  intro h9
  have h9:¬ data.length<9:=by have:=of_decide_eq_false h9;lia
  have hh9:(data.take 9).length=9:=by rw [List.length_take];lia
  have hb9:∀ k∈data.take 9,0≤k∧k<256:=fun k hk=>hb k (List.mem_of_mem_take hk)
  have e9:cut data none (some 9)=data.take 9:=qge data 9
  show SLR C ⟨tSl a none none none none none,bM b l a dx m pre pl ps data H⟩ _ _ _
  refine' SR_try (KE1:=fun cls c2 σ'=>c2=.none∧cls=.ref 37∧qg7 (qau (data.take 9)) (hSid (data.take 9))=true∧∃ ms,Z308 ms∧σ'=⟨tSl a none none none none none,ms⟩) G ?hb_11 ?hh_11
  case hh_11 =>
   rintro cls c2 σ' ⟨rfl,rfl,hdE,ms,hZ,rfl⟩
   refine' qcv O G (HT_tup O ?h1_12 g_InvalidDataError ?h2_12 g_InvalidFrameError (by kernel_rfl)) ec_ID ec_PE (fun a'=>⟨_,_,?p1_12,?p2_12,?p3_12,?p4_12,?p5_12⟩) (by rw [hE];kernel_rfl) ?ke_12
   case h1_12=>walk_at "m.has"
   case h2_12=>walk_at "m.has"
   case p2_12=>walk_at "m.put"
   case p3_12=>walk_at "m.put"
   case p1_12=>walk_at "m.has"
   case p4_12=>walk_at "m.has"
   case p5_12=>walk_at "m.has"
   case ke_12=>exact fun c2=>⟨.inl ⟨251,by unfold qbd;rw [if_neg h9,if_pos hdE],rfl⟩,hZ⟩
  case hb_11 =>
   refine' SR_assignTR (K:=fun d σ'=>qg7 (qau (data.take 9)) (hSid (data.take 9))=false∧∃ f fdx fsf,d=.tup [.val (.ref f),.int (qa9 (cut (data.take 9) none (some 3)))]∧σ'=⟨tSl a none none none none none,frM f fdx fsf (kCc (qau (data.take 9))) (kFs (qau (data.take 9)) (hSid (data.take 9)) fsf) (tkS data)++bM b l a dx m pre pl ps data H⟩) O
    (XR_static (M1:=[]) (f:=62) (p:=64) (Cc:=82) O G ?o_13 ?st_13 (by kernel_rfl) ?as_13 (.refl _) (fn_pfh hh9 hb9) ?q_13 ?r_13 rfl rfl (by decide)) ?kk_13 rfl rfl
   case o_13=>walk_at "m.x"
   case st_13=>kernel_rfl
   case as_13=>rw [← e9];unfold cut;walk_at "m.xs"
   case q_13 =>
    rintro d M' ⟨h1,f,fdx,fsf,rfl,rfl⟩
    exact ⟨h1,f,fdx,fsf,rfl,rfl⟩
   case r_13 =>
    rintro cls c2 M' ⟨rfl,rfl,h3⟩
    exact ⟨rfl,rfl,h3,_,⟨ps,mar _ (by walk_at "m.mem")⟩,rfl⟩
   case kk_13 =>
    rintro d σ' ⟨hdE,f,fdx,fsf,rfl,rfl⟩
    refine' ⟨_,_,rfl,?asg_14,?k⟩
    case asg_14=>walk_at "m.asgs"
    case k =>
     refine qaw ?_
     have hnl:qa9 (cut (data.take 9) none (some 3))=(qdf data:Int):=by
      unfold qdf
      rw [Int.toNat_of_nonneg (qbl fun k hk=>hb9 k (cut_in hk))]
     rw [hnl]
     have hT1:qbd m data=(if data.length<qdf data+9 then .no else if m<(qdf data:Int) then .err 263 else match pRes (qau (data.take 9)) (tkS data) (qbv data) with | .error e=>.err (if e="missing" then 275 else 251) | .ok (pad,da,mo)=>.yes (qdf data) (qau (data.take 9)) (hSid (data.take 9)) pad da mo (tkS data)):=by
      unfold qbd;rw [if_neg h9,if_neg (by rw [hdE];decide)];all_goals rfl
     have hSl:=tkS_len data
     have hlook:(kFs (qau (data.take 9)) (hSid (data.take 9)) fsf).lookup ("parse_body":Str)=none:=by
      unfold kFs
      exact qbn (p:=fun l:List (Str×D)=>l.lookup ("parse_body":Str)=none) (by kernel_rfl) (by kernel_rfl) (by kernel_rfl) (by kernel_rfl) (by kernel_rfl) (by kernel_rfl) (by kernel_rfl)
     have hcls:=clsF (P:=C.w.params) (qau (data.take 9))
     have hmeth:=pbMeth (P:=C.w.params) (qau (data.take 9))
     have hnlz:qdf data<2 ^ 63∨¬ qdf data<2 ^ 63:=by lia
     show SLR C ⟨tSl a (some (.val (.ref f))) (some (.int (qdf data:Int))) none none none,frM f fdx fsf (kCc (qau (data.take 9))) (kFs (qau (data.take 9)) (hSid (data.take 9)) fsf) (tkS data)++bM b l a dx m pre pl ps data H⟩ _ _ _
     have hbody:qbv data=(data.drop 9).take (qdf data):=rfl
     have hfb:=fun n=>fn_body (P:=C.w.params) (sid:=hSid (data.take 9)) (f:=f) (dx:=fdx) (sf:=fsf) (n:=n) (body:=qbv data) (qau (data.take 9)) (S:=tkS data) (by lia) (by unfold qbv;rw [List.length_take,List.length_drop];exact qcy (by assumption)) (fun k hk=>hb k (List.mem_of_mem_drop (List.mem_of_mem_take hk)))
     exact take_two O G ⟨L,hE⟩ htr oH hl hd hz hm hT1 hSl hlook hcls hmeth hbody hfb)
section
variable {C:Cx}{n:Nat}{imm:List Cell}{s:Shared}{ρ:List Slot}{M1 M2:List (Addr×AO)}{f:Addr}{fd:FuncData}{body:List Stmt}{ps:List Str}{vs:List Value}{ds:List D}{σ:AS}
theorem Rel.in1A (R:Rel C σ imm s):Rel { C with A:=C.A.in1 } σ imm s:=by
 refine Rel.elim R fun m os kc fs R=>?_
 exact ⟨m,os,kc,fs,{ fr:=R.fr,nw:=R.nw,mu:=R.mu,kd:=R.kd,nd:=R.nd,ap:=R.ap,ah:=R.ah,hn:=R.hn,ou:=R.ou,nm:=R.nm,kn:=R.kn,va:=R.va,cc:=R.cc,gn:=R.gn,so:=R.so }⟩
theorem Rel.outA (R:Rel { C with A:=C.A.in1 } σ imm s):Rel C σ imm s:=by
 refine Rel.elim R fun m os kc fs R=>?_
 exact ⟨m,os,kc,fs,{ fr:=R.fr,nw:=R.nw,mu:=R.mu,kd:=R.kd,nd:=R.nd,ap:=R.ap,ah:=R.ah,hn:=R.hn,ou:=R.ou,nm:=R.nm,kn:=R.kn,va:=R.va,cc:=R.cc,gn:=R.gn,so:=R.so }⟩
noncomputable def propA (P:Params) (Cc:Addr) (name:Str) (p f:Addr):Bool:=plainGet (KK P) Cc name && hasDictIn (KK P) Cc && (findIn (KK P) (.ref Cc) name == some (some (.ref p))) &&
 (specialIn (KK P) (.ref p) "__get__" == some (some (.builtin "property.__get__"))) && (takesIn (KK P) (.ref p) == some true) && ((recIn (KK P) p "property").bind List.head? == some (.ref f))
set_option tactic.hygienic true in
theorem X_prop {value:Expr}{attr:Str}{pos:Pos}{x Cc dx p:Addr}{fs:List (Str×D)}{i:Int} (O:Ok C (n+2)) (ho:X C ⟨ρ,M1++M2⟩ value (.val (.ref x))) (hx:(x,AO.inst Cc dx)∈M1++M2) (hd:(dx,AO.dict fs)∈M1++M2) (FR:FnRec C.w.params f fd body ["self"]) (hp:propA C.w.params Cc attr p f=true)
 (hb:∀ C':Cx,C'.w.params=C.w.params→Ok C' n→SL C' ⟨qa7 fd.scope.names ["self"] [.val (.ref x)],M1⟩ body (fun fl σ'=>fl=.ret (.int i)∧σ'.ms=M1) (fun V V=>False))
 (hbase:attributeBase value attr C.env (eval value C.env)=eval value C.env):X C ⟨ρ,M1++M2⟩ (.Attribute value attr pos) (.int i):=.mk fun imm s R Q E q=>by
 refine qgl (a:=x) hbase (ho.goV imm s R _ _ fun i1 s1 hs1 R1=>?_)
 refine ⟨rfl,?_⟩
 obtain ⟨es,k,hF,I⟩:=R1.inst hx hd
 unfold propA at hp
 simp only [Bool.and_eq_true,beq_iff_eq] at hp
 obtain ⟨⟨⟨⟨⟨h1,h2⟩,hfa⟩,h4⟩,h5⟩,h6⟩:=hp
 obtain ⟨l,hr,hl⟩:=Option.bind_eq_some_iff.mp h6
 obtain ⟨rest,rfl⟩:=List.head?_eq_some_iff.mp hl
 have R1':=R1
 obtain ⟨m,os,kc,fs',RX⟩:=R1'
 refine get_prop RX.fr O.kin I h1 h2 hfa h4 h5 hr ?_
 refine qgh (C:={ C with A:=C.A.in1 }) (n:=n) (K:=fun d M'=>d=.int i∧M'=M1) { O with dep:=by have:=O.dep;show C.A.depth+(n+1)<recursionLimit;lia,un:=by have:=O.un;show C.A.units+1+20 * (n+1)+20<cLine;lia } FR (R1.tok _).in1A (.cons (.val _) .nil) rfl (fun L hid O'=>?_) fun v d M1' i2 s2 hs2 R2 hv2 hK=>?_
 ·have:=hb (Cx.called { C with A:=C.A.in1 } fd L f hid) rfl O'
  exact .mk fun imm s R=>wpAny_mono (this.go imm s R) (fun V V h=>h.of fun V V h=>by obtain ⟨e1,e2⟩:=h;subst e1;exact ⟨rfl,e2⟩) fun V V x=>x
 ·obtain ⟨rfl,rfl⟩:=hK
  cases hv2
  dsimp only
  rw [handedOut_of rfl]
  exact wpAny_pure (q _ i2 s2 (qa0 hs1 hs2) R2.outA (.int _ _))
end
structure ClsR (P:Params) (Cc:Addr):Prop where
 iD:isiA P Cc 114 (Cc == 114)=true
 iR:isiA P Cc 157 (Cc == 157)=true
 iW:isiA P Cc 198 (Cc == 198)=true
 o1:ownA P Cc "pad_length"=true
theorem clsR {P:Params} (kd:Int):ClsR P (kCc kd):=by
 unfold kCc
 refine qbn (p:=ClsR P) ⟨?_,?_,?_,?_⟩ ⟨?_,?_,?_,?_⟩ ⟨?_,?_,?_,?_⟩ ⟨?_,?_,?_,?_⟩ ⟨?_,?_,?_,?_⟩ ⟨?_,?_,?_,?_⟩ ⟨?_,?_,?_,?_⟩ <;> kernel_rfl
theorem kCc_is (kd:Int):(kCc kd=114→kd=0)∧(kCc kd=138→kd=1)∧(kCc kd=157→kd=3)∧(kCc kd=179→kd=5)∧(kCc kd=198→kd=8)∧(kCc kd=212→kd=9):=by
 unfold kCc qav
 by_cases h0:kd=0
 ·subst h0;decide
 by_cases h1:kd=1
 ·subst h1;decide
 by_cases h3:kd=3
 ·subst h3;decide
 by_cases h5:kd=5
 ·subst h5;decide
 by_cases h8:kd=8
 ·subst h8;decide
 by_cases h9:kd=9
 ·subst h9;decide
 simp [h0,h1,h3,h5,h8,h9]
noncomputable def fclI (F:HF):Int:=if F.S.contains "PADDED"=true then (F.data.length:Int)+F.pad+1 else (F.data.length:Int)
noncomputable def qcc (kd v:Int):Int:=qav kd 0 1 3 5 8 9 v
noncomputable def qee (kd v:Int) (F:HF):Int:=qav kd (fclI F) 0 v v v 0 0
noncomputable def rowD (kd v:Int) (F:HF):D:=.lst [.int (qcc kd v),.int F.sid,.bool (F.S.contains "END_STREAM"),.bool (F.S.contains "END_HEADERS"),.bool (F.S.contains "PADDED"),.bool (F.S.contains "PRIORITY"),.bytes F.data,.int (qee kd v F)]
theorem fcl_body {C:Cx}{n:Nat}{f dx sf:Addr}{sid pad:Int}{data:List Int}{more:List (Str×D)}{S:List Str} (O:Ok C n) (hS:S.length<3000) (hl:data.length≤16777216) (hm:more.length≤800) :
 SL C ⟨qa7 (fdAt C.w.params 110).scope.names ["self"] [.val (.ref f)],[(sf,.set S),(f,.inst 114 dx),(dx,.dict (hFs sid sf pad data more))]⟩ (qad (fdAt C.w.params 110))
  (fun fl σ'=>fl=.ret (.int (if S.contains "PADDED"=true then (data.length:Int)+pad+1 else (data.length:Int)))∧σ'.ms=[(sf,.set S),(f,.inst 114 dx),(dx,.dict (hFs sid sf pad data more))]) (fun V V=>False):=by
 rw [sl_fcl]
 have o1:ownA C.w.params 114 "flags"=true:=by kernel_rfl
 have o2:ownA C.w.params 114 "data"=true:=by kernel_rfl
 have o3:ownA C.w.params 114 "pad_length"=true:=by kernel_rfl
 conv=>enter [3];whnf
 walk_at "m.if"
 case yes =>
  intro h
  walk_at "m.ret"
  case k=>exact ⟨by rw [if_pos h],rfl⟩
 case no =>
  intro h
  walk_at "m.ret"
  case k=>exact ⟨by rw [if_neg (by rw [h];decide)],rfl⟩
noncomputable abbrev rSl (f:Addr) (vk vm vf:Option D):List Slot:=[⟨"frame",.local,some (.val (.ref f))⟩,⟨"kind",.local,vk⟩,⟨"more",.local,vm⟩,⟨"flags",.local,vf⟩,⟨"isinstance",.globalImplicit,none⟩,⟨"DataFrame",.globalImplicit,none⟩,⟨"HeadersFrame",.globalImplicit,none⟩,⟨"ContinuationFrame",.globalImplicit,none⟩,⟨"PushPromiseFrame",.globalImplicit,none⟩,⟨"RstStreamFrame",.globalImplicit,none⟩,⟨"WindowUpdateFrame",.globalImplicit,none⟩]
set_option tactic.hygienic true in
set_option maxHeartbeats 2000000 in
theorem qdg {m:Int}{data:List Int}{len:Nat}{kd sid pad:Int}{da:List Int}{mo:List (Str×D)}{S:List Str} (h:qbd m data=.yes len kd sid pad da mo S):len+9≤data.length∧pRes kd S ((data.drop 9).take len)=.ok (pad,da,mo)∧S.length≤4:=by
 unfold qbd at h
 split at h
 ·cases h
 split at h
 ·cases h
 split at h
 ·cases h
 split at h
 ·cases h
 rename_i h1 h2 h3 h4
 split at h
 ·cases h
 ·rename_i p d mo' hp
  cases h
  exact ⟨by lia,hp,tkS_len data⟩
theorem qgv {m:Int}{data:List Int}{c:Addr} (h:qbd m data=.err c):c=251∨c=263∨c=275:=by
 unfold qbd at h
 split at h
 ·cases h
 split at h
 ·cases h;exact .inl rfl
 split at h
 ·cases h
 split at h
 ·cases h;exact .inr (.inl rfl)
 split at h
 ·cases h
  split
  ·exact .inr (.inr rfl)
  ·exact .inl rfl
 ·cases h
structure FOk (F:HF) (kd v:Int):Prop where
 c:F.Cc=kCc kd
 m:F.more=qck kd v
 s:F.S.length<2000
theorem kMore_len (kd v:Int):(qck kd v).length≤1:=by
 unfold qck
 exact qbn (p:=fun l:List (Str×D)=>l.length≤1) (by simp) (by simp) (by simp) (by simp) (by simp) (by simp) (by simp)
theorem FOk.ok {P:Params}{F:HF}{kd v:Int} (h:FOk F kd v):HOk P F:=⟨by rw [h.c];exact clsF kd,by have:=h.s;lia,by rw [h.m];have:=kMore_len kd v;lia⟩
structure St2 where
 data:List Int
 H:List HF
 last:Option HF
structure GoodS (x:St2):Prop where
 f:∀ h∈x.H,(∃ kd v,FOk h kd v)∧h.S.length<1000
 n:x.H.length≤64
 z:(x.H.map HF.data).flatten.length+x.data.length≤1000000
 b:∀ k∈x.data,0≤k∧k<256
 l:∀ F,x.last=some F→(∃ kd v,FOk F kd v)∧F.data.length≤1000000
noncomputable def qb2 (x:St2):List (Addr×AO):=match x.last with | some F=>F.M | none=>[]
inductive IB (a b dx:Addr) (m:Int) (pre:List Int) (pl:Int) (x:St2) (M1:List (Addr×AO)):Prop
 | mk (l:Addr) (ps:Array Value) (J:List (Addr×AO)):TriplesOk ps.toList→M1.Perm (bM b l a dx m pre pl ps x.data x.H++(qb2 x++J))→GoodS x→IB a b dx m pre pl x M1
def TBo (x x':St2) (fr:D) (F:HF):Prop:=match x.H with
 | []=>if ((F.Cc == 138 || F.Cc == 179) && !eH F.S)=true then fr=.none∧x'.H=[F]∧x'.last=none else fr=.val (.ref F.f)∧x'.H=[]∧x'.last=some F
 | h0::H'=>(F.Cc == 212)=true∧F.sid=h0.sid∧H'.length<63∧if eH F.S=true then fr=.val (.ref h0.f)∧x'.H=[]∧x'.last=some (joined h0 H' F) else fr=.none∧x'.H=h0::H'++[F]∧x'.last=none
inductive TB (m:Int) (x:St2) (t:Bool) (fr:D) (x':St2):Prop
 | no:t=false→fr=.none→qbd m x.data=.no→x'={ x with last:=none }→TB m x t fr x'
 | yes (len:Nat) (kd sid pad:Int) (da:List Int) (mo:List (Str×D)) (S:List Str) (f fdx fsf:Addr) (v:Int):t=true→qbd m x.data=.yes len kd sid pad da mo S→mo=qck kd v→x'.data=x.data.drop (9+len)→TBo x x' fr ⟨f,fdx,fsf,kCc kd,sid,pad,da,mo,S⟩→TB m x t fr x'
section
variable {a b dx:Addr}{m pl:Int}{pre:List Int}{n:Nat}
inductive TkB (a b dx:Addr) (m:Int) (pre:List Int) (pl:Int) (x:St2) (F:HF) (d:D) (dt:List Int) (M:List (Addr×AO)):Prop
 | mk (x':St2):(d=.none∨∃ f,d=.val (.ref f))→x'.data=dt→TBo x x' d F→IB a b dx m pre pl x' M→TkB a b dx m pre pl x F d dt M
theorem take_out {x:St2}{F:HF}{l:Addr}{ps:Array Value}{J MU:List (Addr×AO)}{dU:D}{kd v:Int}{dt:List Int}{n:Nat} (htr:TriplesOk ps.toList) (g:GoodS x) (hU:uOut l a dx b m pre pl ps x.H F dU MU) (oF:FOk F kd v) (hS:F.S.length≤4) (hda2:F.data.length≤n) (hdl:dt.length+(9+n)≤x.data.length) (hb':∀ k∈dt,0≤k∧k<256) :
 TkB a b dx m pre pl x F dU dt (MU++[(b,.ba dt)]++(qb2 x++J)):=by
 have hz1:=g.z
 cases hH:x.H with
 | nil =>
  rw [hH] at hU hz1
  unfold uOut at hU
  dsimp only at hU
  by_cases hc:((F.Cc == 138 || F.Cc == 179) && !eH F.S)=true
  ·rw [if_pos hc] at hU
   obtain ⟨rfl,rfl⟩:=hU
   refine ⟨⟨dt,[F],none⟩,.inl rfl,rfl,?_,l,ps,qb2 x++J,htr,?_,?_⟩
   ·unfold TBo;rw [hH];dsimp only;rw [if_pos hc];exact ⟨rfl,rfl,rfl⟩
   ·show (uM l a dx b m pre pl ps (HD [F]) (F.M++HM [])++[(b,AO.ba (dt))]++(qb2 x++J)).Perm
     (((b,AO.ba (dt))::uM l a dx b m pre pl ps (HD [F]) (F.M++HM []))++([]++(qb2 x++J)))
    generalize qb2 x=Q
    generalize F.M=W
    walk_at "perm"
   ·refine ⟨fun h hh=>?_,by simp,?_,hb',fun F h=>nomatch h⟩
    ·rw [msj hh];exact ⟨⟨kd,v,oF⟩,by show F.S.length<1000;lia⟩
    ·show ([F.data].flatten).length+dt.length≤1000000
     simp only [List.flatten_cons,List.flatten_nil,List.append_nil]
     simp only [List.map_nil,List.flatten_nil,List.length_nil] at hz1
     lia
  ·rw [if_neg hc] at hU
   obtain ⟨rfl,rfl⟩:=hU
   refine ⟨⟨dt,[],some F⟩,.inr ⟨_,rfl⟩,rfl,?_,l,ps,qb2 x++J,htr,?_,?_⟩
   ·unfold TBo;rw [hH];dsimp only;rw [if_neg hc];exact ⟨rfl,rfl,rfl⟩
   ·show (uM l a dx b m pre pl ps _ _++[(b,AO.ba (dt))]++(qb2 x++J)).Perm (bM b l a dx m pre pl ps (dt) []++(F.M++(qb2 x++J)))
    generalize qb2 x=Q
    walk_at "perm"
   ·refine ⟨fun h hh=>(nomatch hh),by simp,?_,hb',fun F h=>?_⟩
    ·show 0+dt.length≤1000000
     lia
    ·cases h;exact ⟨⟨kd,v,oF⟩,by show F.data.length≤1000000;lia⟩
 | cons h0 H' =>
  rw [hH] at hU hz1
  unfold uOut at hU
  dsimp only at hU
  obtain ⟨hC,hsd,hlt,hU⟩:=hU
  have gf:=g.f
  rw [hH] at gf
  rw [lmc,List.flatten_cons,lea] at hz1
  by_cases hc:eH F.S=true
  ·rw [if_pos hc] at hU
   obtain ⟨l',ps',htr',_,rfl,rfl⟩:=hU
   refine ⟨⟨dt,[],some (joined h0 H' F)⟩,.inr ⟨_,rfl⟩,rfl,?_,l',ps',(l,.lst (HD (h0::H')++[.val (.ref F.f)]))::(F.M++HM H'++(qb2 x++J)),htr',?_,?_⟩
   ·unfold TBo;rw [hH];dsimp only;rw [if_pos hc];exact ⟨hC,hsd,hlt,rfl,rfl,rfl⟩
   ·show (_++[(b,AO.ba (dt))]++(qb2 x++J)).Perm (bM b l' a dx m pre pl ps' (dt) []++(HF.M (joined h0 H' F)++_))
    generalize qb2 x=Q
    generalize HF.M (joined h0 H' F)=Z
    generalize HM H'=Y
    generalize HD (h0::H')++[.val (.ref F.f)]=X
    show (((l',AO.lst [])::(l,.lst X)::(a,.inst 330 dx)::(dx,.dict (fbFs b l' m pre pl))::(308,.raw (tabO ps'))::(F.M++(Z++Y)))++[(b,AO.ba (dt))]++(Q++J)).Perm
     (((b,AO.ba (dt))::(l',.lst [])::(a,.inst 330 dx)::(dx,.dict (fbFs b l' m pre pl))::(308,.raw (tabO ps'))::[])++(Z++((l,.lst X)::(F.M++Y++(Q++J)))))
    generalize F.M=W
    walk_at "perm"
   ·obtain ⟨⟨kd0,v0,o0⟩,hs0⟩:=gf h0 (.head _)
    refine ⟨fun h hh=>(nomatch hh),by simp,?_,hb',fun F h=>?_⟩
    ·show 0+dt.length≤1000000
     lia
    ·cases h
     refine ⟨⟨kd0,v0,o0.c,o0.m,?_⟩,?_⟩
     ·show h0.S.length+1<2000;lia
     ·show ((h0::H'++[(F:HF)]).map HF.data).flatten.length≤1000000
      simp only [lma,lmc,List.map_nil,List.flatten_append,List.flatten_cons,List.flatten_nil,lea,List.append_nil]
      lia
  ·rw [if_neg hc] at hU
   obtain ⟨rfl,rfl⟩:=hU
   refine ⟨⟨dt,h0::H'++[F],none⟩,.inl rfl,rfl,?_,l,ps,qb2 x++J,htr,?_,?_⟩
   ·unfold TBo;rw [hH];dsimp only;rw [if_neg hc];exact ⟨hC,hsd,hlt,rfl,rfl,rfl⟩
   ·have e1:HD (h0::H'++[F])=HD (h0::H')++[.val (.ref F.f)]:=by unfold HD;rw [lma];rfl
    have e2:HM (h0::H'++[F])=HM (h0::H')++F.M:=by unfold HM;rw [List.flatMap_append];simp
    show (uM l a dx b m pre pl ps _ _++[(b,AO.ba (dt))]++(qb2 x++J)).Perm (((b,AO.ba (dt))::uM l a dx b m pre pl ps (HD (h0::H'++[F])) (HM (h0::H'++[F])))++([]++(qb2 x++J)))
    rw [e1,e2]
    generalize qb2 x=Q
    generalize HM (h0::H')=Y
    generalize F.M=W
    walk_at "perm"
   ·refine ⟨fun h hh=>?_,?_,?_,hb',fun F h=>nomatch h⟩
    ·rcases maj hh with hh | hh
     ·exact gf h hh
     ·rw [msj hh];exact ⟨⟨kd,v,oF⟩,by show F.S.length<1000;lia⟩
    ·show (h0::H'++[_]).length≤64
     rw [lea,List.length_cons,List.length_singleton];lia
    ·show ((h0::H'++[(F:HF)]).map HF.data).flatten.length+dt.length≤1000000
     simp only [lma,lmc,List.map_nil,List.flatten_append,List.flatten_cons,List.flatten_nil,lea,List.append_nil]
     lia
theorem takerB {C:Cx} (hm:m.natAbs<2 ^ 64):Taker C (n+5) a (IB a b dx m pre pl) (TB m) (fun x cls c2 M'=>takeKE m x.data x.H cls c2∧Z308 M') (fun x=>x.data.length) where
 take:=fun x M1 ⟨l,ps,J,htr,hperm,g⟩=>by
  have hz:=g.z
  have hF:=(fn_take (P:=C.w.params) (l:=l) (a:=a) (dx:=dx) (b:=b) (m:=m) (pl:=pl) (pre:=pre) (ps:=ps) (data:=x.data) (H:=x.H) (n:=n) htr (fun h hh=>by obtain ⟨⟨kd,v,q⟩,_⟩:=g.f h hh;exact q.ok) g.n (by lia) g.b (by lia) hm).frame hperm
  refine hF.mono (fun d M h=>?_) fun c c2 M ⟨M1',e,h⟩=>⟨h.1,by rw [e];exact h.2.app⟩
  obtain ⟨M1',rfl,hK⟩:=h
  rcases hK with ⟨hR,rfl,J2,rfl⟩ | ⟨len,kd,sid,pad,da,mo,S,f,fdx,fsf,dU,MU,hR,hU,rfl,rfl⟩
  ·refine ⟨false,.none,{ x with last:=none },rfl,.inl rfl,.no rfl rfl hR rfl,l,ps,J2++(qb2 x++J),htr,?_,{ g with l:=fun F h=>nomatch h }⟩
   show ((J2++bM b l a dx m pre pl ps x.data x.H)++(qb2 x++J)).Perm (bM b l a dx m pre pl ps x.data x.H++([]++(J2++(qb2 x++J))))
   generalize bM b l a dx m pre pl ps x.data x.H=B
   generalize qb2 x=Q
   walk_at "perm"
  ·obtain ⟨hlen,hpr,hS⟩:=qdg hR
   obtain ⟨v,rfl⟩:=pRes_more hpr
   have hda:=(qg3 hpr).1
   have hda2:da.length≤len:=Nat.le_trans hda (by rw [List.length_take];exact Nat.min_le_left _ _)
   obtain ⟨x',h1,h2,h3,h4⟩:=take_out (F:=⟨f,fdx,fsf,kCc kd,sid,pad,da,qck kd v,S⟩) (J:=J) htr g hU ⟨rfl,rfl,by show S.length<2000;lia⟩ hS hda2 (dt:=x.data.drop (9+len)) (by rw [List.length_drop];exact Nat.le_of_eq (Nat.sub_add_cancel (by rw [Nat.add_comm];exact hlen))) fun k hk=>g.b k (List.mem_of_mem_drop hk)
   exact ⟨true,dU,x',rfl,h1,.yes len kd sid pad da _ S f fdx fsf v rfl hR rfl h2 h3,h4⟩
 inst:=fun x M1 ⟨l,ps,J,htr,hperm,g⟩=>⟨dx,_,hperm.mem_iff.mpr (.tail _ (.tail _ (.head _))),hperm.mem_iff.mpr (.tail _ (.tail _ (.tail _ (.head _)))),by kernel_rfl⟩
 dec:=fun x fr x' h=>by
  rcases h with ⟨h,_⟩ | ⟨len,kd,sid,pad,da,mo,S,f,fdx,fsf,v,_,hR,_,hd,_⟩
  ·cases h
  ·show x'.data.length<x.data.length
   rw [hd,List.length_drop];exact sub_lt9 (Nat.lt_of_lt_of_le (Nat.lt_of_lt_of_le (by decide:0<9) (Nat.le_add_left 9 len)) (qdg hR).1)
 stop:=fun x cls c2 M' h=>by
  rcases h.1 with ⟨c,hR,rfl⟩ | ⟨len,kd,sid,pad,da,mo,S,f,fdx,fsf,hR,rfl,_⟩
  ·rcases qgv hR with rfl | rfl | rfl <;> kernel_rfl
  ·kernel_rfl
end
set_option maxHeartbeats 2000000 in
theorem row_body {C:Cx}{kd v:Int}{F:HF}{n:Nat} (O:Ok C (n+2)) (hC:F.Cc=kCc kd) (hmo:F.more=qck kd v) (hS:F.S.length<3000) (hl:F.data.length≤16777216) :
 SL C ⟨qa7 (fdAt C.w.params 391).scope.names ["frame"] [.val (.ref F.f)],F.M⟩ (qad (fdAt C.w.params 391)) (fun fl σ'=>fl=.ret (rowD kd v F)∧σ'.ms=F.M) (fun V V=>False):=by
 rw [sl_row]
 obtain ⟨ff,fdx,fsf,fCc,fsid,fpad,fdata,fmore,fS⟩:=F
 obtain ⟨F1,F2,F3,F4,F5,F6,F7,F8⟩:=clsF (P:=C.w.params) kd
 obtain ⟨G1,G2,G3,G4⟩:=clsR (P:=C.w.params) kd
 have hC:fCc=kCc kd:=hC
 have hmo:fmore=qck kd v:=hmo
 have hS:fS.length<3000:=hS
 have hl:fdata.length≤16777216:=hl
 rw [← hC] at F1 F2 F3 F4 F5 F6 F7 F8 G1 G2 G3 G4
 have kis:=kCc_is kd
 rw [← hC] at kis
 obtain ⟨k0,k1,k3,k5,k8,k9⟩:=kis
 conv=>enter [3];whnf
 show SL C ⟨rSl ff none none none,[(fsf,.set fS),(ff,.inst fCc fdx),(fdx,.dict (hFs fsid fsf fpad fdata fmore))]⟩ _ _ _
 walk_at "m.assign"
 case k =>
 walk_at "m.assign"
 case k =>
 refine' qgn (J:=fun σ'=>σ'=⟨rSl ff (some (.int (qcc kd v))) (some (.int (qee kd v ⟨ff,fdx,fsf,fCc,fsid,fpad,fdata,fmore,fS⟩))) none,[(fsf,.set fS),(ff,.inst fCc fdx),(fdx,.dict (hFs fsid fsf fpad fdata fmore))]⟩) ?cut_1 ?rst_1
 case rst_1 =>
  rintro σ' rfl
  generalize hvk:qcc kd v=vk
  generalize hvm:qee kd v ⟨ff,fdx,fsf,fCc,fsid,fpad,fdata,fmore,fS⟩=vm
  walk_at "m.assign"
  case k =>
  walk_at "m.ret"
  case k=>exact ⟨by unfold rowD;rw [hvk,hvm],rfl⟩
 case cut_1 =>
  walk_at "m.if"
  case yes =>
   intro h
   have h:fCc=114:=by simpa using h
   have hk:=k0 h
   clear F1 F2 F3 F4 F5 F6 F7 F8 G1 G2 G3 G4 k0 k1 k3 k5 k8 k9
   subst h hk
   have hx:X C ⟨rSl ff (some (.int 0)) (some (.int 0)) none,[(fsf,.set fS),(ff,.inst 114 fdx),(fdx,.dict (hFs fsid fsf fpad fdata fmore))]++[]⟩ _ (.int (fclI ⟨ff,fdx,fsf,114,fsid,fpad,fdata,fmore,fS⟩)) :=
    X_prop (n:=n) (p:=111) (f:=110) (M2:=[]) (attr:="flow_controlled_length") (pos:=?pos_1) (value:=.Name "frame" ?np_1) O (X_name O .here) (.tail _ (.head _)) (.tail _ (.tail _ (.head _))) rec_fcl (by kernel_rfl) (fun C' e O'=>by rw [← e];exact fcl_body O' hS hl (by rw [show fmore=[] from hmo];decide)) rfl
   refine' S_assign' O hx ?b_2 ?k rfl
   case b_2=>walk_at "m.put"
   case k=>exact qam rfl
  case no =>
  intro n0
  walk_at "m.if"
  case yes =>
   intro h
   have h:fCc=138:=by simpa using h
   have hk:=k1 h
   clear F1 F2 F3 F4 F5 F6 F7 F8 G1 G2 G3 G4 k0 k1 k3 k5 k8 k9 n0
   subst h hk
   walk_at "m.assign"
   case k=>exact qam rfl
  case no =>
  intro n1
  walk_at "m.if"
  case yes =>
   intro h
   have h:fCc=212:=by simpa using h
   have hk:=k9 h
   clear F1 F2 F3 F4 F5 F6 F7 F8 G1 G2 G3 G4 k0 k1 k3 k5 k8 k9 n0 n1
   subst h hk
   walk_at "m.assign"
   case k=>exact qam rfl
  case no =>
  intro n9
  walk_at "m.if"
  case yes =>
   intro h
   have h:fCc=179:=by simpa using h
   have hk:=k5 h
   clear F1 F2 F3 F4 F5 F6 F7 F8 G1 G2 G3 G4 k0 k1 k3 k5 k8 k9 n0 n1 n9
   subst h hk
   have hmo:fmore=[(("promised_stream_id":Str),D.int v)]:=hmo
   subst hmo
   walk_at "m.assign"
   case k =>
   walk_at "m.assign"
   case k=>exact qam rfl
  case no =>
  intro n5
  walk_at "m.if"
  case yes =>
   intro h
   have h:fCc=157:=by simpa using h
   have hk:=k3 h
   clear F1 F2 F3 F4 F5 F6 F7 F8 G1 G2 G3 G4 k0 k1 k3 k5 k8 k9 n0 n1 n9 n5
   subst h hk
   have hmo:fmore=[(("error_code":Str),D.int v)]:=hmo
   subst hmo
   walk_at "m.assign"
   case k =>
   walk_at "m.assign"
   case k=>exact qam rfl
  case no =>
  intro n3
  walk_at "m.if"
  case yes =>
   intro h
   have h:fCc=198:=by simpa using h
   have hk:=k8 h
   clear F1 F2 F3 F4 F5 F6 F7 F8 G1 G2 G3 G4 k0 k1 k3 k5 k8 k9 n0 n1 n9 n5 n3
   subst h hk
   have hmo:fmore=[(("window_increment":Str),D.int v)]:=hmo
   subst hmo
   walk_at "m.assign"
   case k =>
   walk_at "m.assign"
   case k=>exact qam rfl
  case no =>
  intro n8
  have m0:kd≠0:=fun q=>by rw [hC,q] at n0;exact absurd n0 (by decide)
  have m1:kd≠1:=fun q=>by rw [hC,q] at n1;exact absurd n1 (by decide)
  have m3:kd≠3:=fun q=>by rw [hC,q] at n3;exact absurd n3 (by decide)
  have m5:kd≠5:=fun q=>by rw [hC,q] at n5;exact absurd n5 (by decide)
  have m8:kd≠8:=fun q=>by rw [hC,q] at n8;exact absurd n8 (by decide)
  have m9:kd≠9:=fun q=>by rw [hC,q] at n9;exact absurd n9 (by decide)
  have e1:kCc kd=82:=qab m0 m1 m3 m5 m8 m9
  have e2:qck kd v=[(("kind":Str),D.int v)]:=qab m0 m1 m3 m5 m8 m9
  have e3:qcc kd v=v:=qab m0 m1 m3 m5 m8 m9
  have e4:qee kd v ⟨ff,fdx,fsf,fCc,fsid,fpad,fdata,fmore,fS⟩=0:=qab m0 m1 m3 m5 m8 m9
  rw [e3,e4]
  have hmo2:fmore=[(("kind":Str),D.int v)]:=Eq.trans hmo e2
  rw [e1] at hC
  clear F1 F2 F3 F4 F5 F6 F7 F8 G1 G2 G3 G4 k0 k1 k3 k5 k8 k9 n0 n1 n3 n5 n8 n9 hmo e4
  subst hC hmo2
  walk_at "m.assign"
  case k=>exact qam rfl
theorem X_row {C:Cx}{n:Nat}{ρ:List Slot}{ms M2:List (Addr×AO)}{x:Str}{p pos:Pos}{e:Expr}{F:HF}{kd v:Int} (O:Ok C (n+3)) (hx:X C ⟨ρ,ms⟩ (.Name x p) (.val (.ref 391))) (ha:Xs C ⟨ρ,ms⟩ [e] [.val (.ref F.f)]) (hp:ms.Perm (F.M++M2)) (oF:FOk F kd v) (hl:F.data.length≤1000000) :
 X C ⟨ρ,ms⟩ (.Call (.Name x p) [e] [] pos) (rowD kd v F):=.mk fun imm s R Q E q=>by
 with_reducible refine Call_Name rfl (hx.goV imm s R _ _ fun i1 s1 hs1 R1=>?_)
 refine callWith_of (P:=fun h=>(K39 C.w.params).In h) (by rw [ha.plain pos];rfl) (keeps_K (by kernel_rfl)) ?_
 cases ha with
 | cons h1 h2 h3 =>
  have hh:=Xs.cons h1 h2 h3
  rw [h3]
  refine evalArgs_plain ?_
  have:=hh.run pos i1 s1 R1 (fun vs s2=>(K39 C.w.params).In s2.heap∧wpAny C.M C.A (call (.ref 391) ([]++vs) []) Q E s2) E fun vs i2 s2 hs2 R2 hvs =>
   ⟨O.kin.keeps R2.base_keep,wpAny_call (qgh (n:=n+2) (K:=fun d M'=>d=rowD kd v F∧M'=F.M) O rec_row (R2.perm hp) hvs rfl (fun L hid O'=>by
    have:=row_body O' oF.c oF.m (by have:=oF.s;lia) (by lia)
    exact .mk fun imm s R=>wpAny_mono (this.go imm s R) (fun V V h=>h.of fun V V h=>by obtain ⟨e1,e2⟩:=h;subst e1;exact ⟨rfl,e2⟩) fun V V x=>x) fun w d M1' i3 s3 hs3 R3 hw hK=>by
    obtain ⟨rfl,rfl⟩:=hK
    exact q w i3 s3 (qa0 hs1 (qa0 hs2 hs3)) (R3.perm hp.symm) hw)⟩
  rw [h3] at this
  exact this
structure FI where
 kd:Int
 v:Int
 sid:Int
 pad:Int
 da:List Int
 S:List Str
noncomputable def vOf (mo:List (Str×D)):Int:=match mo with | (_,.int v)::_=>v | _=>0
theorem vOf_more (kd v:Int):qck kd (vOf (qck kd v))=qck kd v:=by
 unfold qck
 by_cases h0:kd=0
 ·subst h0;rfl
 by_cases h1:kd=1
 ·subst h1;rfl
 by_cases h3:kd=3
 ·subst h3;rfl
 by_cases h5:kd=5
 ·subst h5;rfl
 by_cases h8:kd=8
 ·subst h8;rfl
 by_cases h9:kd=9
 ·subst h9;rfl
 rw [qab h0 h1 h3 h5 h8 h9,qab h0 h1 h3 h5 h8 h9];rfl
noncomputable def rowI (i:FI):Row:=⟨qcc i.kd i.v,i.sid,i.S.contains "END_STREAM",i.S.contains "END_HEADERS",i.S.contains "PADDED",i.S.contains "PRIORITY",i.da,qav i.kd (if i.S.contains "PADDED"=true then (i.da.length:Int)+i.pad+1 else (i.da.length:Int)) 0 i.v i.v i.v 0 0⟩
structure Abs (F:HF) (i:FI):Prop where
 c:F.Cc=kCc i.kd
 m:F.more=qck i.kd i.v
 s:F.sid=i.sid
 p:F.pad=i.pad
 d:F.data=i.da
 S:F.S=i.S
theorem Abs.row {F:HF}{i:FI} (h:Abs F i):rowD i.kd i.v F=(rowI i).d:=by
 unfold rowD rowI Row.d qee fclI
 rw [h.s,h.S,h.d,h.p]
inductive AbsL:List HF→List FI→Prop
 | nil:AbsL [] []
 | cons {F i H B}:Abs F i→AbsL H B→AbsL (F::H) (i::B)
theorem AbsL.length {H B} (h:AbsL H B):H.length=B.length:=by
 induction h with
 | nil=>rfl
 | cons _ _ ih=>rw [List.length_cons,List.length_cons,ih]
theorem AbsL.snoc {H B F i} (h:AbsL H B) (k:Abs F i):AbsL (H++[F]) (B++[i]):=by
 induction h with
 | nil=>exact .cons k .nil
 | cons a _ ih=>exact .cons a ih
theorem AbsL.data {H B} (h:AbsL H B):H.map HF.data=B.map FI.da:=by
 induction h with
 | nil=>rfl
 | cons a _ ih=>rw [lmc,lmc,ih,a.d]
noncomputable def joinI (b0:FI) (B:List FI) (i:FI):FI:={ b0 with da:=((b0::B++[i]).map FI.da).flatten,S:="END_HEADERS"::b0.S }
inductive SA where
 | stop
 | err (c:Addr)
 | next (data:List Int) (B:List FI) (r:Option FI)
noncomputable def qb5 (m:Int) (data:List Int) (B:List FI):SA:=match qbd m data with
 | .no=>.stop
 | .err c=>.err c
 | .yes len kd sid pad da mo S=>match B with
  | []=>if ((kCc kd == 138 || kCc kd == 179) && !eH S)=true then .next (data.drop (9+len)) [⟨kd,vOf mo,sid,pad,da,S⟩] none else .next (data.drop (9+len)) [] (some ⟨kd,vOf mo,sid,pad,da,S⟩)
  | b0::B'=>if (kCc kd == 212)=true∧sid=b0.sid∧B'.length<63 then (if eH S=true then .next (data.drop (9+len)) [] (some (joinI b0 B' ⟨kd,vOf mo,sid,pad,da,S⟩)) else .next (data.drop (9+len)) (b0::B'++[⟨kd,vOf mo,sid,pad,da,S⟩]) none) else .err 251
structure FR where
 seen:List Row
 res:Option Addr
 data:List Int
 B:List FI
noncomputable def feed (m:Int):Nat→List Int→List FI→List Row→FR
 | 0,data,B,seen=>⟨seen,none,data,B⟩
 | n+1,data,B,seen=>match qb5 m data B with
  | .stop=>⟨seen,none,data,B⟩
  | .err c=>⟨seen,some c,data,B⟩
  | .next data' B' none=>feed m n data' B' seen
  | .next data' B' (some i)=>feed m n data' B' (seen++[rowI i])
theorem feed_succ {m:Int}{n:Nat}{data:List Int}{B:List FI}{seen:List Row}:feed m (n+1) data B seen=match qb5 m data B with
 | .stop=>⟨seen,none,data,B⟩
 | .err c=>⟨seen,some c,data,B⟩
 | .next data' B' none=>feed m n data' B' seen
 | .next data' B' (some i)=>feed m n data' B' (seen++[rowI i]):=rfl
theorem TB_no {m:Int}{x x':St2}{fr:D}{B:List FI} (h:TB m x false fr x'):qb5 m x.data B=.stop∧x'={ x with last:=none }:=by
 rcases h with ⟨_,_,h,rfl⟩ | ⟨_,_,_,_,_,_,_,_,_,_,_,h,_⟩
 ·unfold qb5;rw [h];exact ⟨rfl,rfl⟩
 ·cases h
theorem TB_yes {m:Int}{x x':St2}{fr:D}{B:List FI} (hB:AbsL x.H B) (h:TB m x true fr x'):∃ B' r,qb5 m x.data B=.next x'.data B' r∧AbsL x'.H B'∧match r with
 | none=>fr=.none
 | some i=>∃ F,fr=.val (.ref F.f)∧x'.last=some F∧Abs F i:=by
 rcases h with ⟨h,_⟩ | ⟨len,kd,sid,pad,da,mo,S,f,fdx,fsf,v,_,hR,rfl,hd,h⟩
 ·cases h
 unfold TBo at h
 have aF:Abs ⟨f,fdx,fsf,kCc kd,sid,pad,da,qck kd v,S⟩ ⟨kd,vOf (qck kd v),sid,pad,da,S⟩:=⟨rfl,(vOf_more kd v).symm,rfl,rfl,rfl,rfl⟩
 unfold qb5
 rw [hR]
 dsimp only
 rw [hd]
 generalize x.H=H at hB h
 cases hB with
 | nil =>
  dsimp only at h ⊢
  by_cases hc:((kCc kd == 138 || kCc kd == 179) && !eH S)=true
  ·rw [if_pos hc] at h ⊢
   obtain ⟨h1,h2,h3⟩:=h
   exact ⟨_,none,rfl,by rw [h2];exact .cons aF .nil,h1⟩
  ·rw [if_neg hc] at h ⊢
   obtain ⟨h1,h2,h3⟩:=h
   exact ⟨_,some _,rfl,by rw [h2];exact .nil,_,h1,h3,aF⟩
 | @cons h0 b0 H' B' a0 hB' =>
  dsimp only at h ⊢
  obtain ⟨h1,h2,h3,h⟩:=h
  rw [if_pos ⟨h1,h2.trans a0.s,by rw [← hB'.length];exact h3⟩]
  by_cases hc:eH S=true
  ·rw [if_pos hc] at h ⊢
   obtain ⟨h4,h5,h6⟩:=h
   refine ⟨_,some _,rfl,by rw [h5];exact .nil,joined h0 H' ⟨f,fdx,fsf,kCc kd,sid,pad,da,qck kd v,S⟩,h4,h6,a0.c,a0.m,a0.s,a0.p,?_,?_⟩
   ·show ((h0::H'++[_]).map HF.data).flatten=((b0::B'++[_]).map FI.da).flatten
    rw [((AbsL.cons a0 hB').snoc aF).data]
   ·show _::h0.S=_::b0.S
    rw [a0.S]
  ·rw [if_neg hc] at h ⊢
   obtain ⟨h4,h5,h6⟩:=h
   exact ⟨_,none,rfl,by rw [h5];exact (AbsL.cons a0 hB').snoc aF,h4⟩
theorem KE_step {m:Int}{data:List Int}{H:List HF}{B:List FI}{cls c2:Value} (hB:AbsL H B) (h:takeKE m data H cls c2):∃ c,qb5 m data B=.err c∧cls=.ref c∧(c=251∨c=263∨c=275):=by
 rcases h with ⟨c,hR,rfl⟩ | ⟨len,kd,sid,pad,da,mo,S,f,fdx,fsf,hR,rfl,hU⟩
 ·exact ⟨c,by unfold qb5;rw [hR],rfl,qgv hR⟩
 ·refine ⟨251,?_,rfl,.inl rfl⟩
  unfold qb5
  rw [hR]
  dsimp only
  cases hB with
  | nil=>exact hU.elim
  | @cons h0 b0 H' B' a0 hB' =>
   dsimp only
   rw [if_neg]
   rintro ⟨h1,h2,h3⟩
   exact hU ⟨h1,h2.trans a0.s.symm,by rw [hB'.length];exact h3⟩
noncomputable def ansOf (r:Option Addr):Str:=match r with | none=>"" | some 263=>"large" | some 275=>"missing" | some _=>"protocol"
inductive ItShape (b:List Stmt):Prop
 | mk (t1 t2 t3 t4 t5 t6 t7 t1' t2' t3' t4' t5' t6' t7' q1 q2 q3 q4 q5 q6 q7 q8 q9:Pos) (j kt kt':Nat):(t5.endLine == t6.line)=true→(t5'.endLine == t6'.line)=true →
  b=[qaq t1' t2' t3' t4' t5' t6' t7' kt',.While (.Name "whole" q1) (qd1 (qaq t1 t2 t3 t4 t5 t6 t7 kt) q2 q3 q4 q5 q6 q7 q8 j) [] q9]→ItShape b
theorem it_shape (P:Params):ItShape (qad (fdAt P 320)):=by
 have h:∀ b,b=qad (fdAt P 320)→ItShape b:=by
  intro b e
  conv at e=>rhs;whnf
  subst e
  refine ⟨_,_,_,_,_,_,_,_,_,_,_,_,_,_,_,_,_,_,_,_,_,_,_,_,_,_,?_,?_,rfl⟩ <;> rfl
 exact h _ rfl
structure qdr (r:Raw):Prop where
 k:0≤r.kind∧r.kind<256
 b:0≤r.bits∧r.bits<256
 s:0≤r.stream∧r.stream<2147483648
 o:∀ k∈r.body,0≤k∧k<256
 l:r.body.length≤1000
noncomputable abbrev Raw.laid (r:Raw):List Int:=sLaid r.kind r.bits r.stream r.body
theorem sBig3 (n:Int):sBig n 3=[n / 65536 % 256,n / 256 % 256,n / 1 % 256]:=rfl
theorem sBig4 (n:Int):sBig n 4=[n / 16777216 % 256,n / 65536 % 256,n / 256 % 256,n / 1 % 256]:=rfl
noncomputable def qdi (n kind bits s:Int):List Int:=[n / 65536 % 256,n / 256 % 256,n / 1 % 256,kind,bits,s / 16777216 % 256,s / 65536 % 256,s / 256 % 256,s / 1 % 256]
theorem laid_eq (r:Raw):r.laid=qdi r.body.length r.kind r.bits (r.stream+(if ((r.body.length:Int) % 2 == 1)=true then 2147483648 else 0))++r.body:=by
 unfold Raw.laid sLaid;rw [sBig3,sBig4];rfl
theorem headLen {n kind bits s:Int} (h:0≤n∧n<16777216):qa9 (cut (qdi n kind bits s) none (some 3))=n:=by
 show ((0 * 256+n / 65536 % 256) * 256+n / 256 % 256) * 256+n / 1 % 256=n
 rw [Int.ediv_one,d2,dm (dn (dn h.1)) (dl (dl h.2)),Int.zero_mul,Int.zero_add,dg,dg]
theorem headSid {n kind bits s:Int} (h:0≤s∧s<4294967296):hSid (qdi n kind bits s)=s % 2147483648:=by
 show ((((0 * 256+s / 16777216 % 256) * 256+s / 65536 % 256) * 256+s / 256 % 256) * 256+s / 1 % 256) % 2147483648=s % 2147483648
 rw [Int.ediv_one,d3,d2,dm (dn (dn (dn h.1))) (dl (dl (dl h.2))),Int.zero_mul,Int.zero_add,dg,dg,dg]
theorem qc6 {m n kind bits s:Int}{data:List Int} (h9:9≤data.length) (hh:data.take 9=qdi n kind bits s) (hn:0≤n∧n<16777216) (hs:0≤s∧s<4294967296) :
 qbd m data=if qbc kind (s % 2147483648)=true then .err 251 else if data.length<n.toNat+9 then .no else if m<n then .err 263 else
  match pRes kind (qaj (kIts kind) bits) ((data.drop 9).take n.toNat) with
  | .error e=>.err (if e="missing" then 275 else 251)
  | .ok (pad,da,mo)=>.yes n.toNat kind (s % 2147483648) pad da mo (qaj (kIts kind) bits):=by
 unfold qbd qbv tkS qdf
 rw [hh,headSid hs,headLen hn,if_neg (by lia),show qau (qdi n kind bits s)=kind from rfl,show (qdi n kind bits s).getD 4 0=bits from rfl,Int.toNat_of_nonneg hn.1]
 rfl
theorem qcb {m:Int}{data:List Int} (h:data.length<9):qbd m data=.no:=by unfold qbd;rw [if_pos h]
theorem bit_facts {bits:Int} (h:0≤bits∧bits<256):(Builtin.bitAnd bits 1 != 0)=(bits % 2 == 1)∧(Builtin.bitAnd bits 4 != 0)=(bits / 4 % 2 == 1)∧(Builtin.bitAnd bits 8 != 0)=(bits / 8 % 2 == 1)∧(Builtin.bitAnd bits 32 != 0)=(bits / 32 % 2 == 1):=by
 have:∀ n:Nat,n<256→((Builtin.bitAnd (n:Int) 1 != 0)=((n:Int) % 2 == 1)∧(Builtin.bitAnd (n:Int) 4 != 0)=((n:Int) / 4 % 2 == 1)∧(Builtin.bitAnd (n:Int) 8 != 0)=((n:Int) / 8 % 2 == 1)∧(Builtin.bitAnd (n:Int) 32 != 0)=((n:Int) / 32 % 2 == 1)):=by decide +kernel
 have e:=this bits.toNat (by lia)
 rw [Int.toNat_of_nonneg h.1] at e
 exact e
noncomputable def flB (its:List (Addr×Int×Str)) (f:Int→Bool):List Str:=its.foldl (fun S it=>if f it.2.1=true then it.2.2::S else S) []
noncomputable def pickB (b1 b4 b8 b32:Bool) (n:Int):Bool:=if n=1 then b1 else if n=4 then b4 else if n=8 then b8 else b32
abbrev FK (its:List (Addr×Int×Str)) (k:Int) (b1 b4 b8 b32:Bool):Prop:=(flB its (pickB b1 b4 b8 b32)).contains "PADDED"=([0,1,5].any (· == k) && b8)∧(flB its (pickB b1 b4 b8 b32)).contains "PRIORITY"=((k == 1) && b32)∧(flB its (pickB b1 b4 b8 b32)).contains "END_STREAM"=([0,1].any (· == k) && b1)∧(flB its (pickB b1 b4 b8 b32)).contains "END_HEADERS"=([1,5,9].any (· == k) && b4)
theorem flKey:∀ b1 b4 b8 b32:Bool,FK itsD 0 b1 b4 b8 b32∧FK itsH 1 b1 b4 b8 b32∧FK itsP 5 b1 b4 b8 b32∧FK itsC 9 b1 b4 b8 b32:=by decide
theorem flags_facts {kind bits:Int} (h:0≤bits∧bits<256):(qaj (kIts kind) bits).contains "PADDED"=qa3 kind bits∧(qaj (kIts kind) bits).contains "PRIORITY"=qa6 kind bits∧(qaj (kIts kind) bits).contains "END_STREAM"=([0,1].any (· == kind) && (bits % 2 == 1))∧(qaj (kIts kind) bits).contains "END_HEADERS"=([1,5,9].any (· == kind) && (bits / 4 % 2 == 1)):=by
 obtain ⟨e1,e4,e8,e32⟩:=bit_facts h
 unfold qa3 qa6
 rw [← e1,← e4,← e8,← e32]
 have key:=flKey (Builtin.bitAnd bits 1 != 0) (Builtin.bitAnd bits 4 != 0) (Builtin.bitAnd bits 8 != 0) (Builtin.bitAnd bits 32 != 0)
 by_cases h0:kind=0
 ·subst h0;exact key.1
 by_cases h1:kind=1
 ·subst h1;exact key.2.1
 by_cases h5:kind=5
 ·subst h5;exact key.2.2.1
 by_cases h9:kind=9
 ·subst h9;exact key.2.2.2
 have hk:kIts kind=[]:=by
  unfold kIts
  by_cases h3:kind=3
  ·subst h3;rfl
  by_cases h8:kind=8
  ·subst h8;rfl
  exact qab h0 h1 h3 h5 h8 h9
 rw [hk]
 have n0:(0 == kind)=false:=beq_false_of_ne (Ne.symm h0)
 have n1:(1 == kind)=false:=beq_false_of_ne (Ne.symm h1)
 have n5:(5 == kind)=false:=beq_false_of_ne (Ne.symm h5)
 have n9:(9 == kind)=false:=beq_false_of_ne (Ne.symm h9)
 have m1:(kind == 1)=false:=beq_false_of_ne h1
 show false=((0 == kind || (1 == kind || (5 == kind || false))) && _)∧false=(kind == 1 && _)∧false=((0 == kind || (1 == kind || false)) && _)∧false=((1 == kind || (5 == kind || (9 == kind || false))) && _)
 rw [n0,n1,n5,n9,m1]
 exact ⟨rfl,rfl,rfl,rfl⟩
theorem unpad_full {body ks:List Int} (ho:∀ k∈body,0≤k∧k<256) (h:qah true body=.ok ks):(ks.length:Int)+body.getD 0 0+1=body.length:=by
 unfold qah at h
 rw [if_pos rfl] at h
 split at h
 ·cases h
 rename_i hne
 split at h
 ·cases h
 rename_i hle
 cases h
 cases body with
 | nil=>exact absurd rfl hne
 | cons x t =>
  have hx:=ho x (.head _)
  have hle:¬ ((t.length+1:Nat):Int)≤x:=by simpa using hle
  show ((cut (x::t) (some 1) (some (((t.length+1:Nat):Int) - x))).length:Int)+x+1=((t.length+1:Nat):Int)
  have e1:clipAt (x::t).length 1=1:=(qbx (x::t).length 1).trans (by rw [List.length_cons];exact Nat.min_eq_left (Nat.succ_le_succ (Nat.zero_le _)))
  have e2:clipAt (x::t).length (((t.length+1:Nat):Int) - x)=t.length+1 - x.toNat:=by
   rw [uf2 hx.1 hle,qbx,List.length_cons];exact Nat.min_eq_left (Nat.sub_le _ _)
  unfold cut
  simp only [Option.elim]
  rw [e1,e2,List.length_take,List.length_drop,List.length_cons]
  exact uf4 hx.1 hle
theorem unhead1 {w:Bool}{ks kt:List Int}{v:Int} (h:qac w 1 0 ks=.ok (kt,v)):v=0:=by
 cases w
 ·cases h;rfl
 ·rw [qfx] at h
  split at h
  ·cases h
  ·cases h;rfl
theorem word_lt {body:List Int} (ho:∀ k∈body,0≤k∧k<256) (h:body.length=4):0≤qa9 body∧qa9 body<4294967296:=by
 obtain ⟨a,t1,rfl,h1⟩:=qe1 h
 obtain ⟨b,t2,rfl,h2⟩:=qe1 h1
 obtain ⟨c,t3,rfl,h3⟩:=qe1 h2
 obtain ⟨d,t4,rfl,h4⟩:=qe1 h3
 obtain rfl:=List.length_eq_zero_iff.mp h4
 have ha:=ho a (.head _)
 have hb:=ho b (.tail _ (.head _))
 have hc:=ho c (.tail _ (.tail _ (.head _)))
 have hd:=ho d (.tail _ (.tail _ (.tail _ (.head _))))
 show 0≤(((0 * 256+a) * 256+b) * 256+c) * 256+d∧(((0 * 256+a) * 256+b) * 256+c) * 256+d<4294967296
 exact byte4 (byte4 (byte4 (byte4 (m:=1) ⟨by decide,by decide⟩ ha) hb) hc) hd
noncomputable def due2 (kind bits stream:Int) (body:List Int):Due :=
 match qah (qa3 kind bits) body with
 | .error f=>.fault f
 | .ok data=>match qac (qa6 kind bits) kind (if (kind == 0)=true then (body.length:Int) else 0) data with
  | .error f=>.fault f
  | .ok (data,more)=>match qbu kind body data more with
   | .error f=>.fault f
   | .ok (data,more)=>.row ⟨kind,stream,[0,1].any (· == kind) && (bits % 2 == 1),[1,5,9].any (· == kind) && (bits / 4 % 2 == 1),qa3 kind bits,qa6 kind bits,data,more⟩
theorem sDue_eq {kind bits stream bound:Int}{body:List Int}:sDue kind bits stream body bound=if qbc kind stream=true then .fault "protocol" else if bound<(body.length:Int) then .fault "large" else due2 kind bits stream body:=by
 unfold sDue due2
 simp only [decide_eq_true_eq]
 all_goals rfl
theorem qe7 {p:Bool}{body:List Int}{e:Str} (h:qah p body=.error e):e="missing"∨e="protocol":=by
 unfold qah at h
 split at h
 ·split at h
  ·cases h;exact .inl rfl
  ·split at h
   ·cases h;exact .inr rfl
   ·cases h
 ·cases h
theorem qff {w:Bool}{kind more:Int}{data:List Int}{e:Str} (h:qac w kind more data=.error e):e="missing"∨e="protocol":=by
 unfold qac at h
 generalize (if w=true then (5:Int) else 4)=z at h
 split at h
 ·split at h
  ·cases h;exact .inl rfl
  ·split at h
   ·split at h
    ·cases h;exact .inr rfl
    ·cases h
   ·cases h
 ·cases h
noncomputable def ResOk (kind bits stream:Int) (body:List Int) (S:List Str):Except Str (Int×List Int×List (Str×D))→Prop
 | .error e=>due2 kind bits stream body=.fault e∧(e="missing"∨e="protocol")
 | .ok (pad,da,mo)=>due2 kind bits stream body=.row (rowI ⟨kind,vOf mo,stream,pad,da,S⟩)
theorem due_res {kind bits stream:Int}{body:List Int} (hb:0≤bits∧bits<256) (ho:∀ k∈body,0≤k∧k<256):ResOk kind bits stream body (qaj (kIts kind) bits) (pRes kind (qaj (kIts kind) bits) body):=by
 obtain ⟨fP,fW,fS,fH⟩:=flags_facts (kind:=kind) hb
 generalize qaj (kIts kind) bits=S at fP fW fS fH
 have row:∀ (v pad:Int) (da:List Int),rowI ⟨kind,v,stream,pad,da,S⟩=⟨qcc kind v,stream,[0,1].any (· == kind) && (bits % 2 == 1),[1,5,9].any (· == kind) && (bits / 4 % 2 == 1),qa3 kind bits,qa6 kind bits,da,qav kind (if qa3 kind bits=true then (da.length:Int)+pad+1 else (da.length:Int)) 0 v v v 0 0⟩:=fun v pad da=>by
  unfold rowI
  simp only [fP,fW,fS,fH]
 unfold pRes
 rw [fP,fW]
 clear fP fW fS fH
 by_cases h0:kind=0
 ·subst h0
  show ResOk 0 bits stream body S (match qah (qa3 0 bits) body with | .error e=>(.error e:Except Str (Int×List Int×List (Str×D))) | .ok ks=>.ok (qb6 (qa3 0 bits) body,ks,[]))
  cases hu:qah (qa3 0 bits) body with
  | error e=>exact ⟨by unfold due2;rw [hu],qe7 hu⟩
  | ok ks =>
   show due2 0 bits stream body=.row (rowI ⟨0,0,stream,qb6 (qa3 0 bits) body,ks,S⟩)
   rw [row]
   unfold due2
   rw [hu]
   show Due.row ⟨0,stream,_,_,qa3 0 bits,qa6 0 bits,ks,(body.length:Int)⟩=Due.row ⟨0,stream,_,_,qa3 0 bits,qa6 0 bits,ks,if qa3 0 bits=true then (ks.length:Int)+qb6 (qa3 0 bits) body+1 else (ks.length:Int)⟩
   cases hp:qa3 0 bits with
   | true =>
    rw [hp] at hu
    rw [if_pos rfl,show qb6 true body=body.getD 0 0 from rfl,unpad_full ho hu]
   | false =>
    rw [hp] at hu
    cases hu
    rw [if_neg (by decide)]
 by_cases h1:kind=1
 ·subst h1
  show ResOk 1 bits stream body S (match qah (qa3 1 bits) body with | .error e=>(.error e:Except Str (Int×List Int×List (Str×D))) | .ok ks=>match qac (qa6 1 bits) 1 0 ks with | .error e=>.error e | .ok (kt,_)=>.ok (qb6 (qa3 1 bits) body,kt,[]))
  cases hu:qah (qa3 1 bits) body with
  | error e=>exact ⟨by unfold due2;rw [hu],qe7 hu⟩
  | ok ks =>
   show ResOk 1 bits stream body S (match qac (qa6 1 bits) 1 0 ks with | .error e=>.error e | .ok (kt,_)=>.ok (qb6 (qa3 1 bits) body,kt,[]))
   have e0:due2 1 bits stream body=match qac (qa6 1 bits) 1 0 ks with
    | .error f=>.fault f
    | .ok (data,more)=>.row ⟨1,stream,[0,1].any (· == 1) && (bits % 2 == 1),[1,5,9].any (· == 1) && (bits / 4 % 2 == 1),qa3 1 bits,qa6 1 bits,data,more⟩:=by
    unfold due2
    rw [hu]
    rfl
   cases hv:qac (qa6 1 bits) 1 0 ks with
   | error e=>exact ⟨by rw [e0,hv],qff hv⟩
   | ok p =>
    obtain ⟨kt,v⟩:=p
    have:=unhead1 hv
    subst this
    show due2 1 bits stream body=.row (rowI ⟨1,0,stream,qb6 (qa3 1 bits) body,kt,S⟩)
    rw [row,e0,hv]
    rfl
 by_cases h3:kind=3
 ·subst h3
  show ResOk 3 bits stream body S (if body.length=4 then (.ok (0,[],[("error_code",.int (qa9 body))]):Except Str (Int×List Int×List (Str×D))) else .error "missing")
  have e:due2 3 bits stream body=match (if ((body.length:Int) != 4)=true then (.error "missing":Except Str (List Int×Int)) else .ok ([],qa9 body % 4294967296)) with
   | .error f=>.fault f
   | .ok (data,more)=>.row ⟨3,stream,[0,1].any (· == 3) && (bits % 2 == 1),[1,5,9].any (· == 3) && (bits / 4 % 2 == 1),qa3 3 bits,qa6 3 bits,data,more⟩:=rfl
  by_cases hl:body.length=4
  ·rw [if_pos hl]
   show due2 3 bits stream body=.row (rowI ⟨3,qa9 body,stream,0,[],S⟩)
   rw [row,e,if_neg (by rw [hl];decide),Int.emod_eq_of_lt (word_lt ho hl).1 (word_lt ho hl).2]
   rfl
  ·rw [if_neg hl]
   exact ⟨by rw [e,if_pos (by simp;lia)],.inl rfl⟩
 by_cases h5:kind=5
 ·subst h5
  show ResOk 5 bits stream body S (match qah (qa3 5 bits) body with | .error e=>(.error e:Except Str (Int×List Int×List (Str×D))) | .ok ks=>match qac false 5 0 ks with | .error e=>.error e | .ok (kt,mo)=>.ok (qb6 (qa3 5 bits) body,kt,[("promised_stream_id",.int mo)]))
  cases hu:qah (qa3 5 bits) body with
  | error e=>exact ⟨by unfold due2;rw [hu],qe7 hu⟩
  | ok ks =>
   show ResOk 5 bits stream body S (match qac false 5 0 ks with | .error e=>.error e | .ok (kt,mo)=>.ok (qb6 (qa3 5 bits) body,kt,[("promised_stream_id",.int mo)]))
   have e0:due2 5 bits stream body=match qac false 5 0 ks with
    | .error f=>.fault f
    | .ok (data,more)=>.row ⟨5,stream,[0,1].any (· == 5) && (bits % 2 == 1),[1,5,9].any (· == 5) && (bits / 4 % 2 == 1),qa3 5 bits,qa6 5 bits,data,more⟩:=by
    unfold due2
    rw [hu]
    rfl
   cases hv:qac false 5 0 ks with
   | error e=>exact ⟨by rw [e0,hv],qff hv⟩
   | ok p =>
    obtain ⟨kt,v⟩:=p
    show due2 5 bits stream body=.row (rowI ⟨5,v,stream,qb6 (qa3 5 bits) body,kt,S⟩)
    rw [row,e0,hv]
    rfl
 by_cases h8:kind=8
 ·subst h8
  show ResOk 8 bits stream body S (if body.length=4 then (if qa9 body % 2147483648=0 then .error "protocol" else .ok (0,[],[("window_increment",.int (qa9 body % 2147483648))]):Except Str (Int×List Int×List (Str×D))) else .error "missing")
  have e:due2 8 bits stream body=match (if ((body.length:Int) != 4)=true then (.error "missing":Except Str (List Int×Int)) else if (qa9 body % 2147483648 == 0)=true then .error "protocol" else .ok ([],qa9 body % 2147483648)) with
   | .error f=>.fault f
   | .ok (data,more)=>.row ⟨8,stream,[0,1].any (· == 8) && (bits % 2 == 1),[1,5,9].any (· == 8) && (bits / 4 % 2 == 1),qa3 8 bits,qa6 8 bits,data,more⟩:=rfl
  by_cases hl:body.length=4
  ·rw [if_pos hl]
   by_cases hz:qa9 body % 2147483648=0
   ·rw [if_pos hz]
    exact ⟨by rw [e,if_neg (by rw [hl];decide),if_pos (by rw [hz];decide)],.inr rfl⟩
   ·rw [if_neg hz]
    show due2 8 bits stream body=.row (rowI ⟨8,qa9 body % 2147483648,stream,0,[],S⟩)
    rw [row,e,if_neg (by rw [hl];decide),if_neg (by simpa using hz)]
    rfl
  ·rw [if_neg hl]
   exact ⟨by rw [e,if_pos (by simp;lia)],.inl rfl⟩
 by_cases h9:kind=9
 ·subst h9
  show due2 9 bits stream body=.row (rowI ⟨9,0,stream,0,body,S⟩)
  rw [row]
  rfl
 have n0:(kind == 0)=false:=beq_false_of_ne h0
 have n1:(kind == 1)=false:=beq_false_of_ne h1
 have n3:(kind == 3)=false:=beq_false_of_ne h3
 have n5:(kind == 5)=false:=beq_false_of_ne h5
 have n8:(kind == 8)=false:=beq_false_of_ne h8
 have p0:(0 == kind)=false:=beq_false_of_ne (Ne.symm h0)
 have p1:(1 == kind)=false:=beq_false_of_ne (Ne.symm h1)
 have p5:(5 == kind)=false:=beq_false_of_ne (Ne.symm h5)
 have hP:qa3 kind bits=false:=by
  show ((0 == kind || (1 == kind || (5 == kind || false))) && _)=false
  rw [p0,p1,p5];rfl
 have hW:qa6 kind bits=false:=by unfold qa6;rw [n1];rfl
 rw [qab h0 h1 h3 h5 h8 h9]
 show due2 kind bits stream body=.row (rowI ⟨kind,kind,stream,0,body,S⟩)
 rw [row,show qcc kind kind=kind from qab h0 h1 h3 h5 h8 h9,qab h0 h1 h3 h5 h8 h9]
 unfold due2
 rw [hP,hW,n0]
 have e1:qah false body=.ok body:=rfl
 have e2:qac false kind 0 body=.ok (body,0):=by
  unfold qac;rw [n5];rfl
 have e3:qbu kind body body 0=.ok (body,0):=by unfold qbu;rw [n3,n8];rfl
 rw [e1]
 dsimp only
 rw [if_neg (by decide),e2]
 dsimp only
 rw [e3]
theorem kCc_block (kd:Int):(kCc kd == 138 || kCc kd == 179)=[1,5].any (· == kd)∧(kCc kd == 212)=(kd == 9):=by
 by_cases h0:kd=0
 ·subst h0;decide
 by_cases h1:kd=1
 ·subst h1;decide
 by_cases h3:kd=3
 ·subst h3;decide
 by_cases h5:kd=5
 ·subst h5;decide
 by_cases h8:kd=8
 ·subst h8;decide
 by_cases h9:kd=9
 ·subst h9;decide
 have e:kCc kd=82:=qab h0 h1 h3 h5 h8 h9
 have p1:(1 == kd)=false:=by simpa using fun e=>h1 e.symm
 have p5:(5 == kd)=false:=by simpa using fun e=>h5 e.symm
 have p9:(kd == 9)=false:=by simpa using h9
 rw [e,p9]
 simp only [List.any_cons,List.any_nil,p1,p5]
 decide
theorem qcd (r:Raw):r.laid.length=9+r.body.length:=by
 rw [laid_eq,lea];rfl
theorem go_mono {m:Int}:∀ (rest:List Raw) (told:List (Int×Row)) (block:List Row) (place:Int),place≤(qaf m rest told block place).ended∧∃ extra,(qaf m rest told block place).told=told++extra∧∀ p∈extra,place≤p.1
 | [],told,block,place=>⟨Int.le_refl _,[],by rw [List.append_nil];rfl,fun p h=>nomatch h⟩
 | r::rest,told,block,place=>by
  have hp:place≤place+(9+(r.body.length:Int)):=by lia
  cases hd:sDue r.kind r.bits r.stream r.body m with
  | fault f=>rw [qce hd];exact ⟨hp,[],by rw [List.append_nil],fun p h=>nomatch h⟩
  | row row =>
   rw [qer hd]
   split
   ·exact ⟨hp,[],by rw [List.append_nil],fun p h=>nomatch h⟩
   have up:∀ (t:List (Int×Row)) (b:List Row),(∀ e:List (Int×Row),t=told++e→(∀ p∈e,place≤p.1)→place≤(qaf m rest t b (place+(9+(r.body.length:Int)))).ended∧∃ extra,(qaf m rest t b (place+(9+(r.body.length:Int)))).told=told++extra∧∀ p∈extra,place≤p.1):=fun t b e ht he=>by
    obtain ⟨a,ex,b1,c⟩:=go_mono (m:=m) rest t b (place+(9+(r.body.length:Int)))
    refine ⟨by lia,e++ex,by rw [b1,ht,laa],fun p h=>?_⟩
    rcases maj h with h | h
    ·exact he p h
    ·have:=c p h;lia
   split
   ·split
    ·exact up _ _ [] (List.append_nil _).symm fun p h=>nomatch h
    ·exact up _ _ _ rfl fun p h=>by rw [msj h];exact hp
   ·exact up _ _ _ rfl fun p h=>by rw [msj h];exact hp
theorem go_next {m:Int} (r:Raw) (rest:List Raw) (told:List (Int×Row)) (block:List Row) (place:Int):place+(9+(r.body.length:Int))≤(qaf m (r::rest) told block place).ended∧∃ extra,(qaf m (r::rest) told block place).told=told++extra∧∀ p∈extra,place+(9+(r.body.length:Int))≤p.1:=by
 cases hd:sDue r.kind r.bits r.stream r.body m with
 | fault f=>rw [qce hd];exact ⟨Int.le_refl _,[],by rw [List.append_nil],fun p h=>nomatch h⟩
 | row row =>
  rw [qer hd]
  split
  ·exact ⟨Int.le_refl _,[],by rw [List.append_nil],fun p h=>nomatch h⟩
  have up:∀ (t:List (Int×Row)) (b:List Row) (e:List (Int×Row)),t=told++e→(∀ p∈e,place+(9+(r.body.length:Int))≤p.1)→place+(9+(r.body.length:Int))≤(qaf m rest t b (place+(9+(r.body.length:Int)))).ended∧∃ extra,(qaf m rest t b (place+(9+(r.body.length:Int)))).told=told++extra∧∀ p∈extra,place+(9+(r.body.length:Int))≤p.1:=fun t b e ht he=>by
   obtain ⟨a,ex,b1,c⟩:=go_mono (m:=m) rest t b (place+(9+(r.body.length:Int)))
   refine ⟨a,e++ex,by rw [b1,ht,laa],fun p h=>?_⟩
   rcases maj h with h | h
   ·exact he p h
   ·exact c p h
  split
  ·split
   ·exact up _ _ [] (List.append_nil _).symm fun p h=>nomatch h
   ·exact up _ _ _ rfl fun p h=>by rw [msj h];exact Int.le_refl _
  ·exact up _ _ _ rfl fun p h=>by rw [msj h];exact Int.le_refl _
structure BOk (B:List FI):Prop where
 n:B.length≤64
 h:∀ b0 B',B=b0::B'→b0.kd=1∨b0.kd=5
def qfr (m:Int) (tail:List Int):Prop:=∀ d,d <+: tail→qbd m d=.no
def Sit (m:Int) (T:Told) (tail oct:List Int) (came:Nat) (data:List Int) (B:List FI) (seen:List Row):Prop :=
 ∃ (rest:List Raw) (told:List (Int×Row)) (pn:Nat),T=qaf m rest told (B.map rowI) pn∧oct.drop pn=(rest.map Raw.laid).flatten++tail∧data <+: (rest.map Raw.laid).flatten++tail∧pn+data.length=came∧told.map Prod.snd=seen∧(∀ p∈told,p.1≤(came:Int))∧(∀ r∈rest,qdr r)∧BOk B
def Quiet (T:Told) (came:Nat) (seen:List Row):Prop:=(T.fault≠""→(came:Int)<T.ended)∧(T.told.filter fun p=>decide (p.1≤(came:Int))).map Prod.snd=seen
def Loud (T:Told) (came:Nat) (seen:List Row) (c:Addr):Prop:=T.fault=ansOf (some c)∧T.begun<(came:Int)∧T.told.map Prod.snd=seen∧∀ p∈T.told,p.1≤(came:Int)
theorem qe0 {T:Told}{came:Nat}{told extra:List (Int×Row)} (h:T.told=told++extra) (h1:∀ p∈told,p.1≤(came:Int)) (h2:∀ p∈extra,(came:Int)<p.1) (h3:T.fault≠""→(came:Int)<T.ended):Quiet T came (told.map Prod.snd):=by
 refine ⟨h3,?_⟩
 rw [h,List.filter_append,List.filter_eq_self.mpr fun p hp=>by simpa using h1 p hp,List.filter_eq_nil_iff.mpr fun p hp=>by have:=h2 p hp;simp;lia,List.append_nil]
theorem join_row {b0:FI}{B:List FI}{i:FI} (h:b0.kd=1∨b0.kd=5):rowI (joinI b0 B i)=qd9 ((b0::B).map rowI++[rowI i]):=by
 have hd:(((b0::B).map rowI++[rowI i]).map Row.data).flatten=((b0::B++[i]).map FI.da).flatten:=by
  rw [lma,lma,List.map_map];rfl
 unfold qd9
 rw [hd]
 obtain ⟨kd,v,sid,pad,da,S⟩:=b0
 have c:∀ x:Str,("END_HEADERS" == x)=false→(("END_HEADERS":Str)::S).contains x=S.contains x:=fun x hx=>by
  rw [List.contains_cons]
  rw [show (x == "END_HEADERS")=false from by rw [Bool.beq_comm];exact hx]
  rfl
 show (⟨qcc kd v,sid,(("END_HEADERS":Str)::S).contains "END_STREAM",(("END_HEADERS":Str)::S).contains "END_HEADERS",(("END_HEADERS":Str)::S).contains "PADDED",(("END_HEADERS":Str)::S).contains "PRIORITY",_,qav kd _ 0 v v v 0 0⟩:Row) =
  ⟨qcc kd v,sid,S.contains "END_STREAM",true,S.contains "PADDED",S.contains "PRIORITY",_,qav kd _ 0 v v v 0 0⟩
 rw [c "END_STREAM" (by decide),c "PADDED" (by decide),c "PRIORITY" (by decide),show (("END_HEADERS":Str)::S).contains "END_HEADERS"=true from by rw [List.contains_cons];rfl]
 rcases h with h | h
 ·have h:kd=1:=h
  subst h;rfl
 ·have h:kd=5:=h
  subst h;rfl
theorem ans_err (e:Str) (h:e="missing"∨e="protocol"):ansOf (some (if e="missing" then 275 else 251))=e:=by
 rcases h with rfl | rfl
 ·rw [if_pos rfl];rfl
 ·rw [if_neg (by decide)];rfl
theorem head_data {r:Raw}{data t X:List Int} (h:data++t=r.laid++X) (h9:9≤data.length):∃ re:Int,(re=0∨re=2147483648)∧data.take 9=qdi r.body.length r.kind r.bits (r.stream+re):=by
 refine ⟨if ((r.body.length:Int) % 2 == 1)=true then 2147483648 else 0,by split <;> simp,?_⟩
 have:=congrArg (List.take 9) h
 rw [List.take_append_of_le_length h9,laid_eq,laa] at this
 rw [this];rfl
theorem body_data {r:Raw}{data t X:List Int} (h:data++t=r.laid++X) (hl:9+r.body.length≤data.length):data.drop (9+r.body.length)++t=X∧(data.drop 9).take r.body.length=r.body:=by
 constructor
 ·have e:=congrArg (List.drop r.laid.length) h
  rw [List.drop_append_of_le_length (by rw [qcd];exact hl),List.drop_left,qcd] at e
  exact e
 ·have this:((data++t).drop 9).take r.body.length=((r.laid++X).drop 9).take r.body.length:=by rw [h]
  rw [List.drop_append_of_le_length (by lia),List.take_append_of_le_length (by rw [List.length_drop];exact Nat.le_sub_of_add_le' hl),laid_eq,laa] at this
  rw [this]
  show (r.body++_).take r.body.length=r.body
  exact List.take_left
theorem cond_iff {r:Raw}{b0 i:FI}{B':List FI} (hn:B'.length+1≤64):(!(List.map rowI (b0::B')).isEmpty && ((r.kind != 9) || ((r.stream != ((List.map rowI (b0::B')).headD (rowI i)).stream) || (((List.map rowI (b0::B')).length:Int) == 64))))=true↔¬ ((r.kind == 9)=true∧r.stream=b0.sid∧B'.length<63):=by
 show (!false && ((r.kind != 9) || ((r.stream != b0.sid) || (((List.map rowI (b0::B')).length:Int) == 64))))=true↔_
 rw [lem,List.length_cons]
 by_cases q1:r.kind=9
 ·by_cases q2:r.stream=b0.sid
  ·by_cases q3:B'.length<63
   ·have:(((B'.length+1:Nat):Int) == 64)=false:=by simp;lia
    simp [q1,q2,q3]
    lia
   ·have:(((B'.length+1:Nat):Int) == 64)=true:=by simp;lia
    simp [q1,q2,q3]
    lia
  ·simp [q1,q2]
 ·simp [q1]
noncomputable def StepR (m:Int) (T:Told) (tail oct:List Int) (came:Nat) (data:List Int) (seen:List Row):SA→Prop
 | .stop=>Quiet T came seen
 | .err c=>Loud T came seen c
 | .next data' B' r=>data'.length<data.length∧Sit m T tail oct came data' B' (match r with | none=>seen | some i=>seen++[rowI i])
section
variable {m n kind bits s:Int}{data:List Int} (h9:9≤data.length) (hh:data.take 9=qdi n kind bits s) (hn:0≤n∧n<16777216) (hs:0≤s∧s<4294967296)
include h9 hh hn hs
theorem takeR_a (hb:qbc kind (s % 2147483648)=true):qbd m data=.err 251:=(qc6 h9 hh hn hs).trans (if_pos hb)
theorem takeR_b (hb:¬ qbc kind (s % 2147483648)=true) (hl:data.length<n.toNat+9):qbd m data=.no:=(qc6 h9 hh hn hs).trans ((if_neg hb).trans (if_pos hl))
theorem takeR_c (hb:¬ qbc kind (s % 2147483648)=true) (hl:¬ data.length<n.toNat+9) (hm:m<n):qbd m data=.err 263:=(qc6 h9 hh hn hs).trans ((if_neg hb).trans ((if_neg hl).trans (if_pos hm)))
theorem takeR_d (hb:¬ qbc kind (s % 2147483648)=true) (hl:¬ data.length<n.toNat+9) (hm:¬ m<n):qbd m data=match pRes kind (qaj (kIts kind) bits) ((data.drop 9).take n.toNat) with
 | .error e=>.err (if e="missing" then 275 else 251)
 | .ok (pad,da,mo)=>.yes n.toNat kind (s % 2147483648) pad da mo (qaj (kIts kind) bits):=(qc6 h9 hh hn hs).trans ((if_neg hb).trans ((if_neg hl).trans (if_neg hm)))
end
theorem qg1 {m:Int}{data:List Int}{B:List FI} (h:qbd m data=.no):qb5 m data B=.stop:=by unfold qb5;rw [h]
theorem qe9 {m:Int}{data:List Int}{B:List FI}{c:Addr} (h:qbd m data=.err c):qb5 m data B=.err c:=by unfold qb5;rw [h]
theorem qg5 {T:Told}{told:List (Int×Row)}{came:Nat}{pn e:Int}{f:Str}{b:Bool}{c:Addr} (h:T=⟨told,f,pn,e,b⟩) (hf:f=ansOf (some c)) (hp:pn<(came:Int)) (hle:∀ p∈told,p.1≤(came:Int)):Loud T came (told.map Prod.snd) c:=by
 subst h;exact ⟨hf,hp,rfl,hle⟩
theorem step_ok {m:Int}{T:Told}{tail oct data:List Int}{came pn:Nat}{B:List FI}{r:Raw}{rest:List Raw}{told:List (Int×Row)}{pad:Int}{da:List Int}{mo:List (Str×D)}{S:List Str}{i:FI} (hi:i=⟨r.kind,vOf mo,r.stream,pad,da,S⟩)
 (hT:T=qaf m (r::rest) told (B.map rowI) pn) (hdue:sDue r.kind r.bits r.stream r.body m=.row (rowI i)) (htk:qbd m data=.yes r.body.length r.kind r.stream pad da mo S) (hB:BOk B) (hpn:pn+(9+r.body.length)≤came) (hle:∀ p∈told,p.1≤(came:Int))
 (sit:∀ (B':List FI) (told':List (Int×Row)) (seen':List Row),T=qaf m rest told' (B'.map rowI) (pn+(9+(r.body.length:Int)))→told'.map Prod.snd=seen'→(∀ p∈told',p.1≤(came:Int))→BOk B'→(data.drop (9+r.body.length)).length<data.length∧Sit m T tail oct came (data.drop (9+r.body.length)) B' seen') :
 StepR m T tail oct came data (told.map Prod.snd) (qb5 m data B):=by
 have ik:i.kd=r.kind:=by rw [hi]
 have ieh:(rowI i).eh=eH S:=by rw [hi];rfl
 obtain ⟨kb,kc⟩:=kCc_block r.kind
 rw [qer hdue] at hT
 have hle2:∀ q:Row,∀ p∈told++[(pn+(9+(r.body.length:Int)),q)],p.1≤(came:Int):=fun q p hp=>by
  rcases maj hp with hp | hp
  ·exact hle p hp
  ·rw [msj hp]
   show pn+(9+(r.body.length:Int))≤_
   lia
 unfold qb5
 rw [htk]
 dsimp only
 rw [← hi,kb,kc,← ieh]
 cases B with
 | nil =>
  rw [List.map_nil,List.isEmpty_nil,if_neg (show ¬ (!true && ((r.kind != 9) || ((r.stream != (([]:List Row).headD (rowI i)).stream) || ((([]:List Row).length:Int) == 64))))=true from bft)] at hT
  dsimp only
  by_cases hblk:([1,5].any (· == r.kind) && !(rowI i).eh)=true
  ·rw [if_pos hblk]
   rw [Bool.not_true,Bool.false_or,if_pos hblk,if_pos (by revert hblk;cases [1,5].any (· == r.kind) <;> cases (rowI i).eh <;> decide)] at hT
   refine sit [i] told _ hT rfl hle ⟨by simp,fun b0 B' e=>?_⟩
   cases e
   rw [ik]
   have:[1,5].any (· == r.kind)=true:=by revert hblk;cases [1,5].any (· == r.kind) <;> simp
   simp only [List.any_cons,List.any_nil,Bool.or_false,Bool.or_eq_true,beq_iff_eq] at this
   rcases this with h | h
   ·exact .inl h.symm
   ·exact .inr h.symm
  ·rw [if_neg hblk]
   rw [Bool.not_true,Bool.false_or,if_neg hblk] at hT
   exact sit [] _ _ hT (by rw [lma];rfl) (hle2 _) ⟨by simp,fun b0 B' e=>nomatch e⟩
 | cons b0 B' =>
  have hn:=hB.n
  rw [List.length_cons] at hn
  have hb0:=hB.h b0 B' rfl
  dsimp only
  have hcond:(!(List.map rowI (b0::B')).isEmpty && ((r.kind != 9) || ((r.stream != ((List.map rowI (b0::B')).headD (rowI i)).stream) || (((List.map rowI (b0::B')).length:Int) == 64))))=true↔¬ ((r.kind == 9)=true∧r.stream=b0.sid∧B'.length<63):=cond_iff hn
  by_cases hin:(r.kind == 9)=true∧r.stream=b0.sid∧B'.length<63
  ·rw [if_neg (fun h=>hcond.mp h hin)] at hT
   rw [if_pos hin]
   rw [if_pos (show (!(List.map rowI (b0::B')).isEmpty || ([1,5].any (· == r.kind) && !(rowI i).eh))=true from rfl)] at hT
   by_cases he:(rowI i).eh=true
   ·rw [if_pos he]
    rw [if_neg (by rw [he];decide),← join_row hb0] at hT
    exact sit [] _ _ hT (by rw [lma];rfl) (hle2 _) ⟨by simp,fun b0 B' e=>nomatch e⟩
   ·rw [if_neg he]
    rw [if_pos (by revert he;cases (rowI i).eh <;> decide)] at hT
    refine sit (b0::B'++[i]) told _ (by rw [hT,lma];rfl) rfl hle ⟨?_,fun b1 B1 e=>?_⟩
    ·rw [lea,List.length_cons,List.length_singleton];lia
    ·cases e;exact hb0
  ·rw [if_neg hin]
   rw [if_pos (hcond.mpr hin)] at hT
   exact qg5 hT rfl (by lia) hle
theorem step_sit {m:Int}{T:Told}{tail oct data:List Int}{came:Nat}{B:List FI}{seen:List Row} (ht:qfr m tail) (S:Sit m T tail oct came data B seen):StepR m T tail oct came data seen (qb5 m data B):=by
 obtain ⟨rest,told,pn,hT,ho,hp,hc,rfl,hle,hr,hB⟩:=S
 cases rest with
 | nil =>
  rw [qg1 (ht data (by simpa using hp))]
  subst hT
  exact qe0 (extra:=[]) (List.append_nil _).symm hle (fun p h=>nomatch h) fun h=>absurd rfl h
 | cons r rest =>
  have ok:=hr r (.head _)
  have hr':∀ r∈rest,qdr r:=fun q h=>hr q (.tail _ h)
  have stop:data.length<9+r.body.length→Quiet T came (told.map Prod.snd):=fun h=>by
   obtain ⟨hm1,extra,hm2,hm3⟩:=go_next (m:=m) r rest told (B.map rowI) pn
   rw [← hT] at hm1 hm2
   exact qe0 hm2 hle (fun p hpe=>by have:=hm3 p hpe;lia) fun V=>by lia
  rw [lmc,List.flatten_cons,laa] at hp ho
  obtain ⟨t,htt⟩:=hp
  by_cases h9:data.length<9
  ·rw [qg1 (qcb h9)]
   exact stop (by lia)
  have h9':9≤data.length:=by lia
  obtain ⟨re,hre2,hhead⟩:=head_data htt h9'
  have hnb:0≤(r.body.length:Int)∧(r.body.length:Int)<16777216:=by have:=ok.l;lia
  have hsb:0≤r.stream+re∧r.stream+re<4294967296:=by have:=ok.s;rcases hre2 with e | e <;> rw [e] <;> exact ⟨Int.add_nonneg this.1 (by decide),Int.lt_of_lt_of_le (Int.add_lt_add_right this.2 _) (by decide)⟩
  have hsid:(r.stream+re) % 2147483648=r.stream:=by
   have:=ok.s
   rcases hre2 with e | e
   ·rw [e,Int.add_zero];exact Int.emod_eq_of_lt this.1 this.2
   ·rw [e,Int.add_emod_right];exact Int.emod_eq_of_lt this.1 this.2
  have hdue:=sDue_eq (kind:=r.kind) (bits:=r.bits) (stream:=r.stream) (bound:=m) (body:=r.body)
  have hpn:(pn:Int)<came:=by lia
  by_cases hbad:qbc r.kind r.stream=true
  ·rw [qe9 (takeR_a h9' hhead hnb hsb (hsid.symm ▸ hbad))]
   exact qg5 (hT.trans (qce (hdue.trans (if_pos hbad)))) rfl hpn hle
  have hbad':¬ qbc r.kind ((r.stream+re) % 2147483648)=true:=hsid.symm ▸ hbad
  by_cases hsh:data.length<r.body.length+9
  ·rw [qg1 (takeR_b h9' hhead hnb hsb hbad' hsh)]
   exact stop (by lia)
  by_cases hbig:m<(r.body.length:Int)
  ·rw [qe9 (takeR_c h9' hhead hnb hsb hbad' hsh hbig)]
   exact qg5 (hT.trans (qce (hdue.trans ((if_neg hbad).trans (if_pos hbig))))) rfl hpn hle
  have htk:=takeR_d h9' hhead hnb hsb hbad' hsh hbig
  have hdue:=hdue.trans ((if_neg hbad).trans (if_neg hbig))
  obtain ⟨hX,hbody⟩:=body_data htt (by lia)
  rw [Int.toNat_natCast,hbody,hsid] at htk
  have hres:=due_res (kind:=r.kind) (bits:=r.bits) (stream:=r.stream) (body:=r.body) ok.b ok.o
  cases hpr:pRes r.kind (qaj (kIts r.kind) r.bits) r.body with
  | error e =>
   rw [hpr] at hres htk
   have hres:due2 r.kind r.bits r.stream r.body=.fault e∧(e="missing"∨e="protocol"):=hres
   rw [qe9 htk]
   exact qg5 (hT.trans (qce (hdue.trans hres.1))) (ans_err e hres.2).symm hpn hle
  | ok q =>
   obtain ⟨pad,da,mo⟩:=q
   rw [hpr] at hres htk
   refine step_ok rfl hT (hdue.trans hres) htk hB (by lia) hle fun B' told' seen' h1 h2 h3 h4=>⟨by rw [List.length_drop];exact sub_lt9 (Nat.lt_of_lt_of_le (by decide) h9'),rest,told',pn+(9+r.body.length),?_,?_,⟨t,hX⟩,?_,h2,h3,hr',h4⟩
   ·rw [h1];congr 1
   ·rw [← List.drop_drop,ho,← qcd r,List.drop_left]
   ·rw [List.length_drop,Nat.add_assoc,Nat.add_sub_cancel' (by rw [Nat.add_comm];exact Nat.not_lt.mp hsh)];assumption
theorem qgc {m:Int}{T:Told}{tail oct:List Int}{came:Nat} (ht:qfr m tail):∀ (n:Nat) (data:List Int) (B:List FI) (seen:List Row),data.length<n→Sit m T tail oct came data B seen →
 (match (feed m n data B seen).res with
 | none=>Sit m T tail oct came (feed m n data B seen).data (feed m n data B seen).B (feed m n data B seen).seen∧Quiet T came (feed m n data B seen).seen
 | some c=>Loud T came (feed m n data B seen).seen c)
 | 0,_,_,_,h,_=>absurd h (Nat.not_lt_zero _)
 | n+1,data,B,seen,h,S=>by
  have st:=step_sit ht S
  rw [feed_succ]
  cases hs:qb5 m data B with
  | stop=>rw [hs] at st;exact ⟨S,st⟩
  | err c=>rw [hs] at st;exact st
  | next data' B' r =>
   rw [hs] at st
   cases r with
   | none=>exact qgc ht n data' B' _ (by have:=st.1;lia) st.2
   | some i=>exact qgc ht n data' B' _ (by have:=st.1;lia) st.2
theorem MPut.app {dx:Addr}{a a':AO}{ms ms' M:List (Addr×AO)} (h:MPut dx a a' ms ms'):MPut dx a a' (M++ms) (M++ms'):=by
 induction M with
 | nil=>exact h
 | cons p M ih=>exact .there ih
structure FedR where
 ans:Str
 seen:List Row
 data:List Int
 B:List FI
noncomputable def qev (f:FR):FedR:=⟨ansOf f.res,f.seen,f.data,f.B⟩
noncomputable def fedS (m:Int) (pre data:List Int) (B:List FI) (part:List Int) (seen:List Row):FedR :=
 if pre.take (min pre.length part.length)=part.take (min pre.length part.length) then qev (feed m ((data++part.drop (min pre.length part.length)).length+1) (data++part.drop (min pre.length part.length)) B seen)
 else ⟨"protocol",seen,data,B⟩
noncomputable abbrev fSl (a:Addr) (part:List Int) (sn:Addr) (fr:Option D):List Slot:=[⟨"buffer",.local,some (.val (.ref a))⟩,⟨"part",.local,some (.bytes part)⟩,⟨"seen",.local,some (.val (.ref sn))⟩,⟨"frame",.local,fr⟩,⟨"_law_row",.globalImplicit,none⟩,⟨"FrameTooLargeError",.globalImplicit,none⟩,⟨"FrameDataMissingError",.globalImplicit,none⟩,⟨"ProtocolError",.globalImplicit,none⟩]
noncomputable def addR (seen:List Row):Option FI→List Row
 | none=>seen
 | some i=>seen++[rowI i]
theorem feed_next {m:Int}{n:Nat}{data data':List Int}{B B':List FI}{r:Option FI}{seen:List Row} (h:qb5 m data B=.next data' B' r):feed m (n+1) data B seen=feed m n data' B' (addR seen r):=by
 show (match qb5 m data B with | .stop=>(⟨seen,none,data,B⟩:FR) | .err c=>⟨seen,some c,data,B⟩ | .next data' B' none=>feed m n data' B' seen | .next data' B' (some i)=>feed m n data' B' (seen++[rowI i]))=_
 rw [h];cases r <;> rfl
theorem feed_stop {m:Int}{n:Nat}{data:List Int}{B:List FI}{seen:List Row} (h:qb5 m data B=.stop):feed m (n+1) data B seen=⟨seen,none,data,B⟩:=by
 show (match qb5 m data B with | .stop=>(⟨seen,none,data,B⟩:FR) | .err c=>⟨seen,some c,data,B⟩ | .next data' B' none=>feed m n data' B' seen | .next data' B' (some i)=>feed m n data' B' (seen++[rowI i]))=_
 rw [h]
theorem feed_err {m:Int}{n:Nat}{data:List Int}{B:List FI}{seen:List Row}{c:Addr} (h:qb5 m data B=.err c):feed m (n+1) data B seen=⟨seen,some c,data,B⟩:=by
 show (match qb5 m data B with | .stop=>(⟨seen,none,data,B⟩:FR) | .err c=>⟨seen,some c,data,B⟩ | .next data' B' none=>feed m n data' B' seen | .next data' B' (some i)=>feed m n data' B' (seen++[rowI i]))=_
 rw [h]
inductive fedJ (m:Int) (R0:FR) (a sn:Addr) (part:List Int) (x:St2) (ρ:List Slot) (M2:List (Addr×AO)):Prop
 | mk (k:Nat) (seen:List Row) (B:List FI) (fr:Option D):M2=[(sn,.lst (seen.map Row.d))]→AbsL x.H B→x.data.length<k→feed m k x.data B seen=R0→ρ=fSl a part sn fr→seen.length+x.data.length≤900000→fedJ m R0 a sn part x ρ M2
theorem TB_len {m:Int}{x x':St2}{fr:D} (h:TB m x true fr x'):x'.data.length<x.data.length:=by
 rcases h with ⟨h,_⟩ | ⟨len,kd,sid,pad,da,mo,S,f,fdx,fsf,v,_,hR,_,hd,_⟩
 ·cases h
 ·rw [hd,List.length_drop];exact sub_lt9 (Nat.lt_of_lt_of_le (Nat.lt_of_lt_of_le (by decide:0<9) (Nat.le_add_left 9 len)) (qdg hR).1)
theorem fedJ_skip {m:Int}{R0:FR}{a sn:Addr}{part:List Int}{x x':St2}{ρ:List Slot}{M2:List (Addr×AO)} (h:fedJ m R0 a sn part x ρ M2) (t:TB m x true .none x'):fedJ m R0 a sn part x' ρ M2:=by
 obtain ⟨k,seen,B,fr,h1,h2,h3,h4,h5,h6⟩:=h
 obtain ⟨B',r,e,hB',hr⟩:=TB_yes h2 t
 have hl:=TB_len t
 cases r with
 | some i=>obtain ⟨F,h,_⟩:=hr;cases h
 | none =>
  cases k with
  | zero=>lia
  | succ k=>exact ⟨k,seen,B',fr,h1,hB',by lia,by rw [← h4,feed_next e];rfl,h5,by lia⟩
theorem IB.z {a b dx:Addr}{m pl:Int}{pre:List Int}{x:St2}{M1:List (Addr×AO)} (h:IB a b dx m pre pl x M1):Z308 M1:=by
 obtain ⟨l,ps,J,_,hp,_⟩:=h
 exact ⟨ps,hp.mem_iff.mpr (mal _ (.tail _ (.tail _ (.tail _ (.tail _ (.head _))))))⟩
theorem KE1_hnd {C:Cx}{σ:AS}{n:Nat}{c:Addr}{c2:Value}{p1 p2 p3:Pos}{k1 k2 k3:Nat}{q1 q2 q3 r1 r2 r3 s1 s2 s3:Pos}{KF:Fl→AS→Prop}{KE:Value→Value→AS→Prop} (O:Ok C n) (G:OkR C)
 (h1:Has "FrameTooLargeError" .globalImplicit none σ.ρ) (h2:Has "FrameDataMissingError" .globalImplicit none σ.ρ) (h3:Has "ProtocolError" .globalImplicit none σ.ρ) (hc:c=251∨c=263∨c=275) (kk:KF (.ret (.str (ansOf (some c)))) σ) :
 qds C σ (.ref c) c2 [.ExceptHandler (some (.Name "FrameTooLargeError" p1)) none [.Return (some (.Constant (.str "large") k1 q1)) r1] s1,.ExceptHandler (some (.Name "FrameDataMissingError" p2)) none [.Return (some (.Constant (.str "missing") k2 q2)) r2] s2,.ExceptHandler (some (.Name "ProtocolError" p3)) none [.Return (some (.Constant (.str "protocol") k3 q3)) r3] s3] KF KE:=by
 rcases hc with rfl | rfl | rfl
 ·exact qc0 (qch O h1 g_FrameTooLargeError (by kernel_rfl)) (qc0 (qch O h2 g_FrameDataMissingError (by kernel_rfl)) (qdc G (qch O h3 g_ProtocolError (by kernel_rfl)) kk))
 ·exact qdc G (qch O h1 g_FrameTooLargeError (by kernel_rfl)) kk
 ·exact qc0 (qch O h1 g_FrameTooLargeError (by kernel_rfl)) (qdc G (qch O h2 g_FrameDataMissingError (by kernel_rfl)) kk)
inductive FedOut (R:FedR) (a b dx sn:Addr) (m:Int) (pre:List Int) (d:D) (M':List (Addr×AO)):Prop
 | mk (MB':List (Addr×AO)):d=.str R.ans→M'=MB'++[(sn,.lst (R.seen.map Row.d))]→Z308 MB'→(R.ans=""→∃ x':St2,x'.data=R.data∧AbsL x'.H R.B∧IB a b dx m pre pre.length x' MB')→FedOut R a b dx sn m pre d M'
inductive FedE (R:FedR) (a:Addr) (part:List Int) (sn:Addr) (cls:Value) (σ':AS):Prop
 | mk (c:Addr) (seen':List Row) (fr:Option D) (M1:List (Addr×AO)):cls=.ref c→(c=251∨c=263∨c=275)→σ'=⟨fSl a part sn fr,M1++[(sn,.lst (seen'.map Row.d))]⟩→Z308 M1→R.ans=ansOf (some c)→R.seen=seen'→FedE R a part sn cls σ'
set_option maxHeartbeats 2000000 in
theorem fn_fed {P:Params}{a b dx sn:Addr}{m:Int}{pre part:List Int}{x:St2}{MB:List (Addr×AO)}{B:List FI}{seen:List Row}{n:Nat} (hm:m.natAbs<2 ^ 64) (hpre:pre.length≤24) (hB:AbsL x.H B) (hI:IB a b dx m pre pre.length x MB) (hpb:∀ k∈part,0≤k∧k<256)
 (hz:(x.H.map HF.data).flatten.length+(x.data.length+part.length)≤1000000) (hs:seen.length+(x.data.length+part.length)≤900000) :
 FnR P 398 (n+7) [.val (.ref a),.bytes part,.val (.ref sn)] (MB++[(sn,.lst (seen.map Row.d))])
  (FedOut (fedS m pre x.data B part seen) a b dx sn m (pre.drop (min pre.length part.length)))
  (fun V V V=>False):=qc1 rec_fed.toD rfl (by
 intro C hP hcap O G
 subst hP
 rw [sl_fed]
 obtain ⟨t1,t2,t3,t4,t5,t6,t7,t1',t2',t3',t4',t5',t6',t7',q1,q2,q3,q4,q5,q6,q7,q8,q9,j,kt,kt',hpos,hpos',hbody⟩:=it_shape C.w.params
 have hA:iterA C.w.params 330 320=true:=by kernel_rfl
 conv=>enter [3];whnf
 obtain ⟨l,ps,J,htr,hperm,g⟩:=hI
 generalize hw:min pre.length part.length=w
 generalize hR:fedS m pre x.data B part seen=R
 have hFed:R=if pre.take w=part.take w then qev (feed m ((x.data++part.drop w).length+1) (x.data++part.drop w) B seen) else ⟨"protocol",seen,x.data,B⟩:=by
  rw [← hR,← hw];rfl
 have hlw:(part.drop w).length≤part.length:=by rw [List.length_drop];exact Nat.sub_le _ _
 show SLR C ⟨fSl a part sn none,MB++[(sn,.lst (seen.map Row.d))]⟩ _ _ _
 refine' SR_try (KE1:=fun cls c2 σ'=>FedE R a part sn cls σ') G ?hb_1 ?hh_1
 case hh_1 =>
  rintro cls c2 σ' ⟨c,seen',fr,M1,rfl,hc,rfl,hZ,h1,h2⟩
  refine' KE1_hnd O G ?h1_2 ?h2_2 ?h3_2 hc ?kk_2
  case h1_2=>walk_at "m.has"
  case h2_2=>walk_at "m.has"
  case h3_2=>walk_at "m.has"
  case kk_2 =>
   refine ⟨M1,by rw [h1],by rw [h2],hZ,fun h=>?_⟩
   rw [h1] at h
   rcases hc with rfl | rfl | rfl <;> exact absurd h (by decide)
 case hb_1 =>
  have hp2:(MB++[(sn,AO.lst (seen.map Row.d))]).Perm ([(b,.ba x.data),(a,.inst 330 dx),(dx,.dict (fbFs b l m pre pre.length))]++((l,.lst (HD x.H))::(308,.raw (tabO ps))::HM x.H++(qb2 x++J)++[(sn,AO.lst (seen.map Row.d))])):=by
   refine (hperm.append_right _).trans ?_
   show (((b,AO.ba x.data)::(l,.lst (HD x.H))::(a,.inst 330 dx)::(dx,.dict (fbFs b l m pre pre.length))::(308,.raw (tabO ps))::HM x.H)++(qb2 x++J)++_).Perm _
   generalize qb2 x=Q
   generalize HM x.H=W
   walk_at "perm"
  have mi:(a,AO.inst 330 dx)∈MB++[(sn,AO.lst (seen.map Row.d))]:=hp2.mem_iff.mpr (.tail _ (.head _))
  have md:(dx,AO.dict (fbFs b l m pre pre.length))∈MB++[(sn,AO.lst (seen.map Row.d))]:=hp2.mem_iff.mpr (.tail _ (.tail _ (.head _)))
  refine' qdm (K:=fun V σ'=>pre.take w=part.take w∧σ'=⟨fSl a part sn none,([(b,.ba (x.data++part.drop w)),(a,.inst 330 dx),(dx,.dict (fbFs b l m (pre.drop w) (pre.drop w).length))]++((l,.lst (HD x.H))::(308,.raw (tabO ps))::HM x.H++(qb2 x++J)))++[(sn,.lst (seen.map Row.d))]⟩) O
   (qcu (f:=299) O G ?o_5 mi md (by kernel_rfl) (by kernel_rfl) ?as_5 hp2 (fn_add (n:=n+5) (l:=l) (m:=m) (part:=part) (data:=x.data) hpre (by lia) (by lia)) ?q_5 ?r_5 rfl rfl (by decide)) ?kk_5 rfl (by unfold interactive;rw [O.fk];rfl)
  case o_5=>walk_at "m.x"
  case as_5=>walk_at "m.xs"
  case q_5 =>
   rintro d M' ⟨_,h1,rfl⟩
   rw [hw] at h1 ⊢
   exact ⟨h1,by simp only [laa,lca,lna]⟩
  case r_5 =>
   rintro cls c2 M' ⟨_,rfl,h1⟩
   rw [hw] at h1
   exact ⟨251,seen,none,M'++((l,.lst (HD x.H))::(308,.raw (tabO ps))::HM x.H++(qb2 x++J)),rfl,.inl rfl,by simp only [laa,lca,lna],⟨ps,mar _ (.tail _ (.head _))⟩,by rw [hFed,if_neg h1];rfl,by rw [hFed,if_neg h1]⟩
  case kk_5 =>
   rintro _ σ' ⟨heq,rfl⟩
   rw [if_pos heq] at hFed
   have hI0:IB a b dx m (pre.drop w) (pre.drop w).length { x with data:=x.data++part.drop w } ([(b,.ba (x.data++part.drop w)),(a,.inst 330 dx),(dx,.dict (fbFs b l m (pre.drop w) (pre.drop w).length))]++((l,.lst (HD x.H))::(308,.raw (tabO ps))::HM x.H++(qb2 x++J))):=by
    refine ⟨l,ps,J,htr,?_,{ g with z:=?_,b:=?_ }⟩
    ·show List.Perm _ (((b,AO.ba (x.data++part.drop w))::(l,.lst (HD x.H))::(a,.inst 330 dx)::(dx,.dict (fbFs b l m (pre.drop w) (pre.drop w).length))::(308,.raw (tabO ps))::HM x.H)++(qb2 x++J))
     generalize qb2 x=Q
     generalize HM x.H=W
     walk_at "perm"
    ·show (x.H.map HF.data).flatten.length+(x.data++part.drop w).length≤_
     rw [lea];lia
    ·intro k hk
     rcases maj hk with hk | hk
     ·exact g.b k hk
     ·exact hpb k (List.mem_of_mem_drop hk)
   generalize ([(b,AO.ba (x.data++part.drop w)),(a,.inst 330 dx),(dx,.dict (fbFs b l m (pre.drop w) (pre.drop w).length))]++((l,.lst (HD x.H))::(308,.raw (tabO ps))::HM x.H++(qb2 x++J)))=MB1 at hI0 ⊢
   refine' SR_forGen (k:=n+5) hpos hpos' hbody O G (takerB (C:=C) (n:=n) (a:=a) (b:=b) (dx:=dx) (pre:=pre.drop w) (pl:=(pre.drop w).length) hm) ?hit_7 hA hI0 (fun V=>rfl) (fedJ m (feed m ((x.data++part.drop w).length+1) (x.data++part.drop w) B seen) a sn part) ⟨_,seen,B,none,rfl,hB,Nat.lt_succ_self _,rfl,rfl,by rw [lea];lia⟩ (fun V V V V h t=>fedJ_skip h t) ?turn_7 ?done_7 ?err_7
   case hit_7=>walk_at "m.x"
   case turn_7 =>
    rintro y y' fa ρ M1 M2 C' ⟨k,sn',B1,fr,rfl,hB1,hk,hf,rfl,hz1⟩ hT hI' O' G' hw'
    obtain ⟨B',r,e,hB',hr⟩:=TB_yes hB1 hT
    have hl:=TB_len hT
    cases r with
    | none=>cases hr
    | some i =>
     obtain ⟨F,hF,hlast,ab⟩:=hr
     cases hF
     obtain ⟨l1,ps1,J1,htr1,hperm1,g1⟩:=hI'
     obtain ⟨⟨kd1,v1,o1⟩,hd1⟩:=g1.l F hlast
     have oF:FOk F i.kd i.v:=⟨ab.c,ab.m,o1.s⟩
     have hp3:(M1++[(sn,AO.lst (sn'.map Row.d))]).Perm (F.M++(bM b l1 a dx m (pre.drop w) (pre.drop w).length ps1 y'.data y'.H++J1++[(sn,AO.lst (sn'.map Row.d))])):=by
      refine (hperm1.append_right _).trans ?_
      rw [show qb2 y'=F.M from by unfold qb2;rw [hlast]]
      generalize bM b l1 a dx m (pre.drop w) (pre.drop w).length ps1 y'.data y'.H=W
      generalize HF.M F=Q
      walk_at "perm"
     refine' ⟨fSl a part sn (some (.val (.ref F.f))),?put,?_⟩
     case put=>walk_at "m.put"
     have hrow:∀ p pos pn:Pos,X C' ⟨fSl a part sn (some (.val (.ref F.f))),M1++[(sn,AO.lst (sn'.map Row.d))]⟩ (.Call (.Name "_law_row" p) [.Name "frame" pn] [] pos) (rowD i.kd i.v F):=fun p pos pn =>
      X_row (n:=n+3) O' (X_glob O' (by walk_at "m.has") g_law_row) (.cons (X_name O' (by walk_at "m.has")) .nil fun V V=>rfl) hp3 oF hd1
     rw [ab.row] at hrow
     refine' qf7 (a:=sn) (ds:=sn'.map Row.d) (d:=(rowI i).d) O' ?o_10 (.cons (hrow _ _ _) .nil fun V V=>rfl) (MPut.app .here) (by rw [lem];lia) (qaw ⟨_,_,rfl,?fin_10⟩) rfl rfl rfl
     case o_10=>walk_at "m.x"
     case fin_10 =>
      cases k with
      | zero=>lia
      | succ k=>exact ⟨k,sn'++[rowI i],B',_,by rw [lma];rfl,hB',by lia,by rw [← hf,feed_next e];rfl,rfl,by rw [lea,List.length_singleton];lia⟩
   case done_7 =>
    rintro y y' fr ρ M1 M2 ⟨k,sn',B1,fr',rfl,hB1,hk,hf,rfl,hz1⟩ hT hI'
    obtain ⟨e,rfl⟩:=TB_no (B:=B1) hT
    refine qaw ?_
    cases k with
    | zero=>lia
    | succ k =>
     rw [feed_stop e] at hf
     rw [← hf] at hFed
     refine' SR_return ?v ?kr_12
     case v=>walk_at "m.x"
     case kr_12 =>
      rw [hFed]
      exact ⟨M1,rfl,rfl,hI'.z,fun V=>⟨{ y with last:=none },rfl,hB1,hI'⟩⟩
   case err_7 =>
    rintro y cls c2 ρ M1 M2 ⟨k,sn',B1,fr',rfl,hB1,hk,hf,rfl,hz1⟩ hE
    obtain ⟨c,e,rfl,hc⟩:=KE_step hB1 hE.1
    cases k with
    | zero=>lia
    | succ k =>
     rw [feed_err e] at hf
     rw [← hf] at hFed
     exact ⟨c,sn',fr',M1,rfl,hc,rfl,hE.2,by rw [hFed];rfl,by rw [hFed];rfl⟩)
noncomputable abbrev flat (B:List FI):Nat:=(B.map FI.da).flatten.length
set_option tactic.hygienic true in
theorem step_size {m:Int}{data data':List Int}{B B':List FI}{r:Option FI} (h:qb5 m data B=.next data' B' r):flat B'+data'.length+1≤flat B+data.length:=by
 unfold qb5 at h
 split at h
 ·cases h
 ·cases h
 rename_i len kd sid pad da mo S hR
 obtain ⟨h1,h2,_⟩:=qdg hR
 have h3:da.length≤len:=Nat.le_trans (qg3 h2).1 (by rw [List.length_take];exact Nat.min_le_left _ _)
 have hb:len+((data.drop (9+len)).length+1)≤data.length:=by rw [List.length_drop];exact szX h1
 split at h
 ·split at h
  ·cases h
   show ([da].flatten).length+_+1≤0+_
   simp only [List.flatten_cons,List.flatten_nil,List.append_nil]
   rw [Nat.zero_add,Nat.add_assoc];exact Nat.le_trans (Nat.add_le_add_right h3 _) hb
  ·cases h
   show 0+_+1≤0+_
   rw [Nat.zero_add,Nat.zero_add];exact Nat.le_trans (Nat.le_add_left _ _) hb
 ·split at h
  ·split at h
   ·cases h
    show 0+_+1≤_
    rw [Nat.zero_add];exact Nat.le_trans (Nat.le_trans (Nat.le_add_left _ _) hb) (Nat.le_add_left _ _)
   ·cases h
    unfold flat
    rw [lma,List.flatten_append,lea]
    show _+([da].flatten).length+_+1≤_
    simp only [List.flatten_cons,List.flatten_nil,List.append_nil]
    rw [Nat.add_assoc,Nat.add_assoc];exact Nat.add_le_add_left (Nat.le_trans (Nat.add_le_add_right h3 _) hb) _
  ·cases h
theorem qeu {m:Int}:∀ (n:Nat) (data:List Int) (B:List FI) (seen:List Row),(feed m n data B seen).seen.length+flat (feed m n data B seen).B+(feed m n data B seen).data.length≤seen.length+flat B+data.length
 | 0,_,_,_=>Nat.le_refl _
 | n+1,data,B,seen=>by
  rw [feed_succ]
  cases hs:qb5 m data B with
  | stop=>exact Nat.le_refl _
  | err c=>exact Nat.le_refl _
  | next data' B' r =>
   have h:=step_size hs
   cases r with
   | none =>
    exact Nat.le_trans (qeu (m:=m) n data' B' seen) (by rw [Nat.add_assoc,Nat.add_assoc];exact Nat.add_le_add_left (Nat.le_of_succ_le h) _)
   | some i =>
    have:=qeu (m:=m) n data' B' (seen++[rowI i])
    rw [lea,List.length_singleton] at this
    exact Nat.le_trans this (by rw [Nat.add_right_comm _ 1,Nat.add_right_comm _ 1,Nat.add_assoc,Nat.add_assoc,Nat.add_assoc];exact Nat.add_le_add_left h _)
def Right (m:Int) (T:Told) (tail pre0 sent:List Int):Prop:=∃ rows:List Raw,T=qaf m rows [] [] (pre0.length:Int)∧sent=pre0++((rows.map Raw.laid).flatten++tail)∧(∀ r∈rows,qdr r)∧qfr m tail
def Wrong (T:Told) (pre0 sent:List Int) (came:Nat):Prop:=∃ k:Nat,came≤k∧k<pre0.length∧T.told=[]∧T.fault="protocol"∧T.begun=(k:Int)∧T.ended=(k:Int)+1∧sent.take k=pre0.take k∧sent[k]?≠pre0[k]?
def Stt (m:Int) (T:Told) (tail pre0 sent:List Int) (came:Nat) (pre data:List Int) (B:List FI) (seen:List Row):Prop :=
 pre=pre0.drop came∧seen.length+flat B+data.length≤came∧Quiet T came seen ∧
 ((data=[]∧B=[]∧seen=[]∧came<pre0.length∧(Right m T tail pre0 sent∨Wrong T pre0 sent came))∨(pre0.length≤came∧qfr m tail∧Sit m T tail sent came data B seen))
def LoudT (T:Told) (came:Nat) (ans:Str) (seen:List Row):Prop:=ans≠""∧T.fault=ans∧T.begun<(came:Int)∧T.told.map Prod.snd=seen∧∀ p∈T.told,p.1≤(came:Int)
theorem ansOf_ne (c:Addr):ansOf (some c)≠"":=by
 unfold ansOf
 split <;> first | decide | (rename_i h;cases h)
theorem run_sit {m:Int}{T:Told}{tail pre0 sent data:List Int}{came:Nat}{B:List FI}{seen:List Row} (ht:qfr m tail) (hp:pre0.length≤came) (hz:seen.length+flat B+data.length≤came) (S:Sit m T tail sent came data B seen) :
 ((qev (feed m (data.length+1) data B seen)).ans=""∧Stt m T tail pre0 sent came (pre0.drop came) (qev (feed m (data.length+1) data B seen)).data (qev (feed m (data.length+1) data B seen)).B (qev (feed m (data.length+1) data B seen)).seen) ∨
 LoudT T came (qev (feed m (data.length+1) data B seen)).ans (qev (feed m (data.length+1) data B seen)).seen:=by
 have h:=qgc ht (data.length+1) data B seen (Nat.lt_succ_self _) S
 have z:=qeu (m:=m) (data.length+1) data B seen
 generalize feed m (data.length+1) data B seen=R at h z
 obtain ⟨seen',res,data',B'⟩:=R
 cases res with
 | none=>exact .inl ⟨rfl,rfl,Nat.le_trans z hz,h.2,.inr ⟨hp,ht,h.1⟩⟩
 | some c=>exact .inr ⟨ansOf_ne c,h.1,h.2.1,h.2.2.1,h.2.2.2⟩
theorem Sit.more {m:Int}{T:Told}{tail oct data part t:List Int}{came:Nat}{B:List FI}{seen:List Row} (S:Sit m T tail oct came data B seen) (h:oct.drop came=part++t):Sit m T tail oct (came+part.length) (data++part) B seen:=by
 obtain ⟨rest,told,pn,hT,ho,⟨u,hu⟩,hc,hs,hle,hr,hB⟩:=S
 refine ⟨rest,told,pn,hT,ho,⟨t,?_⟩,by rw [lea];lia,hs,fun p hp=>by have:=hle p hp;lia,hr,hB⟩
 have e:u=part++t:=by
  rw [← h,← hc,← List.drop_drop,ho,← hu,List.drop_left]
 rw [laa,← e]
 exact hu
theorem feed_nil {m:Int}:qev (feed m 1 [] [] [])=⟨"",[],[],[]⟩:=by
 have:qb5 m [] []=.stop:=by unfold qb5;rw [qcb (by decide)]
 rw [feed_stop this];rfl
theorem qeh {m:Int}{T:Told}{tail pre0 sent:List Int}{came:Nat} (h:Right m T tail pre0 sent) (hc:came<pre0.length):Quiet T came []:=by
 obtain ⟨rows,hT,_,_,_⟩:=h
 obtain ⟨h1,ex,h2,h3⟩:=go_mono (m:=m) rows [] [] (pre0.length:Int)
 rw [← hT] at h1 h2
 exact qe0 (told:=[]) h2 (fun p hp=>nomatch hp) (fun p hp=>by have:=h3 p hp;lia) fun V=>by lia
theorem qeg {T:Told}{pre0 sent:List Int}{came:Nat} (h:Wrong T pre0 sent came):Quiet T came []:=by
 obtain ⟨k,h1,h2,h3,h4,h5,h6,_⟩:=h
 exact qe0 (told:=[]) (extra:=[]) h3 (fun p hp=>nomatch hp) (fun p hp=>nomatch hp) fun V=>by lia
theorem stt_step {m:Int}{T:Told}{tail pre0 sent pre data part:List Int}{came k:Nat}{B:List FI}{seen:List Row} (S:Stt m T tail pre0 sent came pre data B seen) (hp:part=(sent.drop came).take k) :
 ((fedS m pre data B part seen).ans=""∧Stt m T tail pre0 sent (came+part.length) (pre.drop (min pre.length part.length)) (fedS m pre data B part seen).data (fedS m pre data B part seen).B (fedS m pre data B part seen).seen) ∨
 LoudT T (came+part.length) (fedS m pre data B part seen).ans (fedS m pre data B part seen).seen:=by
 obtain ⟨rfl,hz,hq,h | ⟨h1,h2,h3⟩⟩:=S
 ·obtain ⟨rfl,rfl,rfl,hc,hr⟩:=h
  have hlp:(pre0.drop came).length=pre0.length - came:=List.length_drop ..
  rcases hr with hr | hw
  ·have hr':=hr
   obtain ⟨rows,hT,hsent,hok,ht⟩:=hr
   generalize hX:(rows.map Raw.laid).flatten++tail=X at hsent
   have hd:sent.drop came=pre0.drop came++X:=by rw [hsent,List.drop_append_of_le_length (by lia)]
   by_cases hk:k<(pre0.drop came).length
   ·have ep:part=(pre0.drop came).take k:=by rw [hp,hd,List.take_append_of_le_length (by lia)]
    have el:part.length=k:=by rw [ep,List.length_take];exact Nat.min_eq_left (Nat.le_of_lt hk)
    have ew:min (pre0.drop came).length part.length=k:=by rw [el];exact Nat.min_eq_right (Nat.le_of_lt hk)
    have e0:part.drop k=[]:=List.drop_of_length_le (Nat.le_of_eq el)
    have hck:came+k<pre0.length:=Nat.add_lt_of_lt_sub' (hlp ▸ hk)
    have hR:fedS m (pre0.drop came) [] [] part []=⟨"",[],[],[]⟩:=by
     unfold fedS
     rw [ew,if_pos (by rw [ep,List.take_take,Nat.min_self]),e0,List.append_nil]
     exact feed_nil
    rw [hR,ew,el,List.drop_drop]
    exact .inl ⟨rfl,rfl,Nat.zero_le _,qeh hr' hck,.inl ⟨rfl,rfl,rfl,hck,.inl hr'⟩⟩
   ·have ep:part=pre0.drop came++X.take (k - (pre0.drop came).length):=by rw [hp,hd,List.take_append];rw [List.take_of_length_le (by lia)]
    have el:part.length=(pre0.drop came).length+(X.take (k - (pre0.drop came).length)).length:=by rw [ep,lea]
    have ew:min (pre0.drop came).length part.length=(pre0.drop came).length:=by rw [el];exact Nat.min_eq_left (Nat.le_add_right _ _)
    have e0:part.drop (pre0.drop came).length=X.take (k - (pre0.drop came).length):=by rw [ep,List.drop_left]
    generalize hdd:X.take (k - (pre0.drop came).length)=d at *
    have hR:fedS m (pre0.drop came) [] [] part []=qev (feed m (d.length+1) d [] []):=by
     unfold fedS
     rw [ew,if_pos (by rw [ep,List.take_left,List.take_length]),e0,lna]
    have hS:Sit m T tail sent (came+part.length) d [] []:=⟨rows,[],pre0.length,hT,by rw [hX,hsent,List.drop_left],by rw [hX,← hdd];exact List.take_prefix _ _,by lia,rfl,fun p h=>(nomatch h),hok,⟨by simp,fun V V e=>nomatch e⟩⟩
    have:=run_sit (pre0:=pre0) ht (by lia) (by show 0+0+d.length≤_;lia) hS
    rw [hR,ew,List.drop_of_length_le (Nat.le_refl _)]
    rwa [List.drop_of_length_le (show pre0.length≤came+part.length by lia)] at this
  ·have hw':=hw
   obtain ⟨j,g1,g2,g3,g4,g5,g6,g7,g8⟩:=hw
   have hpl:part.length≤k:=by rw [hp,List.length_take];lia
   have ep:part=(sent.drop came).take part.length:=by
    rw [hp,List.length_take]
    rcases Nat.le_total k (sent.drop came).length with h | h
    ·rw [Nat.min_eq_left h]
    ·rw [Nat.min_eq_right h,List.take_of_length_le h,List.take_length]
   by_cases hj:came+part.length≤j
   ·have ew:min (pre0.drop came).length part.length=part.length:=Nat.min_eq_right (by rw [hlp];exact Nat.le_sub_of_add_le' (Nat.le_of_lt (Nat.lt_of_le_of_lt hj g2)))
    have hR:fedS m (pre0.drop came) [] [] part []=⟨"",[],[],[]⟩:=by
     unfold fedS
     rw [ew,if_pos ?_,List.drop_of_length_le (Nat.le_refl _),List.append_nil]
     ·exact feed_nil
     ·rw [List.take_length]
      have e1:∀ l:List Int,(l.drop came).take part.length=((l.take j).drop came).take part.length:=fun l=>by
       rw [List.drop_take,List.take_take,Nat.min_eq_left (Nat.le_sub_of_add_le' hj)]
      rw [e1,← g7,← e1];exact ep.symm
    rw [hR,ew,List.drop_drop]
    have hw2:Wrong T pre0 sent (came+part.length):=⟨j,hj,g2,g3,g4,g5,g6,g7,g8⟩
    exact .inl ⟨rfl,rfl,Nat.zero_le _,qeg hw2,.inl ⟨rfl,rfl,rfl,by lia,.inr hw2⟩⟩
   ·have hne:(pre0.drop came).take (min (pre0.drop came).length part.length)≠part.take (min (pre0.drop came).length part.length):=fun e=>by
     have this:((pre0.drop came).take (min (pre0.drop came).length part.length))[j - came]?=(part.take (min (pre0.drop came).length part.length))[j - came]?:=by rw [e]
     have hjm:j - came<min (pre0.drop came).length part.length:=by rw [List.length_drop];exact Nat.lt_min.mpr ⟨Nat.sub_lt_sub_right g1 g2,Nat.sub_lt_left_of_lt_add g1 (Nat.lt_of_not_le hj)⟩
     rw [List.getElem?_take_of_lt hjm,List.getElem?_take_of_lt hjm,List.getElem?_drop,ep,List.getElem?_take_of_lt (Nat.lt_min.mp hjm).2,List.getElem?_drop,Nat.add_sub_cancel' g1] at this
     exact g8 this.symm
    have hR:fedS m (pre0.drop came) [] [] part []=⟨"protocol",[],[],[]⟩:=by
     unfold fedS;rw [if_neg hne]
    rw [hR]
    exact .inr ⟨by decide,g4,by rw [g5];lia,by rw [g3];rfl,fun p h=>by rw [g3] at h;cases h⟩
 ·have hpre:pre0.drop came=[]:=List.drop_of_length_le h1
  rw [hpre]
  have hR:fedS m [] data B part seen=qev (feed m ((data++part).length+1) (data++part) B seen):=by
   unfold fedS
   rw [List.length_nil,Nat.zero_min,if_pos (by rw [List.take_nil,List.take_zero]),List.drop_zero]
  have hS:=h3.more (part:=part) (t:=(sent.drop came).drop k) (by rw [hp,List.take_append_drop])
  have:=run_sit (pre0:=pre0) h2 (by lia) (by rw [lea];lia) hS
  rw [hR,List.drop_nil]
  rwa [List.drop_of_length_le (show pre0.length≤came+part.length by lia)] at this
noncomputable def qh3 (sc:List Int):Int:=if (!(sc.map D.int).isEmpty)=true then sc.getD 0 0 else 0
noncomputable def cutI (l:List Int) (a b:Option Int):List Int:=(l.drop (kms_lo a l.length)).take (kms_hi b l.length - kms_lo a l.length)
theorem cutL_map {l:List Int}{a b:Option Int}:cutL (l.map D.int) a b=(cutI l a b).map D.int:=by
 unfold cutL cutI
 rw [lem,List.map_take,List.map_drop]
noncomputable def qep (sc:List Int):List Int:=if (decide (1<(sc.length:Int)))=true then cutI sc (some 1) (some 9) else [12,2,0]
theorem qh4 {sc:List Int}:0<(qep sc).length∧(qep sc).length≤8:=by
 unfold qep
 split
 ·rename_i h
  have h:(1:Int)<(sc.length:Int):=by simpa using h
  have e1:kms_lo (some 1) sc.length=1:=by
   show (if (1:Int)<0 then sc.length - (-(1:Int)).toNat else min 1 sc.length)=1
   rw [if_neg (by decide)];lia
  have e2:kms_hi (some 9) sc.length=min 9 sc.length:=by
   show (if (9:Int)<0 then sc.length - (-(9:Int)).toNat else min 9 sc.length)=_
   rw [if_neg (by decide)]
  unfold cutI
  rw [e1,e2,List.length_take,List.length_drop]
  exact mX h
 ·decide
noncomputable def qai (st:Int):Int:=[12,4,0,16384,8].getD (st / 2 % 5).toNat 0
noncomputable def qba (st:Int):Int:=[0,5,260,65540].getD (st / 500 % 4).toNat 0
noncomputable def qd8 (ns:List Int):List Raw:=ns.foldl (fun rows d=>rows++qcj d (decide ((rows.length:Int)<11))) []
noncomputable abbrev lRaw (rows:List Raw):List Int:=(rows.map Raw.laid).flatten
noncomputable def qb1 (t:Int):List Int:=if (decide (0<t))=true then sBig t 3++[0,0]++sBig 1 4++[1,2,3,4] else []
noncomputable def qbm:List Int:=[80,82,73,32,42,32,72,84,84,80,47,50,46,48,13,10,13,10,83,77,13,10,13,10]
noncomputable def qb0 (st:Int):Int:=st / 10 % 50 - 1
noncomputable def isWr (st:Int):Bool:=decide (0≤qb0 st) && decide (qb0 st<24)
noncomputable def preOf (w:Int):List Int:=cut qbm none (some w)++[qbm.getD w.toNat 0+1]++cut qbm (some (w+1)) none
noncomputable def lPre (st:Int):List Int:=if isWr st=true then preOf (qb0 st) else qbm
noncomputable def lSrv (st:Int):Bool:=st % 2 == 1
noncomputable def qfa (st:Int) (rows:List Raw):Told:=qec rows (qai st) (if lSrv st=true then 24 else 0)
noncomputable def qb3 (st:Int) (rows:List Raw):Told:=if (lSrv st && isWr st)=true then ⟨[],"protocol",qb0 st,qb0 st+1,(qfa st rows).inside⟩ else qfa st rows
noncomputable def lOct (st:Int) (rows:List Raw):List Int:=if lSrv st=true then lPre st++(lRaw rows++qb1 (qba st)) else lRaw rows++qb1 (qba st)
noncomputable def qbb (st:Int):List Int:=if lSrv st=true then qbm else []
theorem qcz {l:List Int}{i:Nat}{p:Int→Prop} (h:∀ x∈l,p x) (h0:p 0):p (l.getD i 0):=by
 rw [List.getD_eq_getElem?_getD]
 cases e:l[i]? with
 | none=>exact h0
 | some x=>exact h x (List.mem_of_getElem? e)
theorem qh5 (st:Int):0≤qai st∧qai st≤16384:=qcz (p:=fun x=>0≤x∧x≤16384) (by decide) (by decide)
theorem lTail_ok (st:Int):qba st=0∨5≤qba st∧qba st≤65540:=qcz (p:=fun x=>x=0∨5≤x∧x≤65540) (by decide) (by decide)
theorem drawn_ok {d:Int}{many:Bool}:∀ r∈qcj d many,qdr r∧r.body.length≤265:=by
 have hs0:0≤qdj d∧qdj d<2147483648:=qcz (p:=fun x=>0≤x∧x<2147483648) (by decide) (by decide)
 have hs:0≤qal d∧qal d<2147483648:=by unfold qal;split;exact ⟨by decide,by decide⟩;exact hs0
 have hk:0≤qex d∧qex d<256:=qcz (p:=fun x=>0≤x∧x<256) (by decide) (by decide)
 have hb:0≤dBits d∧dBits d<256:=qcz (p:=fun x=>0≤x∧x<256) (by decide) (by decide)
 have hl:=@qdx d
 have c0:(0:Int)≤0∧(0:Int)<256:=by decide
 have c1:(0:Int)≤1∧(1:Int)<256:=by decide
 have c4:(0:Int)≤4∧(4:Int)<256:=by decide
 have c9:(0:Int)≤9∧(9:Int)<256:=by decide
 unfold qcj
 split
 ·intro r hr
  rw [msj hr]
  exact ⟨⟨hk,hb,hs,qgd,Nat.le_trans hl (by decide)⟩,hl⟩
 ·intro r hr
  rcases maj hr with hr | hr
  ·rcases maj hr with hr | hr
   ·rw [msj hr]
    exact ⟨⟨c1,c0,hs,qgd,Nat.le_trans hl (by decide)⟩,hl⟩
   ·obtain ⟨j,hj,rfl⟩:=mmj hr
    have hj:=List.mem_range.mp hj
    exact ⟨⟨c9,c0,hs,fun k hk=>by rw [msj hk];exact ⟨Int.natCast_nonneg _,Int.ofNat_lt.mpr (Nat.lt_of_lt_of_le hj (Nat.le_trans (t66 _) (by decide)))⟩,by simp⟩,by simp⟩
  ·rw [msj hr]
   exact ⟨⟨c9,c4,hs,qgd,Nat.le_trans hl (by decide)⟩,hl⟩
theorem drawn_len {d:Int}{many:Bool}:(qcj d many).length≤67:=by
 unfold qcj
 split
 ·simp
 ·simp only [lea,List.length_singleton]
  unfold qcq
  rw [lem,List.length_range]
  lia
theorem lRows_snoc (ns:List Int) (d:Int):qd8 (ns++[d])=qd8 ns++qcj d (decide (((qd8 ns).length:Int)<11)):=by
 unfold qd8;rw [List.foldl_append];rfl
theorem lRows_ok' (ns:List Int):∀ acc:List Raw,(∀ r∈acc,qdr r∧r.body.length≤265)→(∀ r∈ns.foldl (fun rows d=>rows++qcj d (decide ((rows.length:Int)<11))) acc,qdr r∧r.body.length≤265)∧(ns.foldl (fun rows d=>rows++qcj d (decide ((rows.length:Int)<11))) acc).length≤acc.length+67 * ns.length:=by
 induction ns with
 | nil=>intro acc h;exact ⟨h,by simp⟩
 | cons d ns ih =>
  intro acc h
  obtain ⟨h1,h2⟩:=ih (acc++qcj d (decide ((acc.length:Int)<11))) fun r hr=>by
   rcases maj hr with hr | hr
   ·exact h r hr
   ·exact drawn_ok r hr
  refine ⟨h1,?_⟩
  have:=@drawn_len d (decide ((acc.length:Int)<11))
  rw [lea] at h2
  rw [List.foldl_cons,List.length_cons]
  exact Nat.le_trans h2 (by rw [Nat.add_assoc,Nat.add_comm _ (67 * ns.length),Nat.mul_succ];exact Nat.add_le_add_left (Nat.add_le_add_left this _) _)
theorem qg6 (ns:List Int):(∀ r∈qd8 ns,qdr r∧r.body.length≤265)∧(qd8 ns).length≤67 * ns.length:=by
 have:=lRows_ok' ns [] (fun r h=>nomatch h)
 exact ⟨this.1,Nat.le_trans this.2 (by simp)⟩
theorem qe2:∀ {rows:List Raw},(∀ r∈rows,r.body.length≤265)→(lRaw rows).length≤274 * rows.length
 | [],_=>by simp
 | r::rows,h=>by
  have h1:=h r (.head _)
  have h2:=qe2 (rows:=rows) fun q hq=>h q (.tail _ hq)
  have h3:=qcd r
  unfold lRaw at h2 ⊢
  rw [lmc,List.flatten_cons,lea,List.length_cons]
  lia
theorem sLaid_in {r:Raw} (h:qdr r):∀ k∈r.laid,0≤k∧k<256:=by
 intro k hk
 unfold Raw.laid sLaid at hk
 rcases maj hk with hk | hk
 ·rcases maj hk with hk | hk
  ·rcases maj hk with hk | hk
   ·exact qed k hk
   ·rcases mcj hk with rfl | hk
    ·exact h.k
    ·rw [msj hk];exact h.b
  ·exact qed k hk
 ·exact h.o k hk
theorem lRaw_in {rows:List Raw} (h:∀ r∈rows,qdr r):∀ k∈lRaw rows,0≤k∧k<256:=by
 intro k hk
 obtain ⟨l,hl,hk⟩:=List.mem_flatten.mp hk
 obtain ⟨r,hr,rfl⟩:=mmj hl
 exact sLaid_in (h r hr) k hk
theorem lTailO_in {t:Int}:∀ k∈qb1 t,0≤k∧k<256:=by
 unfold qb1
 split
 ·intro k hk
  rcases maj hk with hk | hk
  ·rcases maj hk with hk | hk
   ·rcases maj hk with hk | hk
    ·exact qed k hk
    ·exact (show ∀ k∈([0,0]:List Int),0≤k∧k<256 by decide) k hk
   ·exact qed k hk
  ·exact (show ∀ k∈([1,2,3,4]:List Int),0≤k∧k<256 by decide) k hk
 ·intro k hk;cases hk
theorem qfl {t:Int}:(qb1 t).length≤13:=by
 unfold qb1
 split
 ·simp [qas]
 ·simp
theorem tail_no {m t:Int} (h:t=0∨5≤t∧t≤65540):qfr m (qb1 t):=by
 intro d hd
 by_cases h9:d.length<9
 ·exact qcb h9
 have hl:=hd.length_le
 unfold qb1 at hd hl
 split at hd
 ·rename_i ht
  rw [if_pos ht] at hl
  have ht:0<t:=by simpa using ht
  obtain ⟨u,hu⟩:=hd
  rw [sBig3,sBig4] at hu
  have hh:d.take 9=qdi t 0 0 1:=by
   have:=congrArg (List.take 9) hu
   rw [List.take_append_of_le_length (by lia)] at this
   exact this
  have hl:d.length≤13:=by
   rw [sBig3,sBig4] at hl
   exact hl
  rw [qc6 (by lia) hh (by lia) (by decide),if_neg (by decide),if_pos (by lia)]
 ·rw [if_neg (by assumption)] at hl
  have hl:d.length≤0:=hl
  lia
theorem qek:∀ k:Nat,k<24→(preOf (k:Int)).take k=qbm.take k∧(preOf (k:Int))[k]?≠qbm[k]?∧(preOf (k:Int)).length=24∧∀ x∈preOf (k:Int),0≤x∧x<256:=by decide +kernel
theorem lPre_ok (st:Int):(lPre st).length=24∧∀ x∈lPre st,0≤x∧x<256:=by
 unfold lPre
 split
 ·rename_i h
  unfold isWr at h
  rw [Bool.and_eq_true,decide_eq_true_eq,decide_eq_true_eq] at h
  have:=qek (qb0 st).toNat (by lia)
  rw [Int.toNat_of_nonneg h.1] at this
  exact this.2.2
 ·exact ⟨rfl,by decide⟩
theorem lOct_ok {st:Int}{rows:List Raw} (h:∀ r∈rows,qdr r∧r.body.length≤265):(∀ k∈lOct st rows,0≤k∧k<256)∧(lOct st rows).length≤274 * rows.length+37:=by
 have h1:=lRaw_in fun r hr=>(h r hr).1
 have h2:=@lTailO_in (qba st)
 have h3:=qe2 fun r hr=>(h r hr).2
 have h4:=@qfl (qba st)
 obtain ⟨h5,h6⟩:=lPre_ok st
 unfold lOct
 split
 ·refine ⟨fun k hk=>?_,by simp only [lea];lia⟩
  rcases maj hk with hk | hk
  ·exact h6 k hk
  ·rcases maj hk with hk | hk
   ·exact h1 k hk
   ·exact h2 k hk
 ·refine ⟨fun k hk=>?_,by simp only [lea];lia⟩
  rcases maj hk with hk | hk
  ·exact h1 k hk
  ·exact h2 k hk
theorem stt0 {st:Int}{rows:List Raw} (h:∀ r∈rows,qdr r):Stt (qai st) (qb3 st rows) (qb1 (qba st)) (qbb st) (lOct st rows) 0 (qbb st) [] [] []:=by
 have ht:=tail_no (m:=qai st) (lTail_ok st)
 refine ⟨List.drop_zero.symm,Nat.le_refl _,?_⟩
 by_cases hs:lSrv st=true
 ·have e0:qbb st=qbm:=by unfold qbb;rw [if_pos hs]
  have e1:lOct st rows=lPre st++(lRaw rows++qb1 (qba st)):=by unfold lOct;rw [if_pos hs]
  have e2:qfa st rows=qaf (qai st) rows [] [] ((qbm.length:Nat):Int):=by unfold qfa qec;rw [if_pos hs];rfl
  rw [e0]
  by_cases hw:isWr st=true
  ·have e3:qb3 st rows=⟨[],"protocol",qb0 st,qb0 st+1,(qfa st rows).inside⟩:=by unfold qb3;rw [if_pos (by rw [hs,hw];rfl)]
   have h':=hw
   unfold isWr at h'
   rw [Bool.and_eq_true,decide_eq_true_eq,decide_eq_true_eq] at h'
   have hp:=qek (qb0 st).toNat ((Int.toNat_lt h'.1).mpr h'.2)
   rw [Int.toNat_of_nonneg h'.1] at hp
   have e4:lPre st=preOf (qb0 st):=by unfold lPre;rw [if_pos hw]
   have W:Wrong (qb3 st rows) qbm (lOct st rows) 0:=⟨(qb0 st).toNat,Nat.zero_le _,(Int.toNat_lt h'.1).mpr h'.2,by rw [e3],by rw [e3],by rw [e3];show qb0 st=_;lia,by rw [e3];show qb0 st+1=_;lia,
    by rw [e1,e4,List.take_append_of_le_length (by rw [hp.2.2.1];exact Nat.le_of_lt ((Int.toNat_lt h'.1).mpr h'.2))];exact hp.1,by rw [e1,e4,List.getElem?_append_left (by rw [hp.2.2.1];exact (Int.toNat_lt h'.1).mpr h'.2)];exact hp.2.1⟩
   exact ⟨qeg W,.inl ⟨rfl,rfl,rfl,by decide,.inr W⟩⟩
  ·have e3:qb3 st rows=qfa st rows:=by unfold qb3;rw [if_neg (by rw [hs,Bool.true_and];exact hw)]
   have e4:lPre st=qbm:=by unfold lPre;rw [if_neg hw]
   have Rt:Right (qai st) (qb3 st rows) (qb1 (qba st)) qbm (lOct st rows):=⟨rows,by rw [e3,e2],by rw [e1,e4],h,ht⟩
   exact ⟨qeh Rt (by decide),.inl ⟨rfl,rfl,rfl,by decide,.inl Rt⟩⟩
 ·have hs':lSrv st=false:=by simpa using hs
  have e0:qbb st=[]:=by unfold qbb;rw [if_neg hs]
  have e1:lOct st rows=lRaw rows++qb1 (qba st):=by unfold lOct;rw [if_neg hs]
  have e3:qb3 st rows=qaf (qai st) rows [] [] ((0:Nat):Int):=by unfold qb3 qfa qec;rw [hs',Bool.false_and,if_neg (by decide),if_neg (by decide)];rfl
  have S:Sit (qai st) (qb3 st rows) (qb1 (qba st)) (lOct st rows) 0 [] [] []:=⟨rows,[],0,e3,by rw [e1];rfl,List.nil_prefix,rfl,rfl,fun p h=>(nomatch h),h,⟨by simp,fun V V e=>nomatch e⟩⟩
  have hq:=step_sit ht S
  rw [show qb5 (qai st) [] []=.stop from by unfold qb5;rw [qcb (by decide)]] at hq
  rw [e0]
  exact ⟨hq,.inr ⟨Nat.le_refl _,ht,S⟩⟩
noncomputable abbrev lSl (sc:D) (start numbers server bound rows drawn octets ahead told fault begun ended inside tail may wrong preface buffer seen came turn unit size answer:Option D):List Slot:=⟨"script",.local,some sc⟩::⟨"start",.local,start⟩::⟨"numbers",.local,numbers⟩::⟨"server",.local,server⟩::⟨"bound",.local,bound⟩::⟨"rows",.local,rows⟩::⟨"drawn",.local,drawn⟩::⟨"octets",.local,octets⟩::⟨"ahead",.local,ahead⟩::⟨"told",.local,told⟩::⟨"fault",.local,fault⟩::⟨"begun",.local,begun⟩::⟨"ended",.local,ended⟩::⟨"inside",.local,inside⟩::⟨"tail",.local,tail⟩::⟨"may",.local,may⟩::⟨"wrong",.local,wrong⟩::⟨"preface",.local,preface⟩::⟨"buffer",.local,buffer⟩::⟨"seen",.local,seen⟩::⟨"came",.cell,came⟩::⟨"turn",.local,turn⟩::⟨"unit",.local,unit⟩::⟨"size",.local,size⟩::⟨"answer",.local,answer⟩::⟨"len",.globalImplicit,none⟩::⟨"_law_drawn",.globalImplicit,none⟩::⟨"_law_reads",.globalImplicit,none⟩::⟨"_law_big",.globalImplicit,none⟩::⟨"bytes",.globalImplicit,none⟩::⟨"_law_preface",.globalImplicit,none⟩::⟨"FrameBuffer",.globalImplicit,none⟩::⟨"_law_fed",.globalImplicit,none⟩::⟨"min",.globalImplicit,none⟩::[]
noncomputable def fLaid:D→Option D
 | .tup [.int k,.int b,.int s,.bytes body]=>some (.bytes (sLaid k b s body))
 | _=>none
theorem fLaid_all (rows:List Raw):(rows.map Raw.d).filterMap fLaid=(rows.map Raw.laid).map D.bytes:=by
 induction rows with
 | nil=>rfl
 | cons r rows ih=>rw [lmc,lmc,lmc,List.filterMap_cons,ih];rfl
theorem qfu {C:Cx}{σ:AS}{KF:Fl→AS→Prop}{KE:Value→Value→AS→Prop} (k:Nat) {l:List Stmt} (J:AS→Prop) (h:SLR C σ (l.take k) (fun f σ'=>match f with | .next=>J σ' | f=>KF f σ') KE) (q:∀ σ',J σ'→SLR C σ' (l.drop k) KF KE):SLR C σ l KF KE:=by
 have:=SR_pre (pre:=l.take k) (rest:=l.drop k) J h q
 rwa [List.take_append_drop] at this
set_option maxHeartbeats 2000000 in
theorem law_a1 {C:Cx}{n:Nat}{sc:List Int}{ms:List (Addr×AO)} (O:Ok C (n+12)) (hcap:C.cap=[]) (hsc:sc.length≤63) :
 SL C ⟨qa7 (fdAt C.w.params 403).scope.names ["script"] [.lst (sc.map D.int)],ms⟩ ((qad (fdAt C.w.params 403)).take 8) (fun fl σ'=>fl=.next∧∃ drawn,σ'=⟨lSl (.lst (sc.map D.int)) (some (.int (qh3 sc))) (some (.lst ((qep sc).map D.int))) (some (.bool (lSrv (qh3 sc)))) (some (.int (qai (qh3 sc)))) (some (.lst ((qd8 (qep sc)).map Raw.d))) drawn (some (.bytes (lRaw (qd8 (qep sc))))) (some (.int (if lSrv (qh3 sc)=true then 24 else 0))) none none none none none none none none none none none none none none none none,ms⟩) (fun V V=>False):=by
 rw [sl_law]
 conv=>enter [3,2];whnf
 simp only [List.take_succ_cons,List.take_zero]
 show SL C ⟨lSl (.lst (sc.map D.int)) none none none none none none none none none none none none none none none none none none none none none none none none,ms⟩ _ _ _
 have hlen:((sc.map D.int).length:Int)=(sc.length:Int):=by rw [lem]
 walk_at "m.asg"
 case v =>
  refine X_iteI (c:=!(sc.map D.int).isEmpty) (i:=sc.getD 0 0) (j:=0) (T_name ?a1_1 (Tr_lst (by rw [lem];lia))) (fun h=>qbh (i:=0) ?a2_1 X_int (by decide) (qcf (by cases sc with | nil=>cases h | cons x t=>exact Nat.succ_pos _)) (by decide)) (fun V=>X_int)
  case a1_1=>walk_at "m.x"
  case a2_1=>walk_at "m.x"
 case put=>walk_at "m.put"
 case k =>
 walk_at "m.asg"
 case v =>
  show X _ _ _ (.lst ((qep sc).map D.int))
  rw [show (qep sc).map D.int=if (decide (1<(sc.length:Int)))=true then cutL (sc.map D.int) (some 1) (some 9) else [D.int 12,D.int 2,D.int 0] from by unfold qep;rw [cutL_map];split <;> rfl]
  rw [← hlen]
  refine' X_iteL (T_cmp (hm:=?hm_2) ?a1_2 X_int Cmp_gt) (fun V=>X_cutL ?a2_2 (.some X_int) (.some X_int) (by rw [lem];lia) (fun V V=>rfl)) (fun V=>?a3_2)
  case hm_2=>rfl
  case a1_2=>walk_at "m.x"
  case a2_2=>walk_at "m.x"
  case a3_2=>walk_at "m.x"
 case put=>walk_at "m.put"
 case k =>
 generalize hst:qh3 sc=st
 have hst':(if (!(sc.map D.int).isEmpty)=true then sc.getD 0 0 else 0)=st:=hst
 rw [hst']
 generalize hnn:qep sc=ns
 obtain ⟨hn0,hn8⟩:=@qh4 sc
 rw [hnn] at hn0 hn8
 walk_at "m.assign"
 case k =>
 walk_at "m.asg"
 case v =>
  refine qbh (d:=.int (qai st)) (ds:=[12,4,0,16384,8].map D.int) (i:=st / 2 % 5) ?a1_3 ?a2_3 (by lia) (qcf (by simp;lia)) (by lia)
  case a1_3=>show X _ _ _ (.lst [.int 12,.int 4,.int 0,.int 16384,.int 8]);walk_at "m.x"
  case a2_3=>walk_at "m.x"
 case put=>walk_at "m.put"
 case k =>
 walk_at "m.assign"
 case k =>
 show SL C ⟨lSl (.lst (sc.map D.int)) (some (.int st)) (some (.lst (ns.map D.int))) (some (.bool (lSrv st))) (some (.int (qai st))) (some (.lst [])) none none none none none none none none none none none none none none none none none none none,ms⟩ _ _ _
 refine' S_for O (qdl ?s_4 fun V=>rfl) (fun i σ=>∃ v,σ=⟨lSl (.lst (sc.map D.int)) (some (.int st)) (some (.lst (ns.map D.int))) (some (.bool (lSrv st))) (some (.int (qai st))) (some (.lst ((qd8 (ns.take i)).map Raw.d))) v none none none none none none none none none none none none none none none none none none,ms⟩) ⟨none,rfl⟩ ?turn_4 ?done_4
 case s_4=>walk_at "m.x"
 case turn_4 =>
  rintro i d σ1 C' hd ⟨v,rfl⟩ O' hP' hcap'
  obtain ⟨x,hx,rfl⟩:=getElem?_map_inv hd
  have hi:i<ns.length:=(List.getElem?_eq_some_iff.mp hx).1
  have hrl:=(qg6 (ns.take i)).2
  have htl:(ns.take i).length≤8:=by rw [List.length_take];lia
  have hdl:=@drawn_len x (decide (((qd8 (ns.take i)).length:Int)<11))
  refine' ⟨_,Asg_name O' ?p1_5,?p2_5⟩
  case p1_5=>walk_at "m.put"
  case p2_5 =>
   walk_at "m.asg"
   case v =>
    rw [show ((qd8 (ns.take i)).length:Int)=(((qd8 (ns.take i)).map Raw.d).length:Int) from by rw [lem]] at hdl
    refine' X_bin (d1:=.lst ((qd8 (ns.take i)).map Raw.d)) ?a_6 (X_callF O' ?f_6 ?kk_6 ?xs_6 (fn_drawn (drawn:=x) (many:=decide ((((qd8 (ns.take i)).map Raw.d).length:Int)<11))) (by lia)) (qdb (by rw [lem,lem];lia))
    case a_6=>walk_at "m.x"
    case f_6=>exact X_glob O' (by walk_at "m.has") g_law_drawn
    case kk_6=>kernel_rfl
    case xs_6=>walk_at "m.xs"
   case put=>walk_at "m.put"
   case k =>
    refine qam ⟨some (.int x),?_⟩
    rw [List.take_add_one,hx,Option.toList_some,lRows_snoc,lma,lem]
 case done_4 =>
  rintro σ1 ⟨v,rfl⟩
  rw [lem,List.take_length]
  obtain ⟨hro,hrl⟩:=qg6 ns
  have hraw:=qe2 fun r hr=>(hro r hr).2
  generalize qd8 ns=rows at hro hrl hraw ⊢
  walk_at "m.asg"
  case v =>
   refine X_join (kss:=rows.map Raw.laid) (.cons ?_ .nil fun V V=>rfl) (by
    have:(lRaw rows).length≤16777216:=by lia
    exact this)
   refine qf3 (items:=rows.map Raw.d) [⟨".0",.local,none⟩,⟨"kind",.local,none⟩,⟨"bits",.local,none⟩,⟨"stream",.local,none⟩,⟨"body",.local,none⟩,⟨"_law_laid",.globalImplicit,none⟩] fLaid O (qdl ?s1_9 fun V=>rfl) (by kernel_rfl) (by kernel_rfl) (by rw [lem];lia) ?turn2_9 (fLaid_all rows)
   case s1_9=>walk_at "m.x"
   case turn2_9 =>
    intro CC i2 d2 OC hP2 hd2
    obtain ⟨z,hz,rfl⟩:=getElem?_map_inv hd2
    have hzm:=hro z (List.mem_of_getElem? hz)
    refine' ⟨_,qdu OC ?p1_10,?p2_10,.plain (d:=.bytes z.laid) (X_callF OC ?f_10 ?kk_10 ?xs_10 (fn_laid hzm.1.k hzm.1.b hzm.1.l) (by lia))⟩
    case p1_10 =>
     show Asgs _ _ [.int z.kind,.int z.bits,.int z.stream,.bytes z.body] _ _
     refine' .cons (Asg_name OC ?q1_11) (.cons (Asg_name OC ?q2_11) (.cons (Asg_name OC ?q3_11) (.cons (Asg_name OC ?q4_11) .nil fun V V=>rfl) fun V V=>rfl) fun V V=>rfl) fun V V=>rfl
     case q1_11=>walk_at "m.put"
     case q2_11=>walk_at "m.put"
     case q3_11=>walk_at "m.put"
     case q4_11=>walk_at "m.put"
    case p2_10=>repeat constructor
    case f_10=>exact X_glob OC (by walk_at "m.has") g_law_laid
    case kk_10=>kernel_rfl
    case xs_10=>walk_at "m.xs"
  case put=>walk_at "m.put"
  case k =>
  walk_at "m.asg"
  case v =>
   refine' X_iteI ?t_12 (fun V=>X_int) (fun V=>X_int)
   case t_12=>walk_at "m.t"
  case put=>walk_at "m.put"
  case k=>exact qam ⟨rfl,v,rfl⟩
theorem qg9 {P:Params}:GV P "_law_preface" (.bytes #[80,82,73,32,42,32,72,84,84,80,47,50,46,48,13,10,13,10,83,77,13,10,13,10] 712):=.inl (by kernel_rfl)
set_option maxHeartbeats 2000000 in
theorem law_a2 {C:Cx}{n:Nat}{sc:D}{numbers drawn:Option D}{st:Int}{rows:List Raw}{ms:List (Addr×AO)} (O:Ok C (n+12)) (hro:∀ r∈rows,qdr r∧r.body.length≤265) (hrl:rows.length≤536) :
 SL C ⟨lSl sc (some (.int st)) numbers (some (.bool (lSrv st))) (some (.int (qai st))) (some (.lst (rows.map Raw.d))) drawn (some (.bytes (lRaw rows))) (some (.int (if lSrv st=true then 24 else 0))) none none none none none none none none none none none none none none none none,ms⟩ (((qad (fdAt C.w.params 403)).drop 8).take 5)
  (fun fl σ'=>fl=.next∧∃ may wrong preface,σ'=⟨lSl sc (some (.int st)) numbers (some (.bool (lSrv st))) (some (.int (qai st))) (some (.lst (rows.map Raw.d))) drawn (some (.bytes (lOct st rows))) (some (.int (if lSrv st=true then 24 else 0))) (some (.lst ((qb3 st rows).told.map qb9))) (some (.str (qb3 st rows).fault)) (some (.int (qb3 st rows).begun)) (some (.int (qb3 st rows).ended)) (some (.bool (qfa st rows).inside)) (some (.int (qba st))) may wrong preface none none none none none none none,ms⟩) (fun V V=>False):=by
 conv=>enter [3,2,2];whnf
 simp only [List.drop_succ_cons,List.drop_zero,List.take_succ_cons,List.take_zero]
 have hraw:=qe2 fun r hr=>(hro r hr).2
 have hb:=qh5 st
 generalize hT:qfa st rows=tt
 have htd:Told.d tt=.tup [.lst (tt.told.map qb9),.str tt.fault,.int tt.begun,.int tt.ended,.bool tt.inside]:=rfl
 have hfr:=fn_reads (P:=C.w.params) (rows:=rows) (bound:=qai st) (place:=if lSrv st=true then 24 else 0) (by lia) (fun r hr=>by have:=(hro r hr).2;lia)
 rw [show qec rows (qai st) (if lSrv st=true then 24 else 0)=tt from hT,htd] at hfr
 refine' S_assignT' (ρ:=lSl sc (some (.int st)) numbers (some (.bool (lSrv st))) (some (.int (qai st))) (some (.lst (rows.map Raw.d))) drawn (some (.bytes (lRaw rows))) (some (.int (if lSrv st=true then 24 else 0))) none none none none none none none none none none none none none none none none) (by assumption) (X_callF O ?f_1 ?kk_1 ?xs_1 hfr (by lia)) ?asn ?k ?hs_1 ?hw_1
 case hs_1=>rfl
 case hw_1=>rfl
 case f_1=>exact X_glob O (by walk_at "m.has") g_law_reads
 case kk_1=>kernel_rfl
 case xs_1=>walk_at "m.xs"
 case asn=>walk_at "m.asgs"
 case k =>
 walk_at "m.asg"
 case v =>
  refine qbh (d:=.int (qba st)) (ds:=[0,5,260,65540].map D.int) (i:=st / 500 % 4) ?a1_2 ?a2_2 (by lia) (qcf (by simp;lia)) (by lia)
  case a1_2=>show X _ _ _ (.lst [.int 0,.int 5,.int 260,.int 65540]);walk_at "m.x"
  case a2_2=>walk_at "m.x"
 case put=>walk_at "m.put"
 case k =>
 walk_at "m.asg"
 case v =>
  refine' X_iteL (i:=[.str "large"]) (j:=[]) ?t_3 (fun V=>?a1_3) (fun V=>?a2_3)
  case t_3=>walk_at "m.t"
  case a1_3=>walk_at "m.x"
  case a2_3=>walk_at "m.x"
 case put=>walk_at "m.put"
 case k =>
 have hmay:(if (decide (qai st<qba st))=true then [D.str "large"] else []).length≤1:=by split <;> decide
 generalize (if (decide (qai st<qba st))=true then [D.str "large"] else [])=mm at hmay ⊢
 refine' qgn (J:=fun σ'=>∃ may,σ'=⟨lSl sc (some (.int st)) numbers (some (.bool (lSrv st))) (some (.int (qai st))) (some (.lst (rows.map Raw.d))) drawn (some (.bytes (lRaw rows++qb1 (qba st)))) (some (.int (if lSrv st=true then 24 else 0))) (some (.lst (tt.told.map qb9))) (some (.str tt.fault)) (some (.int tt.begun)) (some (.int tt.ended)) (some (.bool tt.inside)) (some (.int (qba st))) may none none none none none none none none none,ms⟩) ?cut1_4 ?kc_4
 case cut1_4 =>
  have ht:=lTail_ok st
  walk_at "m.if"
  case yes =>
   intro hc
   have hc':0<qba st:=by simpa using hc
   walk_at "m.asg"
   case v =>
    refine' X_bin (X_bin (X_bin (X_bin ?b1_5 (X_callF O ?f_5 ?kk_5 ?xs_5 (fn_big (number:=qba st) (size:=3) (by decide) (by decide)) (by lia)) (Op_addB ?z1_5)) (qbz (ns:=[0,0]) O ?b2_5 ?b3_5 ?b4_5 ?b5_5) (Op_addB ?z2_5)) (X_callF O ?f1_5 ?kk1_5 ?xs1_5 (fn_big (number:=1) (size:=4) (by decide) (by decide)) (by lia)) (Op_addB ?z3_5)) (qbz (ns:=[1,2,3,4]) O ?c2_5 ?c3_5 ?c4_5 ?c5_5) (Op_addB ?z4_5)
    case b1_5=>walk_at "m.x"
    case f_5=>exact X_glob O (by walk_at "m.has") g_law_big
    case kk_5=>kernel_rfl
    case xs_5=>walk_at "m.xs"
    case f1_5=>exact X_glob O (by walk_at "m.has") g_law_big
    case kk1_5=>kernel_rfl
    case xs1_5=>walk_at "m.xs"
    case b2_5=>walk_at "m.x"
    case b3_5=>show Xs _ _ _ [.lst [.int 0,.int 0]];walk_at "m.xs"
    case b4_5=>decide
    case b5_5=>decide
    case c2_5=>walk_at "m.x"
    case c3_5=>show Xs _ _ _ [.lst [.int 1,.int 2,.int 3,.int 4]];walk_at "m.xs"
    case c4_5=>decide
    case c5_5=>decide
    case z1_5=>rw [qas];show _+3≤_;lia
    case z2_5=>rw [lea,qas];show _+3+2≤_;lia
    case z3_5=>rw [lea,lea,qas,qas];show _+3+2+4≤_;lia
    case z4_5=>rw [lea,lea,lea,qas,qas];show _+3+2+4+4≤_;lia
   case put=>walk_at "m.put"
   case k =>
   walk_at "m.asg"
   case v =>
    refine' X_bin (d1:=.lst mm) (d2:=.lst (if tt.inside=true then [.str "protocol"] else [])) ?b1_6 (X_iteL ?t_6 (fun V=>?a1_6) (fun V=>?a2_6)) (qdb ?z_6)
    case b1_6=>walk_at "m.x"
    case t_6=>walk_at "m.t"
    case a1_6=>walk_at "m.x"
    case a2_6=>walk_at "m.x"
    case z_6=>split <;> simp <;> lia
   case put=>walk_at "m.put"
   case k =>
    refine qam ⟨some (.lst (mm++if tt.inside=true then [.str "protocol"] else [])),?_⟩
    have:qb1 (qba st)=sBig (qba st) 3++[0,0]++sBig 1 4++[1,2,3,4]:=by unfold qb1;rw [if_pos hc]
    rw [this]
    simp only [laa]
  case no =>
   intro hc
   refine qam ⟨some (.lst mm),?_⟩
   have:qb1 (qba st)=[]:=by unfold qb1;rw [if_neg (by rw [hc];exact bft)]
   rw [this,List.append_nil]
 case kc_4 =>
 rintro _ ⟨may,rfl⟩
 have hto:=@qfl (qba st)
 have hlo:(lRaw rows++qb1 (qba st)).length≤160000:=by rw [lea];lia
 walk_at "m.if"
 case no =>
  intro hc
  refine qam ⟨rfl,may,none,none,?_⟩
  have e1:lOct st rows=lRaw rows++qb1 (qba st):=by unfold lOct;rw [if_neg (by rw [hc];exact bft)]
  have e2:qb3 st rows=tt:=by unfold qb3;rw [if_neg (by rw [hc,Bool.false_and];exact bft)];exact hT
  rw [e1,e2]
 case yes =>
  intro hs
  refine' S_assign' (d:=.int (qb0 st)) (by assumption) (show X _ _ _ (.int (st / 10 % 50 - 1)) from ?v) ?put ?k rfl
  case v=>walk_at "m.x"
  case put=>walk_at "m.put"
  case k =>
  walk_at "m.asg"
  case v=>exact (X_glob O (by walk_at "m.has") qg9).as (.bytes (ks:=qbm) (by kernel_rfl))
  case put=>walk_at "m.put"
  case k =>
  refine' qgn (J:=fun σ'=>σ'=⟨lSl sc (some (.int st)) numbers (some (.bool (lSrv st))) (some (.int (qai st))) (some (.lst (rows.map Raw.d))) drawn (some (.bytes (lRaw rows++qb1 (qba st)))) (some (.int (if lSrv st=true then 24 else 0))) (some (.lst ((qb3 st rows).told.map qb9))) (some (.str (qb3 st rows).fault)) (some (.int (qb3 st rows).begun)) (some (.int (qb3 st rows).ended)) (some (.bool tt.inside)) (some (.int (qba st))) may (some (.int (qb0 st))) (some (.bytes (lPre st))) none none none none none none none,ms⟩) ?cut2_11 ?kc_11
  case kc_11 =>
   rintro _ rfl
   have hp:=(lPre_ok st).1
   walk_at "m.asg"
   case v =>
    refine' X_bin ?b1_12 ?b2_12 (Op_addB ?z_12)
    case b1_12=>walk_at "m.x"
    case b2_12=>walk_at "m.x"
    case z_12=>rw [hp];lia
   case put=>walk_at "m.put"
   case k =>
    refine qam ⟨rfl,may,some (.int (qb0 st)),some (.bytes (lPre st)),?_⟩
    have e1:lOct st rows=lPre st++(lRaw rows++qb1 (qba st)):=by unfold lOct;rw [if_pos hs]
    rw [e1]
  case cut2_11 =>
   refine' S_if (b:=isWr st) ?t_14 ?yes ?no
   case t_14 =>
    show T _ _ _ (decide (0≤qb0 st) && decide (qb0 st<24))
    walk_at "m.t"
   case no =>
    intro hw
    refine qam ?_
    have e1:qb3 st rows=tt:=by unfold qb3;rw [if_neg (by rw [hw,Bool.and_false];exact bft)];exact hT
    have e2:lPre st=qbm:=by unfold lPre;rw [if_neg (by rw [hw];exact bft)]
    rw [e1,e2]
   case yes =>
    intro hw
    have h':=hw
    unfold isWr at h'
    rw [Bool.and_eq_true,decide_eq_true_eq,decide_eq_true_eq] at h'
    have hp:=qek (qb0 st).toNat (by lia)
    rw [Int.toNat_of_nonneg h'.1] at hp
    have e1:qb3 st rows=⟨[],"protocol",qb0 st,qb0 st+1,tt.inside⟩:=by unfold qb3;rw [if_pos (by rw [hw,hs];rfl),hT]
    have e2:lPre st=preOf (qb0 st):=by unfold lPre;rw [if_pos hw]
    rw [e1,e2]
    dsimp only [lca,lna]
    generalize hwr:qb0 st=wr at h' hp ⊢
    have hpl:qbm.length=24:=rfl
    have c1:=qar qbm none (some wr)
    have c2:=qar qbm (some (wr+1)) none
    walk_at "m.asg"
    case v =>
     show X _ _ _ (.bytes (cut qbm none (some wr)++[qbm.getD wr.toNat 0+1]++cut qbm (some (wr+1)) none))
     refine' X_bin (X_bin (X_cutB ?a1_16 ?a2_16 ?a3_16 (by decide)) (qbz (ns:=[qbm.getD wr.toNat 0+1]) O ?b2_16 ?b3_16 ?b4_16 ?b5_16) (Op_addB ?z1_16)) (X_cutB ?c1_16 ?c2_16 ?c3_16 (by decide)) (Op_addB ?z2_16)
     case a1_16=>walk_at "m.x"
     case a2_16=>walk_at "m.pt"
     case a3_16=>walk_at "m.pt"
     case b2_16=>walk_at "m.x"
     case b3_16 =>
      show Xs _ _ _ [.lst [.int (qbm.getD wr.toNat 0+1)]]
      refine .cons (X_list (.cons (X_bin (X_itemB (hp:=rfl) ?i1_17 ?i2_17 h'.1 ?i3_17 ?i4_17) X_int Op_add) .nil fun V V=>rfl) (by decide)) .nil fun V V=>rfl
      case i1_17=>walk_at "m.x"
      case i2_17=>walk_at "m.x"
      case i3_17=>rw [hpl];lia
      case i4_17=>decide
     case b4_16 =>
      intro k hk
      have hx:0≤qbm.getD wr.toNat 0∧qbm.getD wr.toNat 0<255:=qcz (p:=fun x=>0≤x∧x<255) (by decide) (by decide)
      rw [msj hk];lia
     case b5_16=>simp
     case c1_16=>walk_at "m.x"
     case c2_16=>walk_at "m.pt"
     case c3_16=>walk_at "m.pt"
     case z1_16=>simp only [List.length_singleton];lia
     case z2_16=>simp only [lea,List.length_singleton];lia
    case put=>walk_at "m.put"
    case k =>
    refine' S_assignT' (ds:=[.lst [],.str "protocol",.int wr,.int (wr+1)]) (by assumption) (X_tup ?xs_18 (by decide)) ?asn ?k ?hs_18 ?hw_18
    case hs_18=>rfl
    case hw_18=>rfl
    case xs_18=>walk_at "m.xs"
    case asn=>walk_at "m.asgs"
    case k=>exact qam rfl
section
variable {C:Cx}{σ:AS}{n:Nat}{KF:Fl→AS→Prop}{KE:Value→Value→AS→Prop}{rest:List Stmt}
theorem SR_while {test:Expr}{body:List Stmt}{pos:Pos} (J:Nat→AS→Prop) {n0:Nat} (h0:J n0 σ)
 (turn:∀ n σ',J n σ'→∃ b,T C σ' test b∧(b=true→SLR C σ' body (fun f σ2=>match f with | .next | .cont=>∃ m,m<n∧J m σ2 | .ret d=>KF (.ret d) σ2 | .brk=>False) (fun V V V=>False))∧(b=false→SLR C σ' rest KF KE)) :
 SLR C σ (.While test body [] pos::rest) KF KE:=.mk fun imm s R=>by
 refine qax (wpC_While ?_)
 refine codeC_while (fun n s'=>∃ σ' imm',imm⊆imm'∧Rel C σ' imm' s'∧J n σ') ?_ n0 ⟨σ,imm,qa2,R,h0⟩
 rintro n s' ⟨σ',i1,hs1,R1,hJ⟩
 obtain ⟨b,ht,hy,hn⟩:=turn n σ' hJ
 refine ht.go i1 s' R1 _ _ fun i2 s2 hs2 R2=>?_
 cases b with
 | false =>
  rw [if_neg (by decide)]
  exact qa4 ((hn rfl).go i2 s2 R2) (fun V V h=>h.up (qa0 hs1 hs2)) fun V V h=>h.up (qa0 hs1 hs2)
 | true =>
  rw [if_pos rfl]
  refine qa4 ((hy rfl).go i2 s2 R2) (fun f s3 ⟨f',σ3,i3,h3,R3,hf,k3⟩=>?_) fun _ _ ⟨_,_,_,_,_,_,x⟩=>x.elim
  cases hf with
  | next=>obtain ⟨m,hm,hJ'⟩:=k3;exact ⟨m,hm,σ3,i3,qa0 hs1 (qa0 hs2 h3),R3,hJ'⟩
  | cont=>obtain ⟨m,hm,hJ'⟩:=k3;exact ⟨m,hm,σ3,i3,qa0 hs1 (qa0 hs2 h3),R3,hJ'⟩
  | brk=>exact k3.elim
  | ret hv=>exact ⟨_,σ3,i3,qa0 hs1 (qa0 hs2 h3),R3,.ret hv,k3⟩
end
theorem SR_S {C:Cx}{σ:AS}{KF:Fl→AS→Prop}{KE:Value→Value→AS→Prop}{st:Stmt}{rest:List Stmt} (h:SL C σ [st] (fun f σ'=>match f with | .next=>SLR C σ' rest KF KE | f=>KF f σ') (fun V V=>False)):SLR C σ (st::rest) KF KE:=SR_step (fun σ'=>SLR C σ' rest KF KE) (SL.toC h) fun V h=>h
theorem Eqv_row (r:Row):Eqv 3 r.d r.d true:=by
 have b:∀ x:Bool,(x == x)=true:=fun x=>by cases x <;> rfl
 have h:qc2 2 [.int r.kind,.int r.stream,.bool r.ends,.bool r.eh,.bool r.padded,.bool r.weighed,.bytes r.data,.int r.more] [.int r.kind,.int r.stream,.bool r.ends,.bool r.eh,.bool r.padded,.bool r.weighed,.bytes r.data,.int r.more] _ :=
  .cons (.int _ _) (.cons (.int _ _) (.cons (.bool _ _) (.cons (.bool _ _) (.cons (.bool _ _) (.cons (.bool _ _) (.cons (.bytes _ _) (.cons (.int _ _) .nil)))))))
 have e:((r.kind == r.kind) && ((r.stream == r.stream) && ((r.ends == r.ends) && ((r.eh == r.eh) && ((r.padded == r.padded) && ((r.weighed == r.weighed) && ((r.data == r.data) && ((r.more == r.more) && true))))))))=true:=by simp
 rw [e] at h
 exact .lst h
theorem Eqv_rows:∀ l:List Row,qc2 3 (l.map Row.d) (l.map Row.d) true
 | []=>.nil
 | r::l=>by
  have h:qc2 3 (r.d::l.map Row.d) (r.d::l.map Row.d) (true && true):=.cons (Eqv_row r) (Eqv_rows l)
  exact h
noncomputable def fTold (c:Int):D→Option D
 | .tup [.int p,d]=>if (decide (p≤c))=true then some d else none
 | _=>none
theorem fTold_all (c:Int) (l:List (Int×Row)):(l.map qb9).filterMap (fTold c)=((l.filter fun p=>decide (p.1≤c)).map Prod.snd).map Row.d:=by
 induction l with
 | nil=>rfl
 | cons p l ih =>
  rw [lmc,List.filterMap_cons,List.filter_cons]
  have e:fTold c (qb9 p)=if (decide (p.1≤c))=true then some p.2.d else none:=rfl
  rw [e]
  by_cases h:decide (p.1≤c)=true
  ·rw [if_pos h,if_pos h]
   dsimp only
   rw [ih];rfl
  ·rw [if_neg h,if_neg h]
   exact ih
theorem cut_part {l:List Int}{c s:Nat} (h:c≤l.length):cut l (some (c:Int)) (some ((c:Int)+(s:Int)))=(l.drop c).take s:=by
 unfold cut
 simp only [Option.elim]
 rw [qbx,show (c:Int)+(s:Int)=((c+s:Nat):Int) from by lia,qbx,Nat.min_eq_left h]
 rcases Nat.le_total (c+s) l.length with h2 | h2
 ·rw [Nat.min_eq_left h2,Nat.add_sub_cancel_left]
 ·rw [Nat.min_eq_right h2,List.take_of_length_le (by rw [List.length_drop];exact Nat.le_refl _),List.take_of_length_le (by rw [List.length_drop];exact Nat.sub_le_of_le_add (by rw [Nat.add_comm];exact h2))]
noncomputable def whB (s:Stmt):List Stmt:=if h:s.ctorIdx=11 then Stmt.While.elim (motive_2:=fun V=>List Stmt) s h (fun V b V V=>b) else []
noncomputable def lawW (P:Params):List Stmt:=whB (((qad (fdAt P 403)).drop 19).headD (.Return none ⟨0,0,0,0⟩))
noncomputable abbrev lLp (sc:D) (st:Int) (ns:List Int) (server bound rows drawn:Option D) (oct:List Int) (ahead:Option D) (tt:Told) (inside tail may wrong preface:Option D) (a sn:Addr) (c tn unit:Int) (size answer:Option D):List Slot:=lSl sc (some (.int st)) (some (.lst (ns.map D.int))) server bound rows drawn (some (.bytes oct)) ahead (some (.lst (tt.told.map qb9))) (some (.str tt.fault)) (some (.int tt.begun)) (some (.int tt.ended)) inside tail may wrong preface (some (.val (.ref a))) (some (.val (.ref sn))) (some (.int c)) (some (.int tn)) (some (.int unit)) size answer
set_option maxHeartbeats 4000000 in
theorem law_turn {C:Cx}{n:Nat}{sc:D}{st:Int}{ns:List Int}{server bound rows drawn ahead inside tail may wrong preface:Option D}{oct:List Int}{tt:Told}{a b dx sn:Addr}{c tn:Nat}{unit m:Int}{size answer:Option D}{tl pre0 pre data:List Int}{B:List FI}{seen:List Row}{x:St2}{MB:List (Addr×AO)}{KF:Fl→AS→Prop}
 (O:Ok C (n+7)) (G:OkR C) (hcap:C.cap=[]) (hns:0<ns.length∧ns.length≤8) (hoct:∀ k∈oct,0≤k∧k<256) (hol:oct.length≤200000) (htl:tt.told.length≤1000000) (hu:1≤unit∧unit≤100000) (hp0:pre0.length≤24) (hm:m.natAbs<2 ^ 64)
 (S:Stt m tt tl pre0 oct c pre data B seen) (hx:x.data=data) (hB:AbsL x.H B) (hI:IB a b dx m pre pre.length x MB) (hc:c<oct.length)
 (kret:∀ σ,Z308 σ.ms→KF (.ret (.bool true)) σ)
 (knext:∀ (c':Nat) (pre' data':List Int) (B':List FI) (seen':List Row) (x':St2) (MB':List (Addr×AO)) (size' answer':Option D),Stt m tt tl pre0 oct c' pre' data' B' seen'→x'.data=data'→AbsL x'.H B'→IB a b dx m pre' pre'.length x' MB'→c≤c'→c'≤oct.length→(tn % 2=1→c<c') →
  KF .next ⟨lLp sc st ns server bound rows drawn oct ahead tt inside tail may wrong preface a sn (c':Int) ((tn+1:Nat):Int) unit size' answer',MB'++[(sn,.lst (seen'.map Row.d))]⟩) :
 SLR C ⟨lLp sc st ns server bound rows drawn oct ahead tt inside tail may wrong preface a sn (c:Int) (tn:Int) unit size answer,MB++[(sn,.lst (seen.map Row.d))]⟩ (lawW C.w.params) KF (fun V V V=>False):=by
 conv=>enter [3];whnf
 have hnl:((ns.map D.int).length:Int)=(ns.length:Int):=by rw [lem]
 have hnn:(0:Int)<(ns.length:Int):=by lia
 have hmod0:0≤(tn:Int) % (ns.length:Int):=Int.emod_nonneg _ (by lia)
 have hmod1:(tn:Int) % (ns.length:Int)<(ns.length:Int):=Int.emod_lt_of_pos _ hnn
 have hit:(ns.map D.int)[((tn:Int) % (ns.length:Int)).toNat]?=some (.int (ns.getD ((tn:Int) % (ns.length:Int)).toNat 0)):=qcf ((Int.toNat_lt hmod0).mpr hmod1)
 generalize hv:ns.getD ((tn:Int) % (ns.length:Int)).toNat 0=v at hit
 have hXs:∀ {ρ:List Slot}{ms:List (Addr×AO)}{d:D}{e:Expr},X C ⟨ρ,ms⟩ e d→X C ⟨ρ,ms⟩ e d:=fun h=>h
 refine SR_S ?_
 refine' S_assign' (d:=.int ((v % 25+(tn:Int) % 2) * unit * (if (st / 2000 % 3 == 2)=true then 50 else 1))) (by assumption) (X_bin (X_bin (X_bin (X_bin (qbh (ds:=ns.map D.int) (i:=(tn:Int) % (ns.length:Int)) (d:=.int v) ?a1_2 ?a2_2 hmod0 hit (by lia)) X_int (Op_mod (by decide))) ?b1_2 Op_add) ?u1_2 (Op_mulR ⟨by lia,by lia⟩)) (X_iteI ?t1_2 (fun V=>X_int) (fun V=>X_int)) (Op_mulR ?z1_2)) ?put ?k rfl
 case a1_2=>walk_at "m.x"
 case a2_2=>rw [← hnl];rw [← hnl] at hnn;walk_at "m.x"
 case b1_2=>walk_at "m.x"
 case u1_2=>walk_at "m.x"
 case t1_2=>walk_at "m.t"
 case z1_2=>split <;> decide
 case put=>walk_at "m.put"
 case k =>
 have hs0:0≤(v % 25+(tn:Int) % 2) * unit * (if (st / 2000 % 3 == 2)=true then 50 else 1):=Int.mul_nonneg (Int.mul_nonneg (by lia) (by lia)) (by split <;> decide)
 have hs1:tn % 2=1→1≤(v % 25+(tn:Int) % 2) * unit * (if (st / 2000 % 3 == 2)=true then 50 else 1):=fun h=>by
  have h1:1≤v % 25+(tn:Int) % 2:=by lia
  have h2:1≤(v % 25+(tn:Int) % 2) * unit:=Int.le_trans (by decide:(1:Int)≤1 * 1) (Int.mul_le_mul h1 hu.1 (by decide) (by lia))
  exact Int.le_trans (by decide:(1:Int)≤1 * 1) (Int.mul_le_mul h2 (by split <;> decide) (by decide) (Int.le_trans (by decide) h2))
 generalize (v % 25+(tn:Int) % 2) * unit * (if (st / 2000 % 3 == 2)=true then 50 else 1)=sz at hs0 hs1 ⊢
 obtain ⟨s,rfl⟩:=Int.eq_ofNat_of_zero_le hs0
 refine qam ?_
 refine SR_S ?_
 walk_at "m.assign"
 case k =>
 refine qam ?_
 rw [show (tn:Int)+1=((tn+1:Nat):Int) from by lia]
 have hpart:cut oct (some (c:Int)) (some ((c:Int)+(s:Int)))=(oct.drop c).take s:=cut_part (by lia)
 have hpl:((oct.drop c).take s).length=min s (oct.length - c):=by rw [List.length_take,List.length_drop]
 have hst:=stt_step S (part:=(oct.drop c).take s) (k:=s) rfl
 have hpre:pre.length≤24:=by rw [S.1,List.length_drop];exact Nat.le_trans (Nat.sub_le _ _) hp0
 have hz:=S.2.1
 have hfl:(x.H.map HF.data).flatten.length=flat B:=by rw [hB.data]
 rw [← hx] at hst hz
 have F:=fn_fed (P:=C.w.params) (n:=n) (sn:=sn) (part:=(oct.drop c).take s) (seen:=seen) hm hpre hB hI (fun k hk=>hoct k (List.mem_of_mem_drop (List.mem_of_mem_take hk))) (by rw [hfl,hpl];exact Nat.le_trans (Nat.le_trans (Nat.add_le_add_right (Nat.le_add_left _ _) _) (sumX hc hz)) (Nat.le_trans hol (by decide))) (by rw [hpl];exact Nat.le_trans (Nat.le_trans (Nat.add_le_add_right (Nat.le_add_right _ _) _) (sumX hc hz)) (Nat.le_trans hol (by decide)))
 generalize hR:fedS m pre x.data B ((oct.drop c).take s) seen=R at hst F
 generalize hw:min pre.length ((oct.drop c).take s).length=w at hst F
 refine' qbo (K:=fun d σ'=>d=.str R.ans∧∃ MB',σ'=⟨lLp sc st ns server bound rows drawn oct ahead tt inside tail may wrong preface a sn (c:Int) ((tn+1:Nat):Int) unit (some (.int (s:Int))) answer,MB'++[(sn,.lst (R.seen.map Row.d))]⟩∧Z308 MB'∧(R.ans=""→∃ x',x'.data=R.data∧AbsL x'.H R.B∧IB a b dx m (pre.drop w) (pre.drop w).length x' MB')) O
  (XR_name (f:=398) (M2:=[]) O G ?f1_6 (by kernel_rfl) ?as_6 (by rw [List.append_nil]) F ?q_6 ?r_6) ?kk_6 rfl
 case f1_6=>exact X_glob O (by walk_at "m.has") g_law_fed
 case as_6 =>
  refine' .cons ?e1_7 (.cons (d:=.bytes ((oct.drop c).take s)) ?e2_7 (.cons ?e3_7 .nil fun V V=>rfl) fun V V=>rfl) fun V V=>rfl
  case e1_7=>walk_at "m.x"
  case e2_7=>rw [← hpart];walk_at "m.x"
  case e3_7=>walk_at "m.x"
 case q_6 =>
  rintro d M' ⟨MB',rfl,rfl,hZ,h⟩
  exact ⟨rfl,MB',by rw [List.append_nil],hZ,h⟩
 case r_6=>rintro cls c2 M' h;exact h.elim
 case kk_6 =>
 rintro _ _ ⟨rfl,MB',rfl,hZ,hnew⟩
 refine' ⟨lLp sc st ns server bound rows drawn oct ahead tt inside tail may wrong preface a sn (c:Int) ((tn+1:Nat):Int) unit (some (.int (s:Int))) (some (.str R.ans)),?put,?_⟩
 case put=>walk_at "m.put"
 refine SR_S ?_
 refine' S_assignCell (d:=.int ((c+((oct.drop c).take s).length:Nat):Int)) (by assumption) hcap ?v ?put ?k rfl
 case v =>
  rw [show ((c+((oct.drop c).take s).length:Nat):Int)=if ((oct.length:Nat):Int)<(c:Int)+(s:Int) then ((oct.length:Nat):Int) else (c:Int)+(s:Int) from by rw [hpl];exact min_if hc]
  refine' X_minI O ?m1_11 ?m2_11
  case m1_11=>exact X_glob O (by walk_at "m.has") g_min
  case m2_11=>walk_at "m.xs"
 case put=>walk_at "m.put"
 case k =>
 refine qam ?_
 have hseen:(tt.told.filter fun p=>decide (p.1≤((c+((oct.drop c).take s).length:Nat):Int))).map Prod.snd=R.seen:=by
  rcases hst with ⟨_,h⟩ | h
  ·exact h.2.2.1.2
  ·rw [List.filter_eq_self.mpr fun p hp=>by simpa using h.2.2.2.2 p hp]
   exact h.2.2.2.1
 have hc1:c≤c+((oct.drop c).take s).length∧c+((oct.drop c).take s).length≤oct.length∧(tn % 2=1→c<c+((oct.drop c).take s).length):=⟨Nat.le_add_right _ _,by rw [hpl];exact Nat.le_trans (Nat.add_le_add_left (Nat.min_le_right _ _) c) (Nat.le_of_eq (Nat.add_sub_cancel' (Nat.le_of_lt hc))),fun h=>by rw [hpl];exact Nat.lt_add_of_pos_right (Nat.lt_min.mpr ⟨Int.ofNat_le.mp (hs1 h),Nat.sub_pos_of_lt hc⟩)⟩
 generalize c+((oct.drop c).take s).length=c' at hst hseen hc1 ⊢
 have hsl:R.seen.length≤1000000:=by
  rw [← hseen,lem]
  exact Nat.le_trans (List.length_filter_le _ _) htl
 refine' SR_if (b:=false) (T_cmp (b:=!true) (hm:=rfl) ?s1_13 ?s2_13 (Cmp_neO O (mar _ (.head _)) (Eqv_rows R.seen) (by decide))) (fun h=>by cases h) (fun V=>?_)
 case s1_13=>walk_at "m.x"
 case s2_13 =>
  rw [← hseen]
  refine qf3 (items:=tt.told.map qb9) [⟨".0",.local,none⟩,⟨"place",.local,none⟩,⟨"row",.local,none⟩,⟨"came",.cell,some (.int (c':Int))⟩] (fTold (c':Int)) O (qdl ?s3_14 fun V=>rfl) (by kernel_rfl) (by kernel_rfl) (by rw [lem];lia) ?turn2_14 (fTold_all _ _)
  case s3_14=>walk_at "m.x"
  case turn2_14 =>
   intro CC i2 d2 OC hP2 hd2
   obtain ⟨z,hz,rfl⟩:=getElem?_map_inv hd2
   refine' ⟨_,qdu OC ?p1_15,?p2_15,?p3_15⟩
   case p1_15 =>
    show Asgs _ _ [.int z.1,z.2.d] _ _
    refine' .cons (Asg_name OC ?q1_16) (.cons (Asg_name OC ?q2_16) .nil fun V V=>rfl) fun V V=>rfl
    case q1_16=>walk_at "m.put"
    case q2_16=>walk_at "m.put"
   case p2_15=>repeat constructor
   case p3_15 =>
    refine' Item.test (b:=decide (z.1≤(c':Int))) (d:=z.2.d) ?t3_17 (fun V=>?e3_17)
    case t3_17=>walk_at "m.t"
    case e3_17=>walk_at "m.x"
 dsimp only [lna]
 refine' SR_if (b:=R.ans != "") ?t4_18 (fun hne=>?_) (fun heq=>?_)
 case t4_18=>walk_at "m.t"
 ·have hne':R.ans≠"":=by simpa using hne
  rcases hst with ⟨h,_⟩ | hL
  ·exact absurd h hne'
  obtain ⟨_,h1,h2,h3,h4⟩:=hL
  have hlen:((R.seen.map Row.d).length:Int)=((tt.told.map qb9).length:Int):=by rw [← h3,lem,lem,lem]
  have b1:decide (tt.begun<(c':Int))=true:=decide_eq_true h2
  have b2:(((R.seen.map Row.d).length:Int) == ((tt.told.map qb9).length:Int))=true:=by rw [hlen];exact beq_self_eq_true _
  have b3:(R.ans == tt.fault)=true:=by rw [h1];exact beq_self_eq_true _
  dsimp only [lca,lna]
  refine' SR_return (d:=.bool true) ?v (kret _ hZ.app)
  case v =>
   rw [show (true:Bool)=(decide (tt.begun<(c':Int)) && ((((R.seen.map Row.d).length:Int) == ((tt.told.map qb9).length:Int)) && ((R.ans == tt.fault) || false))) from by rw [b1,b2,b3];rfl]
   refine' Bs.run (.and ?x1_20 fun V=>.and (X_cmp (hm:=rfl) (X_lenO ?l1_20 (.cons ?l2_20 .nil fun V V=>rfl) (mar _ (.head _)) ?l3_20) ?x2_20 Cmp_eq) fun V=>.one (Bs.run (.or ?x3_20 fun hf=>?x4_20) _)) _
   case x1_20=>walk_at "m.x"
   case l1_20=>exact X_glob O (by walk_at "m.has") g_len
   case l2_20=>walk_at "m.x"
   case l3_20=>rw [lem];lia
   case x2_20 =>
    refine' X_lenL ?y1_21 (.cons ?y2_21 .nil fun V V=>rfl) (by rw [lem];lia)
    case y1_21=>exact X_glob O (by walk_at "m.has") g_len
    case y2_21=>walk_at "m.x"
   case x3_20=>walk_at "m.x"
   case x4_20=>rw [b3] at hf;cases hf
 ·have heq':R.ans="":=by simpa using heq
  rcases hst with ⟨_,hS⟩ | hL
  case inr=>exact absurd heq' hL.1
  dsimp only [lna]
  have hq:=hS.2.2.1.1
  refine' SR_if (b:=(tt.fault != "") && decide (tt.ended≤(c':Int))) ?t5_22 (fun hb=>?_) (fun V=>?_)
  case t5_22=>walk_at "m.t"
  ·rw [Bool.and_eq_true,decide_eq_true_eq] at hb
   have:=hq (by simpa using hb.1)
   lia
  ·obtain ⟨x',hx1,hx2,hx3⟩:=hnew heq'
   dsimp only [lna]
   exact qaw (knext c' _ _ _ _ x' MB' _ _ hS hx1 hx2 hx3 hc1.1 hc1.2.1 hc1.2.2)
theorem qg8 {m:Int}:∀ (rest:List Raw) (told:List (Int×Row)) (block:List Row) (place:Int),(qaf m rest told block place).told.length≤told.length+rest.length
 | [],told,block,place=>Nat.le_refl _
 | r::rest,told,block,place=>by
  cases hd:sDue r.kind r.bits r.stream r.body m with
  | fault f=>rw [qce hd];exact Nat.le_add_right _ _
  | row row =>
   rw [qer hd]
   split
   ·exact Nat.le_add_right _ _
   split
   ·split
    ·have:=qg8 (m:=m) rest told (block++[row]) (place+(9+(r.body.length:Int)))
     rw [List.length_cons];lia
    ·refine Nat.le_trans (qg8 (m:=m) rest _ _ _) ?_
     rw [lea,List.length_singleton,List.length_cons];lia
   ·refine Nat.le_trans (qg8 (m:=m) rest _ _ _) ?_
    rw [lea,List.length_singleton,List.length_cons];lia
theorem lTold_len {st:Int}{rows:List Raw}:(qb3 st rows).told.length≤rows.length:=by
 have h:=qg8 (m:=qai st) rows [] [] (if lSrv st=true then 24 else 0)
 unfold qb3
 split
 ·exact Nat.zero_le _
 ·unfold qfa qec
  simpa using h
theorem SR_split2 {C:Cx}{ρ:List Slot}{p:Addr×AO}{M1:List (Addr×AO)}{ss:List Stmt}{KF:Fl→AS→Prop}{KE:Value→Value→AS→Prop} (h:SLR C ⟨ρ,M1++[p]⟩ ss KF KE):SLR C ⟨ρ,p::M1⟩ ss KF KE:=.mk fun imm s R=>h.go imm s (R.perm (List.perm_append_singleton p M1).symm)
theorem loop_dec {L c c' tn:Nat} (h1:c≤c') (h2:c'≤L) (h3:tn % 2=1→c<c'):2 * (L - c')+(tn+1+1) % 2<2 * (L - c)+(tn+1) % 2:=by
 rw [show (tn+1+1) % 2=tn % 2 from Nat.add_mod_right tn 2,Nat.add_mod tn 1 2]
 rcases Nat.mod_two_eq_zero_or_one tn with h | h
 ·rw [h];exact Nat.lt_succ_of_le (Nat.mul_le_mul_left 2 (Nat.sub_le_sub_left h1 L))
 ·rw [h];exact Nat.mul_le_mul_left 2 (Nat.sub_lt_sub_left (Nat.lt_of_lt_of_le (h3 h) h2) (h3 h))
inductive LInv (sc:D) (st:Int) (ns:List Int) (server bound rows drawn ahead inside tail may wrong preface:Option D) (oct:List Int) (tt:Told) (a b dx sn:Addr) (unit m:Int) (tl pre0:List Int) (k:Nat) (σ:AS):Prop
 | mk (c tn:Nat) (pre data:List Int) (B:List FI) (seen:List Row) (x:St2) (MB:List (Addr×AO)) (size answer:Option D):Stt m tt tl pre0 oct c pre data B seen→x.data=data→AbsL x.H B→IB a b dx m pre (pre.length:Int) x MB→c≤oct.length→k=2 * (oct.length - c)+(tn+1) % 2 →
  σ=⟨lLp sc st ns server bound rows drawn oct ahead tt inside tail may wrong preface a sn (c:Int) (tn:Int) unit size answer,MB++[(sn,.lst (seen.map Row.d))]⟩→LInv sc st ns server bound rows drawn ahead inside tail may wrong preface oct tt a b dx sn unit m tl pre0 k σ
theorem law_loop {C:Cx}{n:Nat}{sc:D}{st:Int}{ns:List Int}{server bound rows drawn ahead inside tail may wrong preface:Option D}{oct:List Int}{tt:Told}{a b dx sn:Addr}{unit m:Int}{tl pre0:List Int}{MB0:List (Addr×AO)}
 (O:Ok C (n+10)) (G:OkR C) (hcap:C.cap=[]) (hns:0<ns.length∧ns.length≤8) (ho1:∀ k∈oct,0≤k∧k<256) (ho2:oct.length≤200000) (htl:tt.told.length≤1000000) (hu:1≤unit∧unit≤100000) (hp0:pre0.length≤24) (hm:m.natAbs<2 ^ 64)
 (hS0:Stt m tt tl pre0 oct 0 pre0 [] [] []) (hI0:IB a b dx m pre0 (pre0.length:Int) ⟨[],[],none⟩ MB0) :
 SLR C ⟨lLp sc st ns server bound rows drawn oct ahead tt inside tail may wrong preface a sn 0 0 unit none none,MB0++[(sn,.lst [])]⟩ ((qad (fdAt C.w.params 403)).drop 19) (fun fl σ'=>fl=.ret (.bool true)∧Z308 σ'.ms) (fun V V V=>False):=by
 conv=>enter [3];whnf
 refine' SR_while (n0:=2 * oct.length+1) (LInv sc st ns server bound rows drawn ahead inside tail may wrong preface oct tt a b dx sn unit m tl pre0) ⟨0,0,pre0,[],[],[],⟨[],[],none⟩,MB0,none,none,hS0,rfl,.nil,hI0,Nat.zero_le _,rfl,rfl⟩ ?turn_3
 case turn_3 =>
  rintro m σ' ⟨c,tn,pre,data,B,seen,x,MB,size,answer,h1,h2,h3,h4,h5,rfl,rfl⟩
  refine' ⟨decide ((c:Int)<(oct.length:Int)),?t_4,fun hc=>?_,fun V=>?_⟩
  case t_4=>walk_at "m.t"
  ·have hc:c<oct.length:=by have:=of_decide_eq_true hc;lia
   refine law_turn (n:=n+3) O G hcap hns ho1 ho2 htl hu hp0 hm h1 h2 h3 h4 hc (fun V hZ=>⟨rfl,hZ⟩) ?_
   intro c' pre' data' B' seen' x' MB' size' answer' g1 g2 g3 g4 g5 g6 g7
   exact ⟨2 * (oct.length - c')+(tn+1+1) % 2,loop_dec g5 g6 g7,c',tn+1,pre',data',B',seen',x',MB',size',answer',g1,g2,g3,g4,g6,rfl,rfl⟩
  ·refine' SR_return (d:=.bool true) ?v ⟨rfl,h4.z.app⟩
   case v=>walk_at "m.x"
set_option maxHeartbeats 4000000 in
theorem law_b {C:Cx}{n:Nat}{sc:D}{st:Int}{ns:List Int}{rows:List Raw}{srows drawn ahead inside tail may wrong preface:Option D}
 (O:Ok C (n+10)) (G:OkR C) (hcap:C.cap=[]) (hns:0<ns.length∧ns.length≤8) (hro:∀ r∈rows,qdr r∧r.body.length≤265) (hrl:rows.length≤536) :
 SLR C ⟨lSl sc (some (.int st)) (some (.lst (ns.map D.int))) (some (.bool (lSrv st))) (some (.int (qai st))) srows drawn (some (.bytes (lOct st rows))) ahead (some (.lst ((qb3 st rows).told.map qb9))) (some (.str (qb3 st rows).fault)) (some (.int (qb3 st rows).begun)) (some (.int (qb3 st rows).ended)) inside tail may wrong preface none none none none none none none,[(308,.raw (tabO #[]))]⟩
  ((qad (fdAt C.w.params 403)).drop 13) (fun fl σ'=>fl=.ret (.bool true)∧Z308 σ'.ms) (fun V V V=>False):=by
 obtain ⟨ho1,ho2⟩:=lOct_ok (st:=st) hro
 have hS0:=stt0 (st:=st) fun r hr=>(hro r hr).1
 have htl:=@lTold_len st rows
 have hbd:=qh5 st
 have hp0:(qbb st).length≤24:=by unfold qbb;split <;> decide
 have hpq:(if lSrv st=true then qfj else [])=qbb st:=rfl
 have hpl:(if lSrv st=true then 24 else 0:Int)=((qbb st).length:Int):=by unfold qbb;split <;> rfl
 conv=>enter [3,2];whnf
 simp only [List.drop_succ_cons,List.drop_zero]
 generalize lOct st rows=oct at ho1 ho2 hS0 ⊢
 generalize qb3 st rows=tt at htl hS0 ⊢
 have ow:ownA C.w.params 330 "max_frame_size"=true:=by kernel_rfl
 have sw:setA C.w.params 330 "max_frame_size"=true:=by kernel_rfl
 refine' qbo (K:=fun d σ'=>∃ a dx b l,d=.val (.ref a)∧σ'=⟨lSl sc (some (.int st)) (some (.lst (ns.map D.int))) (some (.bool (lSrv st))) (some (.int (qai st))) srows drawn (some (.bytes oct)) ahead (some (.lst (tt.told.map qb9))) (some (.str tt.fault)) (some (.int tt.begun)) (some (.int tt.ended)) inside tail may wrong preface none none none none none none none,[(l,.lst []),(b,.ba []),(a,.inst 330 dx),(dx,.dict (fbFs b l 0 (qbb st) ((qbb st).length:Int))),(308,.raw (tabO #[]))]⟩) O
  (XR_make (k:=n+9) (fI:=292) (Cc:=330) O G ?hx_7 (by kernel_rfl) (.cons ?e1_7 .nil fun V V=>rfl) (by kernel_rfl) (by kernel_rfl) (by kernel_rfl) (fun a dx=>(fn_fb (srv:=lSrv st) (n:=n+8) a dx)) ?kq_7) ?kk_7 rfl
 case hx_7=>exact X_glob O (by walk_at "m.has") g_FrameBuffer
 case e1_7=>walk_at "m.x"
 case kq_7 =>
  rintro a dx M' ⟨b,l,rfl⟩
  rw [hpl,hpq]
  exact ⟨a,dx,b,l,rfl,rfl⟩
 case kk_7 =>
 rintro _ _ ⟨a,dx,b,l,rfl,rfl⟩
 refine' ⟨lSl sc (some (.int st)) (some (.lst (ns.map D.int))) (some (.bool (lSrv st))) (some (.int (qai st))) srows drawn (some (.bytes oct)) ahead (some (.lst (tt.told.map qb9))) (some (.str tt.fault)) (some (.int tt.begun)) (some (.int tt.ended)) inside tail may wrong preface (some (.val (.ref a))) none none none none none none,?put,?_⟩
 case put=>walk_at "m.put"
 refine' SR_set (x:=a) (Cc:=330) (dx:=dx) (fs:=fbFs b l 0 (qbb st) ((qbb st).length:Int)) (fs':=fbFs b l (qai st) (qbb st) ((qbb st).length:Int)) (ms':=[(l,.lst []),(b,.ba []),(a,.inst 330 dx),(dx,.dict (fbFs b l (qai st) (qbb st) ((qbb st).length:Int))),(308,.raw (tabO #[]))]) O ?a_9 ?b_9 ?c_9 ?d_9 ?e_9 (by simp) sw ?k rfl
 case a_9=>walk_at "m.x"
 case b_9=>walk_at "m.x"
 case c_9=>walk_at "m.mem"
 case d_9=>walk_at "m.mput"
 case e_9=>walk_at "m.fput"
 case k =>
 refine SR_S ?_
 walk_at "m.newList"
 case k =>
 intro sn
 refine' ⟨lSl sc (some (.int st)) (some (.lst (ns.map D.int))) (some (.bool (lSrv st))) (some (.int (qai st))) srows drawn (some (.bytes oct)) ahead (some (.lst (tt.told.map qb9))) (some (.str tt.fault)) (some (.int tt.begun)) (some (.int tt.ended)) inside tail may wrong preface (some (.val (.ref a))) (some (.val (.ref sn))) none none none none none,?put,qam ?_⟩
 case put=>walk_at "m.put"
 refine SR_S ?_
 refine' S_assignCell (d:=.int 0) (by assumption) hcap ?v ?put ?k rfl
 case v=>walk_at "m.x"
 case put=>walk_at "m.put"
 case k =>
 refine qam ?_
 refine SR_S ?_
 refine' S_assign' (d:=.int 0) (by assumption) ?v ?put ?k rfl
 case v=>walk_at "m.x"
 case put=>walk_at "m.put"
 case k =>
 refine qam ?_
 refine SR_S ?_
 walk_at "m.assign"
 case k =>
 refine qam ?_
 have hu:1≤1+(oct.length:Int) / 100∧1+(oct.length:Int) / 100≤100000:=by lia
 generalize 1+(oct.length:Int) / 100=unit at hu ⊢
 have hI0:IB a b dx (qai st) (qbb st) ((qbb st).length:Int) ⟨[],[],none⟩ [(l,.lst []),(b,.ba []),(a,.inst 330 dx),(dx,.dict (fbFs b l (qai st) (qbb st) ((qbb st).length:Int))),(308,.raw (tabO #[]))]:=by
  refine ⟨l,#[],[],?_,?_,⟨fun h hh=>(nomatch hh),Nat.zero_le _,Nat.zero_le _,fun k hk=>(nomatch hk),fun F h=>nomatch h⟩⟩
  ·exact trivial
  ·show List.Perm _ ([(b,AO.ba []),(l,.lst []),(a,.inst 330 dx),(dx,.dict (fbFs b l (qai st) (qbb st) ((qbb st).length:Int))),(308,.raw (tabO #[]))]++([]++[]))
   walk_at "perm"
 refine SR_split2 (M1:=[(l,.lst []),(b,.ba []),(a,.inst 330 dx),(dx,.dict (fbFs b l (qai st) (qbb st) ((qbb st).length:Int))),(308,.raw (tabO #[]))]) (p:=(sn,.lst [])) ?_
 obtain ⟨MB0,hMB⟩:∃ M,M=[(l,AO.lst []),(b,.ba []),(a,.inst 330 dx),(dx,.dict (fbFs b l (qai st) (qbb st) ((qbb st).length:Int))),(308,.raw (tabO #[]))]:=⟨_,rfl⟩
 rw [← hMB] at hI0 ⊢
 clear hMB
 exact law_loop O G hcap hns ho1 (by lia) (Nat.le_trans htl (by lia)) hu hp0 (by lia) hS0 hI0
theorem SR_ofSL {C:Cx}{σ:AS}{J:AS→Prop}{ss:List Stmt}{KF:Fl→AS→Prop}{KE:Value→Value→AS→Prop} (h:SL C σ ss (fun fl σ'=>fl=.next∧J σ') (fun V V=>False)):SLR C σ ss (fun f σ'=>match f with | .next=>J σ' | f=>KF f σ') KE:=.mk fun imm s R =>
 qa4 ((SC.toR (KE:=KE) (SL.toC h)).go imm s R) (fun V V h=>h.of fun V V h=>by obtain ⟨e,k⟩:=h;subst e;exact k) fun V V x=>x
theorem law_all {C:Cx}{n:Nat}{sc:List Int} (O:Ok C (n+12)) (G:OkR C) (hcap:C.cap=[]) (hsc:sc.length≤63) :
 SLR C ⟨qa7 (fdAt C.w.params 403).scope.names ["script"] [.lst (sc.map D.int)],[(308,.raw (tabO #[]))]⟩ (qad (fdAt C.w.params 403)) (fun fl σ'=>fl=.ret (.bool true)∧Z308 σ'.ms) (fun V V V=>False):=by
 obtain ⟨hn,hn8⟩:=@qh4 sc
 obtain ⟨hro,hrl⟩:=qg6 (qep sc)
 refine qfu 8 _ (SR_ofSL (law_a1 O hcap hsc)) ?_
 rintro _ ⟨drawn,rfl⟩
 refine qfu 5 _ (SR_ofSL (law_a2 O hro (by lia))) ?_
 rintro _ ⟨may,wrong,preface,rfl⟩
 rw [List.drop_drop]
 exact law_b (n:=n+2) O G hcap ⟨hn,hn8⟩ hro (by lia)
section
open PySem.W.X
noncomputable abbrev topCx (prog:Program) (w:World) (A:Around) (base:Heap) (fd:FuncData) (L f:Addr) (os:OsState):Cx :=
 { prog:=prog,w:=w,A:=A.deeper (callEnvC fd L f),env:=callEnvC fd L f,base:=base,hid:=[],outs:=[],gens:=#[],os:=os,cap:=[],capH:=fun V h=>nomatch h }
theorem enterTop {prog:Program}{w:World}{A:Around}{base:Heap}{s:Shared}{n:Nat}{imm:List Cell}{M1:List (Addr×AO)}{f:Addr}{fd:FuncData}{body:List Stmt}{ps:List Str}{vs:List Value}{ds:List D}{o1:List Cell}
 (FR:qdn w.params f fd body ps) (hkeep:∀ b o,base.get? b=some o→s.heap.get? b=some o) (hsz:base.objs.size=s.heap.objs.size) (kin:(K39 w.params).In base) (htop:TopAt base)
 (hdep:A.depth+1+n<recursionLimit) (hun:A.units+3+20 * n+20<cLine) (hh:A.handled=none) (ho1:∀ q∈o1,s.heap.get? q.1=some q.2∧base.get? q.1=none) (himm:∀ q∈imm,s.heap.get? q.1=some q.2∧base.get? q.1=none)
 (nd1:(o1.map (·.1)).Nodup) (ap1:∀ q∈imm,q.1 ∉ o1.map (·.1)) (mu1:Muts prog w imm o1 M1) (hv:DAll imm vs ds) (hg:AllBare s.gens) {s₁:Shared}
 (x:InCallC s (callEnvC fd s.heap.objs.size f).locals (bindL (callEnvC fd s.heap.objs.size f).kindOf (ps.zip vs) fun V=>none) (callEnvC fd s.heap.objs.size f).cells
  (bindC (callEnvC fd s.heap.objs.size f).kindOf (ps.zip vs) fun V=>none) s₁) :
 Ok (topCx prog w A base fd s.heap.objs.size f s.os) n∧∃ m' kc',RelX (topCx prog w A base fd s.heap.objs.size f s.os) ⟨qa7 fd.scope.names ps ds,M1⟩ imm s₁ m' o1 kc' []:=by
 have pk:=List.all_eq_true.mp FR.pk
 obtain ⟨h₁,tk,rfl,hk₁⟩:=x.done
 have hcells:(callEnvC fd s.heap.objs.size f).cells=cellsFrom (s.heap.objs.size+1) fd.scope.names []:=rfl
 have cnd:=qbs fd.scope.names (s.heap.objs.size+1) FR.nd
 obtain ⟨kc',NC,Y⟩:=Cl.news (h₀:=s.heap) (L:=s.heap.objs.size) (Nat.le_refl _) (cs:=cellsFrom (s.heap.objs.size+1) fd.scope.names []) (h:=h₁)
  (cm:=bindC (callEnvC fd s.heap.objs.size f).kindOf (ps.zip vs) fun V=>none) fun y c hm=>⟨x.cell y c (qa5 cnd hm),x.above y c hm⟩
 have lt:∀ {a:Addr}{o:Obj},s.heap.get? a=some o→a≠s.heap.objs.size:=fun e=>Nat.ne_of_lt (Heap.lt_size e)
 have kcF:∀ q∈kc',s.heap.get? q.1=none:=fun q hq=>(NC q hq).2.2
 have old:∀ {a:Addr}{o:Obj},s.heap.get? a=some o→a ∉ kc'.map (·.1):=fun e hm=>by
  obtain ⟨q,hq,rfl⟩:=mmj hm
  rw [kcF q hq] at e;cases e
 have hnd:(kc'.map (·.1)).Nodup:=by
  rw [qd5 Y]
  have:=x.apart
  rw [hcells] at this
  exact List.pairwise_map.mpr this
 refine ⟨{
  fk:=FR.hk,gl:=FR.gl,bi:=FR.bi,dep:=hdep,un:=hun,hn:=hh,nb:=fun y k hy=>by
   have:=List.all_eq_true.mp FR.nb (y,k) (qan hy)
   simpa using this
  ci:=fun y z c h1 h2=>cells_inj x.apart h1 h2,kin:=kin,top:=htop },bindL (callEnvC fd s.heap.objs.size f).kindOf (ps.zip vs) fun V=>none,kc',?_⟩
 exact {
  fr:=⟨x.toInCall.ns,fun b o e=>hk₁ b o (hkeep b o e),Nat.le_of_eq hsz⟩
  nw:=fun q hq=>by
   rcases maj hq with h | h
   ·have:=ho1 q h;exact ⟨hk₁ _ _ this.1,lt this.1,this.2⟩
   rcases maj h with h | h
   ·refine ⟨(NC q h).1,(NC q h).2.1,?_⟩
    cases hq:base.get? q.1 with
    | none=>rfl
    | some o=>have:=hkeep _ _ hq;rw [kcF q h] at this;cases this
   rcases maj h with h | h
   ·have:=himm q h;exact ⟨hk₁ _ _ this.1,lt this.1,this.2⟩
   ·cases h
  mu:=mu1
  kd:=qf0 Y
  nd:=by
   rw [lma,List.nodup_append]
   refine ⟨nd1,hnd,fun a ha b hb e=>?_⟩
   obtain ⟨q,hq,rfl⟩:=mmj ha
   exact old (ho1 q hq).1 (e ▸ hb)
  ap:=fun q hq h=>by
   have hq:q∈imm:=by
    rcases maj hq with h | h
    ·exact h
    ·cases h
   rw [lma] at h
   rcases maj h with h | h
   ·exact ap1 q hq h
   ·exact old (himm q hq).1 h
  ah:=fun q hq h=>by cases h
  hn:=List.nodup_nil
  ou:=.nil
  nm:=by
   show ((qa7 fd.scope.names ps ds).map (·.name)).Nodup
   unfold qa7
   rw [List.map_map]
   exact FR.nd
  kn:=fun p hp=>by
   obtain ⟨y,hy,rfl⟩:=mmj hp
   exact qa5 FR.nd hy
  va:=fun p hp d hd=>by
   obtain ⟨⟨y,k⟩,hy,rfl⟩:=mmj hp
   obtain ⟨v,h1,h2⟩:=qfc hv hd
   have hky:fd.scope.names.lookup y=some k:=qa5 FR.nd hy
   have hyp:y∈ps:=(List.of_mem_zip (qan h1)).1
   rcases Bool.or_eq_true_iff.mp (pk y hyp) with h | h
   ·have h:fd.scope.names.lookup y=some .local:=by simpa using h
    rw [hky] at h;cases h
    exact .loc (qgj _ ps vs _ y v FR.pn h1 hky) h2
   ·have h:fd.scope.names.lookup y=some .cell:=by simpa using h
    rw [hky] at h;cases h
    obtain ⟨c,hc⟩:=qat (x:=y) fd.scope.names (s.heap.objs.size+1) [] (.inl (qan hky))
    obtain ⟨o,ho,hod⟩:=qby Y hc
    exact .cell (qa5 cnd hc) ho (hod.trans (by rw [qgk _ ps vs _ y v FR.pn h1 hky])) h2
  cc:=fun p hp hk=>by
   obtain ⟨⟨y,k⟩,hy,rfl⟩:=mmj hp
   have hk:k=.cell:=hk
   subst hk
   obtain ⟨c,hc⟩:=qat (x:=y) fd.scope.names (s.heap.objs.size+1) [] (.inl hy)
   obtain ⟨o,ho,hod⟩:=qby Y hc
   exact ⟨c,o,qa5 cnd hc,.inl ho⟩
  gn:=⟨fun i g h=>by simp at h,hg⟩
  so:=rfl }
end
section
open PySem.W.X
section
variable {h:Heap}{aA:Addr}{oA:Obj}{vs:Array Value}{nn:Nat}
theorem base_K {K:Frag} (h1:K.lookup 308=none) (h2:K.lookup aA=none) (X:K.In h):K.In (hideAll h [308,aA]):=fun a o e=>by
 refine hideAll_get _ (X a o e) fun q=>?_
 rcases mcj q with rfl | q
 ·rw [h1] at e;cases e
 ·have q:=msj q
  subst q
  rw [h2] at e;cases e
theorem base_ns {a:Addr}{m:Str→Option Value} (h308:h.get? 308=some (tabO #[])) (hA:h.get? aA=some oA) (hd:oA.data=.seq vs nn) (x:h.Ns a m):(hideAll h [308,aA]).Ns a m:=by
 obtain ⟨o,es,ep,e,hdd,r⟩:=x
 refine ⟨o,es,ep,hideAll_get _ e (fun q=>?_),hdd,r⟩
 rcases mcj q with rfl | q
 ·rw [h308] at e;cases e;cases hdd
 ·have q:=msj q
  subst q
  rw [hA] at e;cases e
  rw [hd] at hdd;cases hdd
theorem base_top {p:Program}{loose:List Str}{mg mb:Str→Option Value} (h308:h.get? 308=some (tabO #[])) (hA:h.get? aA=some oA) (hd:oA.data=.seq vs nn) (T:TopRead p loose mg mb h):TopRead p loose mg mb (hideAll h [308,aA]) :=
 ⟨base_ns h308 hA hd T.g,base_ns h308 hA hd T.b,(by obtain ⟨mc,a,r⟩:=T.nolimit;exact ⟨mc,base_ns h308 hA hd a,r⟩),T.builtins,T.free⟩
end
theorem callTop {prog:Program}{w:World}{s:Shared}{f:Addr}{fd:FuncData}{body:List Stmt}{ps:List Str}{vals:List Value}{ds:List D}{base:Heap}{imm o1:List Cell}{M1:List (Addr×AO)}{K:D→AS→Prop}{Q E:Value→Shared→Prop}{n:Nat}
 (FR:qdn w.params f fd body ps) (kin:(K39 w.params).In s.heap) (TR:s.heap.NoLimit) (hkeep:∀ b o,base.get? b=some o→s.heap.get? b=some o) (hsz:base.objs.size=s.heap.objs.size) (kb:(K39 w.params).In base) (htop:TopAt base)
 (hdep:callerA.depth+1+n<recursionLimit) (hun:callerA.units+3+20 * n+20<cLine) (ho1:∀ q∈o1,s.heap.get? q.1=some q.2∧base.get? q.1=none) (himm:∀ q∈imm,s.heap.get? q.1=some q.2∧base.get? q.1=none)
 (nd1:(o1.map (·.1)).Nodup) (ap1:∀ q∈imm,q.1 ∉ o1.map (·.1)) (mu1:Muts prog w imm o1 M1) (hv:DAll imm vals ds) (hl:ds.length=ps.length) (hg:AllBare s.gens)
 (hb:∀ C:Cx,C=topCx prog w callerA base fd s.heap.objs.size f s.os→Ok C n→OkR C→SLR C ⟨qa7 fd.scope.names ps ds,M1⟩ body (fun fl σ'=>∃ d,fl=.ret d∧K d σ') (fun V V V=>False))
 (q:∀ v d σ' imm' s',imm⊆imm'→Rel (topCx prog w callerA base fd s.heap.objs.size f s.os) σ' imm' s'→DIn imm' v d→K d σ'→Q v s'):wpC (model prog w) callerA (PySem.call (.ref f) vals) Q E s:=by
 have hvl:vals.length=ps.length:=hv.length.trans hl
 refine qcx ?_
 refine id (qc8 (fd:=fd) (body:=body) (binds:=ps.zip vals) (by decide) (kin _ _ FR.lk) rfl TR (codeRec_of kin FR.code) FR.body (FR.bind _ vals hvl kin) FR.clo (qf2 FR _) ?_ FR.hc FR.hg FR.hk)
 intro s₁ x
 obtain ⟨O',m',kc',RX⟩:=enterTop (prog:=prog) (A:=callerA) FR hkeep hsz kb htop hdep hun rfl ho1 himm nd1 ap1 mu1 hv hg x
 have G:OkR (topCx prog w callerA base fd s.heap.objs.size f s.os):=⟨⟨[],Around.frames_deeper rfl,fun e he=>nomatch he⟩,rfl,rfl⟩
 refine qa4 ((hb _ rfl O' G).go _ _ RX.rel) (fun fl s' ⟨f',σ',i',hs,R',hf,hK⟩=>?_) (fun e s' ⟨_,_,_,_,_,_,h⟩=>h.elim)
 obtain ⟨d,rfl,hK⟩:=hK
 cases hf with
 | ret hd=>exact q _ d σ' i' s' hs R' hd hK
theorem law_top {prog:Program}{w:World}{s:Shared}{aA:Addr}{oA:Obj}{ns:List Int}{vs:Array Value}{nn:Nat}{p:Program}{loose:List Str}{mg mb:Str→Option Value} (kin:(K39 w.params).In s.heap) (h308:s.heap.get? 308=some (tabO #[])) (hfr:(K39 w.params).lookup aA=none) (TR:TopRead p loose mg mb s.heap)
 (hA:s.heap.get? aA=some oA) (hc:oA.cls=.type "list") (hd:oA.data=.seq vs nn) (hv:DAll [] vs.toList (ns.map D.int)) (hlen:ns.length≤63) (hg:AllBare s.gens) {E:Value→Shared→Prop} :
 wpC (model prog w) callerA (PySem.call (.ref 403) [.ref aA]) (fun v s'=>v=.bool true∧(∀ b o,b≠308→s.heap.get? b=some o→s'.heap.get? b=some o)∧(∃ ps,s'.heap.get? 308=some (tabO ps))∧s'.os=s.os∧AllBare s'.gens) E s:=by
 have hne:aA≠308:=fun q=>by
  subst q
  rw [h308] at hA
  cases hA;cases hc
 have hd':oA.data=.seq vs.toList.toArray nn:=by rw [Array.toArray_toList];exact hd
 have hvals:DAll [(aA,oA)] [.ref aA] [.lst (ns.map D.int)]:=.cons (.lst (.head _) hc hd' (hv.mono (List.nil_subset _))) .nil
 refine callTop (n:=12) (imm:=[(aA,oA)]) (M1:=[(308,.raw (tabO #[]))]) (o1:=[(308,tabO #[])]) (base:=hideAll s.heap [308,aA]) (K:=fun d σ'=>d=.bool true∧Z308 σ'.ms) (rec_law (P:=w.params)).toD kin TR.nolimit (fun b o e=>of_hideAll _ e) (hideAll_size _ _) (base_K (by kernel_rfl) hfr kin) ⟨_,_,_,_,base_top h308 hA hd TR⟩ (by decide) (by decide)
  (fun q hq=>by rw [msj hq];exact ⟨h308,hideAll_none _ (.head _)⟩) (fun q hq=>by rw [msj hq];exact ⟨hA,hideAll_none _ (.tail _ (.head _))⟩) (by simp) (fun q hq=>by rw [msj hq];simpa using hne) (.cons .raw .nil) hvals rfl hg ?_ ?_
 ·intro C hC O G
  have hP:C.w.params=w.params:=by rw [hC]
  have L:=law_all (n:=0) (sc:=ns) O G (by rw [hC]) hlen
  rw [hP] at L
  exact .mk fun imm s R=>qa4 (L.go imm s R) (fun f s' ⟨f',σ',i',a,b,c,e,z⟩=>⟨f',σ',i',a,b,c,_,e,rfl,z⟩) fun V V x=>x
 ·rintro v d σ' i' s' hs R' hb ⟨rfl,ps,hps⟩
  cases hb
  have h8:=R'.atRaw hps
  refine Rel.elim R' fun m os kc fs RY=>?_
  refine ⟨rfl,fun b o hb e=>?_,⟨ps,h8.1⟩,RY.so,RY.gn.2⟩
  by_cases q:b=aA
  ·subst q
   rw [hA] at e;cases e
   exact (RY.mem_imm (hs (.head _))).1
  ·refine RY.fr.keep _ _ (hideAll_get _ e fun z=>?_)
   rcases mcj z with z | z
   ·exact hb z
   ·exact q (msj z)
end
section
open PySem.W.X
noncomputable abbrev lawO:Option (DefRec×List (Str×Expr)):=defOf vw PySem.Challenge.rw_ix0030_01.row.toRowW.name
theorem lawO_some:lawO.isSome=true:=by kernel_rfl
noncomputable abbrev lawR:DefRec×List (Str×Expr):=lawO.get lawO_some
theorem law_def:defOf vw PySem.Challenge.rw_ix0030_01.row.toRowW.name=some (lawR.1,lawR.2):=by kernel_rfl
theorem law_the:PySem.Challenge.rw_ix0030_01.row.toRowW.prog.theDef PySem.Challenge.rw_ix0030_01.row.toRowW.name=some (lawR.1.params,lawR.1.body,lawR.1.scope):=by kernel_rfl
theorem law_kw:kwWritten? lawR.1.params.kwonlyargs lawR.1.params.kw_defaults=some lawR.2:=by kernel_rfl
theorem law_name:lawR.1.name=("law":Str):=by kernel_rfl
theorem law_mg (P:Params):nsIn (K39 P) mainGlobals "law"=some (some (.ref 403)):=by kernel_rfl
theorem law_tab (P:Params):∃ vs,(K39 P).lookup 312=some (o388 P)∧(o388 P).cls=.type "code"∧(o388 P).data=.fields vs∧vs[11]?=some (.ref 308):=⟨flds (o388 P),by kernel_rfl,by kernel_rfl,by kernel_rfl,by kernel_rfl⟩
theorem ints_of {R:WRecords}:∀ {xs:List WData},WShape.hasItems R xs .int=true→∃ ns:List Int,xs=ns.map WData.int
 | [],_=>⟨[],rfl⟩
 | x::xs,h=>by
  have h:(WShape.has R x .int && WShape.hasItems R xs .int)=true:=h
  rw [Bool.and_eq_true] at h
  obtain ⟨i,rfl⟩:=hasW_int h.1
  obtain ⟨ns,rfl⟩:=ints_of h.2
  exact ⟨i::ns,rfl⟩
theorem dall_of {R:WRecords}{cl:Str→Option Addr}{h:Heap}:∀ {ns:List Int}{vs:List Value}{as:List Addr},ReadsAllW R cl h vs (ns.map WData.int) as→DAll [] vs (ns.map D.int)
 | [],_,_,r=>by cases r;exact .nil
 | i::ns,_,_,r=>by
  cases r with
  | cons r1 r2=>cases r1;exact .cons (.int _ _) (dall_of r2)
theorem law_len {R:WRecords}{xs:List WData} (h:PySem.Challenge.rw_ix0030_01.row.toRowW.pre.holds R { args:=[.list xs] }=true):xs.length≤63:=by
 by_cases q:63<xs.length
 ·exfalso
  have h:(WTm.and (.not (.lt (.lit (.int 63)) (.len (.arg 0)))) (.lit (.bool true))).holds R { args:=[.list xs] }=true:=h
  have e:W.less? (.int 63) (.int (xs.length:Int))=some true:=by
   show some (decide ((63:Int)<(xs.length:Int)))=some true
   rw [decide_eq_true (by lia)]
  simp [WTm.holds,WTm.value,e] at h
 ·lia
theorem post_true {args:List WData}:PySem.Challenge.rw_ix0030_01.row.toRowW.claim.post args (.bool true) args=true:=by
 show (WShape.has [] (.bool true) .bool && WTm.holds [] (.eq .res (.lit (.bool true))) { args:=args,res:=some (.bool true),after:=args })=true
 have e:W.same (.bool true) (.bool true)=true:=by simp [W.same]
 rw [show WShape.has [] (.bool true) .bool=true from rfl]
 simp only [WTm.holds,WTm.value,e,Bool.true_and]
theorem cleanCal:qdo cal:=⟨rfl,fun q hq=>nomatch hq⟩
theorem walk:WalkAt vw qbr (XL vw []) hook.says PySem.Challenge.rw_ix0030_01.row.toRowW lawR.1 lawR.2:=by
 intro w s₀ s₁ mg mb G Y a o pm cd doc dV kV h1 h2 h3 hDf h4 h5 args vals as hpre hlay reads well hlo hfr
 obtain ⟨Y0,hfresh⟩:=hfr
 have kx:(K39x w.params).In s₁.heap:=Y
 have kx0:(K39x w.params).In s₀.heap:=Y0
 have h308:s₁.heap.get? 308=some (tabO #[]):=kx 308 _ rfl
 have k308:(K39 w.params).lookup 308=none:=by kernel_rfl
 have sub:∀ {h:Heap},(K39x w.params).In h→(K39 w.params).In h:=fun k a o e=>k a o (by
  have:(a == 308)=false:=by
   cases q:a == 308 with
   | false=>rfl
   | true =>
    have:a=308:=eq_of_beq q
    subst this
    rw [k308] at e;cases e
  show ((308,o384 w.params)::K39 w.params).lookup a=some o
  rw [List.lookup_cons,this]
  exact e)
 have kin:=sub kx
 have ha:a=403:=by
  have e:=mg_of kin G.T.g (law_mg w.params)
  rw [law_name] at h4
  rw [e] at h4
  cases h4;rfl
 subst ha
 obtain ⟨hsh,hpr⟩:=pre_splitW hpre
 obtain ⟨d,r,rfl,hd,hr⟩:=hasAllW_cons hsh
 have:=hasAllW_nil hr
 subst this
 obtain ⟨xs,rfl,hxs⟩:=hasW_list hd
 have hlen:=law_len hpr
 obtain ⟨ns,rfl⟩:=ints_of hxs
 rw [lem] at hlen
 cases reads with
 | cons r1 r2 =>
  cases r2
  cases r1 with
  | @list aA oA vs nn _ as' hA hc hd hall =>
   have hnone:(K39 w.params).lookup aA=none:=by
    cases q:(K39 w.params).lookup aA with
    | none=>rfl
    | some o =>
     have h1:=Heap.lt_size (sub kx0 _ _ q)
     have h2:=hfresh aA (.head _)
     exact absurd h1 (Nat.not_lt.mpr h2)
   obtain ⟨tvs,t1,t2,t3,t4⟩:=law_tab w.params
   have run:=law_top (prog:=PySem.Challenge.rw_ix0030_01.row.toRowW.prog) kin h308 hnone (topRead_of G.T) hA hc hd (dall_of hall) hlen (.of_eq h5) (E:=fun e s'=>GoodWG PySem.Challenge.rw_ix0030_01.row.toRowW.claim (classAt s₀.heap) (ExcName.means s₀.heap) [.list (ns.map WData.int)] s₁ (.error e) s')
   refine fun p=>Sem.wp_mono _ _ _ (fun v V s' hv=>?_) (fun V V V h=>h) _ _ (run cal p caller_in cleanCal)
   obtain ⟨rfl,k1,⟨ps,k2⟩,k3,k4⟩:=hv
   refine ⟨.inl ⟨_,.bool true,[],rfl,raisesW_false (fun ct h=>nomatch h),.bool true,?_,fun V=>⟨List.nodup_nil,fun a h=>nomatch h⟩⟩,⟨fun b o e=>?_,fun b o e=>?_⟩,k3,k4⟩
   ·exact post_true
   ·by_cases q:b=308
    ·subst q
     rw [h308] at e;cases e
     exact .inr (.inl ⟨⟨312,_,tvs,kin _ _ t1,t2,t3,t4⟩,rfl,#[],ps,rfl,by rw [Array.empty_append];exact k2⟩)
    ·exact .inl (k1 b o q e)
   ·by_cases q:b=308
    ·subst q;exact ⟨_,k2⟩
    ·exact ⟨o,k1 b o q e⟩
end
end Mine
theorem PySem.Challenge.cw_ix0030_01_holds : PySem.Challenge.rw_ix0030_01.Holds :=
  Mine.top Mine.law_def Mine.law_the Mine.law_kw Mine.walk
