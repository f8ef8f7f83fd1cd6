import PyProof.Rows.All
import Wide.All
import OpenK.AllK
import Wide.FinOn
import KE.BitLaws
import KE.KRevIter
import PySem.Challenge.RW_kl0251_01
set_option Elab.async false
set_option autoImplicit false
set_option linter.all false
set_option maxHeartbeats 8000000
namespace Mw.Internal
section
open PySem PySem.W PySem.Spec PySem.Calls PyProof.Rows PySem.Challenge
set_option maxRecDepth 100000
theorem c2y{α β γ : Type}{x : Option α}{f : α → β}{g : α → γ}{a : β}{b : γ}(h : x.map f = some a)(k : x.map g = some b) : x.map (fun s => (f s, g s)) = some (a, b) := by
  cases x with
  |none => cases h
  |some s => cases h; cases k; rfl
noncomputable def d6n: List Nat := (List.range 78).filter fun i => !([0, 8, 13, 16, 70].contains i)
noncomputable def a4d: Program := view pw_kl0251_01 d6n
noncomputable def a4p : List Str := ["UNKNOWN", "EXACT_TOKEN_TYPES"]
noncomputable def b2m (w : World) (b : Bool) : Option Shared := openEnds treeTable pw_kl0251_01 (w.withFollow "special-get-raises" b) 4770
noncomputable def hXt(s : Shared) : Bool := xlAt a4d [] s && recOk (RowW.records rw_kl0251_01.row.toRowW) s
theorem d4g(w : World) : (b2m w false).map (openSeen a4d a4p (importedModules pw_kl0251_01.main.body) hXt true) = some (openGood a4d a4p) := by
  unfold b2m openEnds fencedOpening topFrom
  rw[Fast.te14364793385576792824, Fast.te14082659384304107361, Fast.te10274390034422433532, Fast.te14289696077712309145, Fast.te1435165496053646825, Fast.te5923862056798008813, Fast.te4187177175401517315]
  kernel_rfl
theorem d1s(w : World) : (b2m w true).map (openSeen a4d a4p (importedModules pw_kl0251_01.main.body) hXt true) = some (openGood a4d a4p) := by
  unfold b2m openEnds fencedOpening topFrom
  rw[Fast.te14364793385576792824, Fast.te14082659384304107361, Fast.te10274390034422433532, Fast.te14289696077712309145, Fast.te1435165496053646825, Fast.te5923862056798008813, Fast.te4187177175401517315]
  kernel_rfl
theorem d6v {α : Type} {Yf : Shared → α} {Ya : World → α} (h : ∀w b, (b2m w b).map Yf = some (Ya (w.withFollow "special-get-raises" b))) : LeftO pw_kl0251_01 a4d a4p hXt Yf Ya 4770 := fun w =>
  byRow2 "special-get-raises" (P := fun w => (openEnds treeTable pw_kl0251_01 w 4770).map (fun s => (openSeen a4d a4p (importedModules pw_kl0251_01.main.body) hXt true s, Yf s)) = some (openGood a4d a4p, Ya w)) (fun w => c2y (d4g w) (h w false)) (fun w => c2y (d1s w) (h w true)) w
theorem c1s : (defOf a4d (Str.ofString "law")).isSome = true := by kernel_rfl
noncomputable def d7k : DefRec × List (Str × Expr) := (defOf a4d (Str.ofString "law")).get c1s
section
local macro_rules |`(tactic|o_head $_) => `(tactic|assumption)
theorem hk(h : OpenRow.Holds rw_kl0251_01.row) : OpenRow.Holds rw_kl0251_01.row := by k_head
end
noncomputable def d7g: List Addr := [2, 3, 15, 17, 18, 20, 21, 22, 24, 25, 27, 28, 29, 31, 32, 34, 35, 36, 38, 39, 41, 42, 43, 45, 46, 48, 49, 50, 52, 53, 55, 56, 64, 66, 67, 69, 70, 71, 72, 73, 74, 75, 78, 79, 80, 82, 83, 85, 86, 87, 89, 90, 92, 93, 94, 96, 97, 99, 100, 101, 104, 106, 107, 109, 110, 111, 113, 114, 116, 117, 118, 121, 122, 123, 126, 127, 128, 130, 131, 133, 134, 135, 137, 138, 140, 141, 142, 145, 146, 147, 150, 151, 152, 155, 156]
theorem c9q(P : Params) : d7g = (hk.heap_1 P).map (·.1) := by kernel_rfl
noncomputable def b6m: Hook := kmHook hk.heap_1 d7g c9q [37, 30]
theorem d6u (w : World) : (b2m w false).map (Hook.obs b6m) = some (Hook.val b6m (w.withFollow "special-get-raises" false)) := by
  unfold b2m openEnds fencedOpening topFrom
  rw[Fast.te14364793385576792824, Fast.te14082659384304107361, Fast.te10274390034422433532, Fast.te14289696077712309145, Fast.te1435165496053646825, Fast.te5923862056798008813]
  kernel_rfl
theorem d5m (w : World) : (b2m w true).map (Hook.obs b6m) = some (Hook.val b6m (w.withFollow "special-get-raises" true)) := by
  unfold b2m openEnds fencedOpening topFrom
  rw[Fast.te14364793385576792824, Fast.te14082659384304107361, Fast.te10274390034422433532, Fast.te14289696077712309145, Fast.te1435165496053646825, Fast.te5923862056798008813]
  kernel_rfl
theorem d5n: rw_kl0251_01.wellSaid = true := by kernel_rfl
theorem hd(walk : WalkO a4d a4p (XL a4d []) (Hook.says b6m) rw_kl0251_01.row.toRowW d7k.1 d7k.2 fun f vs => PySem.call f vs) : rw_kl0251_01.Holds :=
  holds_law d5n fun said => holds_open (d6v fun w b => by cases b; exact d6u w; exact d5m w) (Hook.of b6m) (Hook.keeps b6m) (fun s e => xl_of s (Bool.and_eq_true_iff.mp e).1) XL.keeps (Option.some_get c1s).symm (by kernel_rfl) (by kernel_rfl) (fun s e => recFacts_of (Bool.and_eq_true_iff.mp e).2) (by kernel_rfl) said (by kernel_rfl) ⟨rfl, rfl, rfl, rfl, rfl, by kernel_rfl⟩ (by w_witness2) walk
end
open PySem PySem.W PySem.Spec PySem.Calls PyProof.Rows
open PySem renaming wpAny_bind→d8d,PyData→d8e,Shared→d8f,Value→d8g,wpAny_pure→d8h,wpAny→d8i,callEnvC→d8j,mem_of_lookup→d8k,wpAny_holding→d8l,wpAny_execs_cons→d8m,Comprehension→d8n,mainGlobals→d8o,wpAny_mono→d8p,Around→d8q,wpAny_standAt→d8r,starEach→d8s,strKind→d8t,wpAny_Call_NameR→d8u,wpAny_of_eq→d8v,wpAny_field→d8w,backTo→d8x,sizeLine→d8y,wpAny_loadName_local→d8z
set_option backward.defeqAttrib.useBackward true
set_option compiler.extract_closed false
set_option genSizeOf false
set_option genInjectivity false
theorem gd0{α : Type}{x : α}{xs : List α}{d : α} : List.getD (x :: xs) 0 d = x := rfl
theorem gdS{α : Type}{x : α}{xs : List α}{n : Nat}{d : α} : List.getD (x :: xs) (n + 1) d = List.getD xs n d := rfl
theorem lv{a b l : Nat}(h : Nat.ble a b = true) : a ≤ l + b := Nat.le_trans (Nat.le_of_ble_eq_true h) (Nat.le_add_left b l)
theorem lw{a b l : Nat}(h : Nat.ble (a + 1) b = true) : a<l + b := lv h
theorem lx{a b : Nat}(h : Nat.ble (a + 1) b = true) : a<b := Nat.le_of_ble_eq_true h
theorem ly{a b : Nat}(h : a + 1 ≤ b) : a<b := h
theorem sa{n k : Nat}(h : k ≤ n) : n = n - k + k := (Nat.sub_add_cancel h).symm
theorem tn{i : Int}(h : ¬i<0) : i = (i.toNat : Int) := (Int.toNat_of_nonneg (Int.not_lt.mp h)).symm
theorem ml{a b : Nat}(h : Nat.ble 1 b = true) : a%b<b := Nat.mod_lt _ (Nat.le_of_ble_eq_true h)
section
open Lean
def qxa(s : List Syntax)(c : Array Syntax) : List Syntax := match s with
  |n :: r => n.setArgs (n.getArgs ++ c) :: r
  |[] => c.toList
def qx (a : Array Syntax) (t : String) : Syntax := (((((t.replace "{" "%TtacticSeq %TtacticSeq1Indented %null").replace "}" "/ / /").replace "%T" "%Lean.Parser.Tactic.").replace "%R" "%Lean.Parser.Term.").splitOn " ").foldl (fun s w => match w.toList with
  |'%' :: r => .node .none (String.ofList r).toName #[] :: s
  |['/'] => match s with|n :: r => qxa r #[n]|[] => []
  |'$' :: c :: _ => qxa s #[a[c.toNat - 48]!]
  |'@' :: c :: _ => qxa s a[c.toNat - 48]!.getArgs
  |'\'' :: r => qxa s #[mkIdent (String.ofList r).toName]
  |_ => qxa s #[.atom .none w]) [] |>.headD .missing
def qxl(l : List Syntax)(a : String) : Syntax := mkNullNode (l.intersperse (.atom .none a)).toArray
def qxf (l : List Syntax) : Syntax := qx #[mkNullNode (l.map fun t => qx #[t] "%group | { $0 } /").toArray] "%Tfirst first $0 /"
def qxs (l : List Syntax) : Syntax := qx #[qxl l ";"] "%Tparen ( %TtacticSeq %TtacticSeq1Indented $0 / / ) /"
def qxw (t : Syntax) : Syntax := qx #[t] "%TwithReducible with_reducible { $0 } /"
def qxm (t : String) : String := "%TsimpLemma %null / %null / '" ++ t.replace " " " / , %TsimpLemma %null / %null / '" ++ " /"
def qxo (x : String) : Syntax := qx #[qxw (qxf [qx #[] "%Texact exact %Rapp 'Nat.le_of_ble_eq_true %null 'rfl / / /", qx #[] "%Texact exact %Rapp 'lx %null 'rfl / / /"])] ((((("%T«tactic_<;>_» %TwithReducible with_reducible { %Trefine refine %Rapp '" ++ x ++ " / / / } / <;> $0 /").replace " H" " %RsyntheticHole ? _ /").replace " L" " %Rapp 'And.left %null A / /").replace " Q" " %Rapp 'And.right %null A / /").replace " A" " %RbyTactic by { %Tassumption assumption / } /")
def qxb(f : Nat → Syntax)(l : List Syntax)(i : Nat) : List Syntax × List Syntax := match l with
  |[] => ([], [])
  |e :: r =>
    let q := e[0][0][0]
    let o := fun(y p : Syntax) => qx #[y, p] "%Tobtain obtain %null $1 / %null / %null := %null $0 / / /"
    let tu := fun l => qx #[qxl l ","] "%TrcasesPatMed %null %TrcasesPat.tuple ⟨ $0 ⟩ / / /"
    let(n, p) := qxb f r (i + 1)
    if i == 5 && r.length>0 then([f i], [o (f i) (tu l)])
    else if e[0][0].getNumArgs == 1 && q[0].isIdent && q[0].getId != `rfl then(q[0] :: n, p)
    else if q[0].isToken "_" then(f i :: n, p)
    else if q[0].getId == `rfl && r.length>1 then([f i, f 9], [o (f i) e[0], o (f 9) (tu r)])
    else(f i :: n, o (f i) e[0] :: p)
def qxr: MacroM (Nat → Syntax) := do
  let c ←read
  return fun i => mkIdent (addMacroScope c.quotContext (.mkSimple (toString i)) c.currMacroScope)
def qxn(s : Syntax) : MacroM Syntax := do
  let t := s[1]
  let n := t[1].getSepArgs.size
  unless t.isOfKind `Lean.Parser.Term.anonymousCtor && n>1 && n<9 do Macro.throwUnsupported
  return qxf [qxs [qx #[] "%Trefine refine %RtypeAscription %RhygienicLParen ( %hygieneInfo '[anonymous] / / %RsyntheticHole ? _ / : %null %Rapp 'Exists %null %Rhole _ / / / / ) / /",
    qxf ((List.range (n - 1)).map fun k => s.setArg 1 (qx #[mkIdent (.mkSimple s!"j{n-1-k}{k+1}"), mkNullNode t[1].getSepArgs] "%Rapp $0 $1 /"))],
    s.setArg 1 (qx #[t] "%Rparen %RhygienicLParen ( %hygieneInfo '[anonymous] / / $0 ) /")]
def qxO(s : Syntax) : MacroM Syntax := do
  let h := s[3][1][0]
  let m := s[1][0]
  let es := m[0][0][1].getSepArgs
  if !s[2].isNone ||m[0].getNumArgs != 1 ||es.size<2 ||((mkNullNode es.pop).find? (·.isToken "|")).isSome then Macro.throwUnsupported
  let f ←qxr
  let rc := qx #[h, m] "%Trcases rcases %null %TelimTarget %null / $0 / / %null with %TrcasesPatLo $1 %null / / / /"
  if h.isIdent && (m.find? fun x => x.isIdent && x.getId == h.getId).isSome then
    return qxf [qx #[h, m, f 0] "%Tparen ( { %Trevert revert %null $0 / / ; %Tintro intro %null $2 / / ; %Tobtain obtain %null $1 / %null / %null := %null $2 / / / } ) /", rc]
  let(ns, ps) := qxb f es.toList 0
  let n := ns.length
  return qxf [qxs (qxf ((List.range n).map fun k => qx #[mkIdent (.mkSimple s!"o{n-1-k}{k+1}"), h, mkNullNode ns.toArray] "%Trefine refine %Rapp $0 %null $1 %Rfun fun %RbasicFun $2 %null / => %RsyntheticHole ? _ / / / / / /") :: ((if h.isIdent then[qx #[h] "%TtacticTry_ try { %Tclear clear %null $0 / / } /"]else[]) ++ ps)), rc]
def qxC(s : Syntax) : MacroM Syntax := do
  let h := s[1][0][1]
  unless h.isIdent && s[1].getNumArgs == 1 && s[1][0][0].isNone && s[2].isNone && s[3].isNone do Macro.throwUnsupported
  return qxf (["%Trcases rcases %null %TelimTarget %null / $0 / / %null with %TrcasesPatLo %TrcasesPatMed %null %TrcasesPat.one 'rfl / / / %null / / / /",
    "%Tparen ( { %TtacticExfalso exfalso / ; %Tinjection injection $0 %null / / ; %Tdone done / } ) /",
    "%Trcases rcases %null %TelimTarget %null / %Rapp 'Option.some.inj %null $0 / / / / %null with %TrcasesPatLo %TrcasesPatMed %null %TrcasesPat.one 'rfl / / / %null / / / /",
    "%Tcases cases %null %TelimTarget %null / %Rparen %RhygienicLParen ( %hygieneInfo '[anonymous] / / $0 ) / / / %null / %null / /"].map (qx #[h]))
def qxI(s : Syntax) : MacroM Syntax := do
  if (s.find? (·.isToken "|")).isSome ||!s[2].isNone then Macro.throwUnsupported
  let f ←qxr
  let l := s[1].getArgs.toList.zipIdx.map fun(p, i) =>
    let q := p[0]
    if q[0].isIdent && q[0].getId != `rfl then(q[0], none)else(f i, some (qx #[q, f i] "%Tobtain obtain %null %TrcasesPatMed %null $0 / / / %null / %null := %null $1 / / /"))
  return qxs (l.map (fun x => qx #[x.1] "%Tintro intro %null $0 / /") ++ l.filterMap (·.2))
def qxW(s : Syntax) : MacroM Syntax := do
  unless s[3].isNone do Macro.throwUnsupported
  return qxs (s[2][1].getSepArgs.toList.map (fun r =>
    let w := qx #[r] "%TrewriteSeq rewrite %ToptConfig %null / / %TrwRuleSeq [ %null $0 / ] / %null / /"
    let g := qx #[mkIdent (if r[0].isNone then `rwm else `rwl), r[1]] "%Trefine refine %Rapp $0 %null %Rapp $1 %null %Rellipsis .. / / / %RsyntheticHole ? _ / / / /"
    if (r[1].find? (·.isOfKind `Lean.Parser.Term.syntheticHole)).isSome then w
    else qxf [if (r[1].find? (·.isOfKind `Lean.Parser.Term.byTactic)).isSome then g else qxw g, w]) ++ [qx #[qxw (qx #[] "%TtacticRfl rfl /")] "%TtacticTry_ try { $0 } /"])
def qxS (s : Syntax) : MacroM Syntax := return qx #[s[1]] "%Trefine refine %RtypeAscription %RhygienicLParen ( %hygieneInfo '[anonymous] / / %RsyntheticHole ? _ / : %null $0 / ) / /"
def qxG (s : Syntax) : Syntax := qxf ([qxw (qx #[] "%Texact exact %Rapp 'lv %null 'rfl / / /"), qxw (qx #[] "%Texact exact %Rapp 'lw %null 'rfl / / /"), qxw (qx #[] "%Tassumption assumption /")] ++ ("sa %null A;Nat.le_trans %null A H;Nat.lt_of_le_of_lt %null A H;And.left %null A;And.right %null A;Nat.sub_add_cancel %null A;Nat.add_sub_of_le %null A;ml %null 'rfl;tn %null A;ly %null A;Nat.le_of_lt %null A;Nat.le_of_succ_le %null A;Nat.le_of_not_lt %null A;Nat.le_trans %null A A;Nat.lt_of_le_of_lt %null A A;Nat.lt_of_lt_of_le %null A A;Nat.le_trans %null Q H;Nat.le_trans %null H L".splitOn ";").map qxo ++ [qxs [qx #[] "%TrwSeq rw %ToptConfig %null / / %TrwRuleSeq [ %null %TrwRule %null / 'Int.natAbs_neg / / ] / %null / /", qxw (qx #[] "%Tassumption assumption /")], s])
end
local macro_rules (kind := Lean.Parser.Tactic.omega)|s => return qxG (qx #[] "%Tlia lia %ToptConfig %null / / /")
theorem o02{P Q : Prop}{G : Prop}(h : P ∧ Q)(k : P → Q → G) : G := k h.1 h.2
theorem o03{P Q R : Prop}{G : Prop}(h : P ∧ Q ∧ R)(k : P → Q → R → G) : G := k h.1 h.2.1 h.2.2
theorem o04{P Q R S : Prop}{G : Prop}(h : P ∧ Q ∧ R ∧ S)(k : P → Q → R → S → G) : G := k h.1 h.2.1 h.2.2.1 h.2.2.2
theorem o05{P Q R S T : Prop}{G : Prop}(h : P ∧ Q ∧ R ∧ S ∧ T)(k : P → Q → R → S → T → G) : G := k h.1 h.2.1 h.2.2.1 h.2.2.2.1 h.2.2.2.2
theorem o06{P Q R S T U : Prop}{G : Prop}(h : P ∧ Q ∧ R ∧ S ∧ T ∧ U)(k : P → Q → R → S → T → U → G) : G := k h.1 h.2.1 h.2.2.1 h.2.2.2.1 h.2.2.2.2.1 h.2.2.2.2.2
theorem o11{α : Sort _}{P : α → Prop}{G : Prop}(h : ∃a, P a)(k : ∀a, P a → G) : G := h.elim k
theorem o12{α : Sort _}{P Q : α → Prop}{G : Prop}(h : ∃a, P a ∧ Q a)(k : ∀a, P a → Q a → G) : G := h.elim fun a p => o02 p (k a)
theorem o13{α : Sort _}{P Q R : α → Prop}{G : Prop}(h : ∃a, P a ∧ Q a ∧ R a)(k : ∀a, P a → Q a → R a → G) : G := h.elim fun a p => o03 p (k a)
theorem o14{α : Sort _}{P Q R S : α → Prop}{G : Prop}(h : ∃a, P a ∧ Q a ∧ R a ∧ S a)(k : ∀a, P a → Q a → R a → S a → G) : G := h.elim fun a p => o04 p (k a)
theorem o15{α : Sort _}{P Q R S T : α → Prop}{G : Prop}(h : ∃a, P a ∧ Q a ∧ R a ∧ S a ∧ T a)(k : ∀a, P a → Q a → R a → S a → T a → G) : G := h.elim fun a p => o05 p (k a)
theorem o21{α β : Sort _}{P : α → β → Prop}{G : Prop}(h : ∃a b, P a b)(k : ∀a b, P a b → G) : G := h.elim fun a p => o11 p (k a)
theorem o22{α β : Sort _}{P Q : α → β → Prop}{G : Prop}(h : ∃a b, P a b ∧ Q a b)(k : ∀a b, P a b → Q a b → G) : G := h.elim fun a p => o12 p (k a)
theorem o23{α β : Sort _}{P Q R : α → β → Prop}{G : Prop}(h : ∃a b, P a b ∧ Q a b ∧ R a b)(k : ∀a b, P a b → Q a b → R a b → G) : G := h.elim fun a p => o13 p (k a)
theorem o24{α β : Sort _}{P Q R S : α → β → Prop}{G : Prop}(h : ∃a b, P a b ∧ Q a b ∧ R a b ∧ S a b)(k : ∀a b, P a b → Q a b → R a b → S a b → G) : G := h.elim fun a p => o14 p (k a)
theorem o31{α β γ : Sort _}{P : α → β → γ → Prop}{G : Prop}(h : ∃a b c, P a b c)(k : ∀a b c, P a b c → G) : G := h.elim fun a p => o21 p (k a)
theorem o32{α β γ : Sort _}{P Q : α → β → γ → Prop}{G : Prop}(h : ∃a b c, P a b c ∧ Q a b c)(k : ∀a b c, P a b c → Q a b c → G) : G := h.elim fun a p => o22 p (k a)
theorem o33{α β γ : Sort _}{P Q R : α → β → γ → Prop}{G : Prop}(h : ∃a b c, P a b c ∧ Q a b c ∧ R a b c)(k : ∀a b c, P a b c → Q a b c → R a b c → G) : G := h.elim fun a p => o23 p (k a)
theorem o41{α β γ δ : Sort _}{P : α → β → γ → δ → Prop}{G : Prop}(h : ∃a b c d, P a b c d)(k : ∀a b c d, P a b c d → G) : G := h.elim fun a p => o31 p (k a)
theorem o42{α β γ δ : Sort _}{P Q : α → β → γ → δ → Prop}{G : Prop}(h : ∃a b c d, P a b c d ∧ Q a b c d)(k : ∀a b c d, P a b c d → Q a b c d → G) : G := h.elim fun a p => o32 p (k a)
theorem o51{α β γ δ ε : Sort _}{P : α → β → γ → δ → ε → Prop}{G : Prop}(h : ∃a b c d e, P a b c d e)(k : ∀a b c d e, P a b c d e → G) : G := h.elim fun a p => o41 p (k a)
theorem j11{α : Sort _}{P : α → Prop}(a : α)(p : P a) : ∃a, P a := ⟨a, p⟩
theorem j12{α : Sort _}{P Q : α → Prop}(a : α)(p : P a)(q : Q a) : ∃a, P a ∧ Q a := ⟨a, p, q⟩
theorem j21{α β : Sort _}{P : α → β → Prop}(a : α)(b : β)(p : P a b) : ∃a b, P a b := ⟨a, b, p⟩
theorem j13{α : Sort _}{P Q R : α → Prop}(a : α)(p : P a)(q : Q a)(r : R a) : ∃a, P a ∧ Q a ∧ R a := ⟨a, p, q, r⟩
theorem j22{α β : Sort _}{P Q : α → β → Prop}(a : α)(b : β)(p : P a b)(q : Q a b) : ∃a b, P a b ∧ Q a b := ⟨a, b, p, q⟩
theorem j31{α β γ : Sort _}{P : α → β → γ → Prop}(a : α)(b : β)(c : γ)(p : P a b c) : ∃a b c, P a b c := ⟨a, b, c, p⟩
theorem j14{α : Sort _}{P Q R S : α → Prop}(a : α)(p : P a)(q : Q a)(r : R a)(s : S a) : ∃a, P a ∧ Q a ∧ R a ∧ S a := ⟨a, p, q, r, s⟩
theorem j23{α β : Sort _}{P Q R : α → β → Prop}(a : α)(b : β)(p : P a b)(q : Q a b)(r : R a b) : ∃a b, P a b ∧ Q a b ∧ R a b := ⟨a, b, p, q, r⟩
theorem j32{α β γ : Sort _}{P Q : α → β → γ → Prop}(a : α)(b : β)(c : γ)(p : P a b c)(q : Q a b c) : ∃a b c, P a b c ∧ Q a b c := ⟨a, b, c, p, q⟩
theorem j41{α β γ δ : Sort _}{P : α → β → γ → δ → Prop}(a : α)(b : β)(c : γ)(d : δ)(p : P a b c d) : ∃a b c d, P a b c d := ⟨a, b, c, d, p⟩
theorem j15{α : Sort _}{P Q R S T : α → Prop}(a : α)(p : P a)(q : Q a)(r : R a)(s : S a)(t : T a) : ∃a, P a ∧ Q a ∧ R a ∧ S a ∧ T a := ⟨a, p, q, r, s, t⟩
theorem j24{α β : Sort _}{P Q R S : α → β → Prop}(a : α)(b : β)(p : P a b)(q : Q a b)(r : R a b)(s : S a b) : ∃a b, P a b ∧ Q a b ∧ R a b ∧ S a b := ⟨a, b, p, q, r, s⟩
theorem j33{α β γ : Sort _}{P Q R : α → β → γ → Prop}(a : α)(b : β)(c : γ)(p : P a b c)(q : Q a b c)(r : R a b c) : ∃a b c, P a b c ∧ Q a b c ∧ R a b c := ⟨a, b, c, p, q, r⟩
theorem j42{α β γ δ : Sort _}{P Q : α → β → γ → δ → Prop}(a : α)(b : β)(c : γ)(d : δ)(p : P a b c d)(q : Q a b c d) : ∃a b c d, P a b c d ∧ Q a b c d := ⟨a, b, c, d, p, q⟩
theorem j25{α β : Sort _}{P Q R S T : α → β → Prop}(a : α)(b : β)(p : P a b)(q : Q a b)(r : R a b)(s : S a b)(t : T a b) : ∃a b, P a b ∧ Q a b ∧ R a b ∧ S a b ∧ T a b := ⟨a, b, p, q, r, s, t⟩
theorem j43{α β γ δ : Sort _}{P Q R : α → β → γ → δ → Prop}(a : α)(b : β)(c : γ)(d : δ)(p : P a b c d)(q : Q a b c d)(r : R a b c d) : ∃a b c d, P a b c d ∧ Q a b c d ∧ R a b c d := ⟨a, b, c, d, p, q, r⟩
theorem j26{α β : Sort _}{P Q R S T U : α → β → Prop}(a : α)(b : β)(p : P a b)(q : Q a b)(r : R a b)(s : S a b)(t : T a b)(u : U a b) : ∃a b, P a b ∧ Q a b ∧ R a b ∧ S a b ∧ T a b ∧ U a b := ⟨a, b, p, q, r, s, t, u⟩
theorem j35{α β γ : Sort _}{P Q R S T : α → β → γ → Prop}(a : α)(b : β)(c : γ)(p : P a b c)(q : Q a b c)(r : R a b c)(s : S a b c)(t : T a b c) : ∃a b c, P a b c ∧ Q a b c ∧ R a b c ∧ S a b c ∧ T a b c := ⟨a, b, c, p, q, r, s, t⟩
theorem j44{α β γ δ : Sort _}{P Q R S : α → β → γ → δ → Prop}(a : α)(b : β)(c : γ)(d : δ)(p : P a b c d)(q : Q a b c d)(r : R a b c d)(s : S a b c d) : ∃a b c d, P a b c d ∧ Q a b c d ∧ R a b c d ∧ S a b c d := ⟨a, b, c, d, p, q, r, s⟩
@[elab_as_elim] theorem rwm{α : Sort _}{a b : α}{P : α → Prop}(e : a = b)(h : P b) : P a := e ▸ h
@[elab_as_elim] theorem rwl{α : Sort _}{a b : α}{P : α → Prop}(e : a = b)(h : P a) : P b := e ▸ h
local macro_rules (kind := Lean.Parser.Tactic.obtain)|s => qxO s
local macro_rules (kind := Lean.Parser.Tactic.cases)|s => qxC s
local macro_rules (kind := Lean.Parser.Tactic.rintro)|s => qxI s
local macro_rules (kind := Lean.Parser.Tactic.refine)|s => qxn s
local macro_rules (kind := Lean.Parser.Tactic.exact)|s => qxn s
local macro_rules (kind := Lean.Parser.Tactic.rwSeq)|s => qxW s
local macro_rules (kind := Lean.Parser.Tactic.show)|s => qxS s
variable {A:d8q} {D:List (d8e×d8e)} {Eh:d8g→d8f→Prop} {F:Nat} {L:Addr} {Q:Unit→d8f→Prop} {Q':d8g→d8f→Prop} {R:Result→d8f→Prop} {W:List Addr} {acc:List d8e} {c:Prop} {cl:List (Str×Addr)} {d:d8e} {ds:List d8e} {elts:List Expr} {env:Env} {f:Nat} {fd:FuncData} {fs:List Env} {g:Heap} {gens:List d8n} {h:Heap} {h':Heap} {hz:Bool} {hzf:Bool} {i:Nat} {ifs:List Expr} {it:d8g} {items:Array d8g} {j:Nat} {ks:List Str} {kvs:List (Str×d8g)} {ls:List Str} {m:Str→Option d8g} {msg:List Nat} {nl:Nat} {nm:Str} {nxt:Option Expr} {o:Obj} {outer:List Env} {params:Arguments} {prog:Program} {ps:List Str} {qual:Str} {r:List d8e} {scope:Scope} {stmts:List Stmt} {tape:List Nat} {target:Expr} {tids:List (Str×Nat)} {tk:List (d8e×d8e)} {ts:List Expr} {v:d8g} {value:Expr} {vs:List d8g} {w:World} {x:Str} {y:Expr}
section
set_option genCtorIdx false in
inductive ZX:Bool→Type
 |v (i:Nat):ZX true
 |k (n:Nat):ZX true
 |w (i:Nat):ZX false
 |z (n:Int):ZX false
 |c (x:ZX true):ZX false
 |u (o:Nat) (x:ZX false):ZX true
 |b (o:Nat) (x y:ZX true):ZX true
 |d (o:Nat) (x y:ZX false):ZX false
 |m (o:Nat) (n:Nat) (x:ZX true):ZX true
 |n (o:Nat) (n:Int) (x:ZX false):ZX false
set_option genCtorIdx false in
inductive XP
 |c {B:Bool} (o:Nat) (x y:ZX B)
 |b (o:Nat) (p q:XP)
 |f
noncomputable abbrev N0:ZX true:=.v 0
noncomputable abbrev N1:ZX true:=.v 1
noncomputable abbrev N2:ZX true:=.v 2
noncomputable abbrev N3:ZX true:=.v 3
noncomputable abbrev N4:ZX true:=.v 4
noncomputable abbrev N5:ZX true:=.v 5
noncomputable abbrev Z0:ZX false:=.w 0
noncomputable abbrev Z1:ZX false:=.w 1
noncomputable abbrev Z2:ZX false:=.w 2
noncomputable abbrev Z3:ZX false:=.w 3
noncomputable abbrev O1:ZX true:=.k 1
noncomputable abbrev ZX.p(x y:ZX true):ZX true:=.b 0 x y
noncomputable abbrev ZX.s(x y:ZX true):ZX true:=.b 1 x y
noncomputable abbrev ZX.P(x y:ZX false):ZX false:=.d 0 x y
noncomputable abbrev ZX.S(x y:ZX false):ZX false:=.d 1 x y
noncomputable abbrev ZX.N(x:ZX false):ZX false:=.d 4 x (.z 0)
noncomputable abbrev XP.l{B:Bool}(x y:ZX B):XP:=.c 0 x y
noncomputable abbrev XP.t{B:Bool}(x y:ZX B):XP:=.c 1 x y
noncomputable abbrev XP.e{B:Bool}(x y:ZX B):XP:=.c 2 x y
noncomputable abbrev XP.a(p q:XP):XP:=.b 0 p q
noncomputable abbrev XP.n(p:XP):XP:=.b 3 p .f
noncomputable abbrev ZXD:Bool→Type|true=>Nat|false=>Int
noncomputable def zx1:Nat→Int→Nat|0,x=>x.toNat|_,x=>x.natAbs
noncomputable def zx2:Nat→Nat→Nat→Nat|0,x,y=>x+y|1,x,y=>x-y|2,x,y=>min x y|_,x,y=>max x y
noncomputable def zx3:Nat→Int→Int→Int|0,x,y=>x+y|1,x,y=>x-y|2,x,y=>min x y|3,x,y=>max x y|_,x,_=>-x
noncomputable def zx4:Nat→Nat→Nat→Nat|0,n,x=>n*x|_,n,x=>x*n
noncomputable def zx5:Nat→Int→Int→Int|0,n,x=>n*x|_,n,x=>x*n
noncomputable def ZX.val(ρ:List Nat)(σ:List Int):{b:Bool}→ZX b→ZXD b
 |_,.v i=>ρ.getD i 0
 |_,.k r=>r
 |_,.w i=>σ.getD i 0
 |_,.z r=>r
 |_,.c x=>((x.val ρ σ:Nat):Int)
 |_,.u o x=>zx1 o (x.val ρ σ)
 |_,.b o x y=>zx2 o (x.val ρ σ) (y.val ρ σ)
 |_,.d o x y=>zx3 o (x.val ρ σ) (y.val ρ σ)
 |_,.m o r x=>zx4 o r (x.val ρ σ)
 |_,.n o r x=>zx5 o r (x.val ρ σ)
def zx6:Nat→(b:Bool)→ZXD b→ZXD b→Prop
 |0,true,x,y=>Nat.le x y|0,false,x,y=>Int.le x y
 |1,true,x,y=>Nat.lt x y|1,false,x,y=>Int.lt x y
 |_,true,x,y=>@Eq Nat x y|_,false,x,y=>@Eq Int x y
noncomputable def zx7:Nat→Prop→Prop→Prop|0,p,q=>p∧q|1,p,q=>p∨q|2,p,q=>p→q|_,p,_=>¬p
def XP.den(ρ:List Nat)(σ:List Int):XP→Prop
 |.c (B:=B) o x y=>zx6 o B (x.val ρ σ) (y.val ρ σ)
 |.b o p q=>zx7 o (p.den ρ σ) (q.den ρ σ)
 |.f=>False
noncomputable def a1r:List Int→(Nat→Int)→Int|[],_=>0|a::l,t=>a*t 0+a1r l fun i=>t (i+1)
noncomputable def zad:List Int→List Int→List Int
 |[],q=>q
 |a::p,q=>match q with|[]=>a::p|b::q=>(a+b)::zad p q
noncomputable def zsc(c:Int):List Int→List Int|[]=>[]|a::l=>c*a::zsc c l
noncomputable def zun:Nat→List Int|0=>[1]|n+1=>0::zun n
noncomputable abbrev zsb(p q:List Int):=zad p (zsc (-1) q)
noncomputable abbrev ZXC:=List (List (List Int)×List Int)
noncomputable def zl1(o:Nat)(g:List (List Int))(l:List Int):ZXC:=match o with
 |0=>[(l::g,l),(zsc (-1) l::g,[])]
 |_=>[(l::g,l),(zsc (-1) l::g,zsc (-1) l)]
noncomputable def zl2(o:Nat)(g:List (List Int))(l r:List Int):ZXC:=match o with
 |0=>[(g,zad l r)]
 |1=>[(zsb l r::g,zsb l r),(zsb r l::g,[])]
 |2=>[(zsb r l::g,l),(zsb l r::g,r)]
 |_=>[(zsb r l::g,r),(zsb l r::g,l)]
noncomputable def zl3(o:Nat)(g:List (List Int))(l r:List Int):ZXC:=match o with
 |0=>[(g,zad l r)]
 |1=>[(g,zsb l r)]
 |2=>[(zsb r l::g,l),(zsb l r::g,r)]
 |3=>[(zsb r l::g,r),(zsb l r::g,l)]
 |_=>[(g,zsc (-1) l)]
noncomputable def ZX.lin:{b:Bool}→ZX b→ZXC
 |_,.v i=>[([],zun (2*i+1))]
 |_,.k r=>[([],[(r:Int)])]
 |_,.w i=>[([],zun (2*i+2))]
 |_,.z r=>[([],[r])]
 |_,.c x=>x.lin
 |_,.u o x=>x.lin.flatMap fun p=>zl1 o p.1 p.2
 |_,.b o x y=>x.lin.flatMap fun p=>y.lin.flatMap fun q=>zl2 o (p.1++q.1) p.2 q.2
 |_,.d o x y=>x.lin.flatMap fun p=>y.lin.flatMap fun q=>zl3 o (p.1++q.1) p.2 q.2
 |_,.m _ r x=>x.lin.map fun p=>(p.1,zsc r p.2)
 |_,.n _ r x=>x.lin.map fun p=>(p.1,zsc r p.2)
noncomputable def zl6(e:Bool)(o:Nat)(g:List (List Int))(l r:List Int):List (List (List Int)):=match e,o with
 |true,0=>[zsb r l::g]
 |false,0=>[zad (zsb l r) [-1]::g]
 |true,1=>[zad (zsb r l) [-1]::g]
 |false,1=>[zsb l r::g]
 |true,_=>[zsb r l::zsb l r::g]
 |false,_=>[zad (zsb r l) [-1]::g,zad (zsb l r) [-1]::g]
noncomputable def zpr(x y:List (List (List Int))):=x.flatMap fun c=>y.map (c ++ ·)
noncomputable def zl7(e:Bool)(o:Nat)(p q p' q':List (List (List Int))):List (List (List Int)):=match e,o with
 |true,0=>zpr p q
 |false,0=>p'++q'
 |true,1=>p++q
 |false,1=>zpr p' q'
 |true,2=>p'++q
 |false,2=>zpr p q'
 |true,_=>p'
 |false,_=>p
noncomputable def XP.dnf:XP→Bool→List (List (List Int))
 |.c o x y,e=>x.lin.flatMap fun p=>y.lin.flatMap fun q=>zl6 e o (p.1++q.1) p.2 q.2
 |.b o p q,e=>zl7 e o (p.dnf true) (q.dnf true) (p.dnf false) (q.dnf false)
 |.f,true=>[]
 |.f,false=>[[]]
noncomputable def zfz(c:List Int→List (List Int))(d:List Int→Int→List (List Int))(l:List Int):List (List Int):=match l with
 |a::b::p=>d (a::p) b
 |l=>c l
noncomputable def zf0:List (List Int)→List (List Int):=List.flatMap (zfz (fun l=>[l]) fun p b=>match b with|.ofNat 0=>[p]|_=>[])
noncomputable def zf1(l:List (List Int)):List (List Int):=l.flatMap (zfz (fun _=>[]) fun p b=>match b with
 |.ofNat (n+1)=>l.flatMap (zfz (fun _=>[]) fun q d=>match d with|.negSucc m=>[zad (zsc (Int.ofNat (m+1)) p) (zsc (Int.ofNat (n+1)) q)]|_=>[])
 |_=>[])
noncomputable def zfm:Nat→List (List Int)→Bool
 |0,l=>l.any fun x=>match x with|[.negSucc _]=>true|_=>false
 |n+1,l=>zfm n (zf0 l++zf1 l)
noncomputable def zps:List (List (List (List Int)))→List (List (List Int))|[]=>[[]]|x::r=>zpr x (zps r)
noncomputable def znn:Nat→List (List Int)|0=>[]|n+1=>zun (2*n+1)::znn n
noncomputable def a9t(n:Nat)(l:List XP)(g:XP):Bool:=(zps (g.dnf false::l.map fun p=>p.dnf true)).all fun c=>zfm (2*n) (znn n++c)
theorem a9l(p:List Int):∀q t,a1r (zad p q) t=a1r p t+a1r q t:=by
 induction p with
 |nil=>exact fun q t=>(Int.zero_add _).symm
 |cons a p ih=>
  intro q t;cases q with
  |nil=>exact(Int.add_zero _).symm
  |cons b q=>
   show(a+b)*t 0+a1r (zad p q) _=a*t 0+a1r p _+(b*t 0+a1r q _);rw[ih,Int.add_mul]; ac_rfl
theorem a4m(c:Int)(p:List Int):∀t,a1r (zsc c p) t=c*a1r p t:=by
 induction p with
 |nil=>exact fun t=>(Int.mul_zero _).symm
 |cons a p ih=>
  intro t;show c*a*t 0+a1r (zsc c p) _=c*(a*t 0+a1r p _);rw[ih,Int.mul_add,Int.mul_assoc]
theorem b1k(p q:List Int)(t):a1r (zsb p q) t=a1r p t-a1r q t:=by
 rw[a9l,a4m,Int.neg_one_mul,Int.sub_eq_add_neg]
theorem b5t(n:Nat):∀t,a1r (zun n) t=t n:=by
 induction n with
 |zero=>exact fun t=>(Int.add_zero _).trans (Int.one_mul _)
 |succ n ih=>exact fun t=>((congrArg (0*t 0 + ·) (ih _)).trans (congrArg (· + t (n+1)) (Int.zero_mul _))).trans (Int.zero_add _)
noncomputable def zta(ρ:List Nat)(σ:List Int)(n:Nat):Int:=match n with|0=>1|n+1=>bif n%2==0 then((ρ.getD (n/2) 0:Nat):Int)else σ.getD (n/2) 0
noncomputable abbrev a7b(t:Nat→Int)(g:List (List Int)):=∀l∈g,0≤a1r l t
theorem a3a{t l g}(h:0≤a1r l t)(k:a7b t g):a7b t (l::g):=fun x hx=>by
 cases hx with
 |head=>exact h
 |tail _ hx=>exact k x hx
theorem b1b{t g g'}(h:a7b t g)(k:a7b t g'):a7b t (g++g'):=fun x hx=>(List.mem_append.mp hx).elim (h x) (k x)
noncomputable def d5l:{b:Bool}→ZXD b→Int|true,x=>((x:Nat):Int)|false,x=>x
noncomputable abbrev zok(t:Nat→Int)(x:Int)(c:ZXC):=∃p∈c,a7b t p.1∧a1r p.2 t=x
theorem c3a{t x y c}{f:List (List Int)×List Int→ZXC}(h:zok t x c)(k:∀p,a7b t p.1→a1r p.2 t=x→zok t y (f p)):zok t y (c.flatMap f):=
 let⟨p,m,s,e⟩:=h
 let⟨q,m',r⟩:=k p s e
 ⟨q,List.mem_flatMap.mpr ⟨p,m,m'⟩,r⟩
theorem b9c{t x g l c}(s:a7b t g)(e:a1r l t=x):zok t x ((g,l)::c):=⟨_,.head _,s,e⟩
theorem d7h{t x a c}(h:zok t x c):zok t x (a::c):=let⟨p,m,r⟩:=h; ⟨p,.tail _ m,r⟩
theorem b0x{t p q}(h:a1r q t≤a1r p t):0≤a1r (zsb p q) t:=by rw[b1k]; exact Int.sub_nonneg_of_le h
theorem b9t{t x l r g a b}(s:a7b t g)(h:a1r l t≤a1r r t→a1r a t=x)(k:a1r r t≤a1r l t→a1r b t=x):zok t x [(zsb r l::g,a),(zsb l r::g,b)]:=by
 rcases Int.le_total (a1r l t) (a1r r t)with c|c
 ·exact b9c (a3a (b0x c) s) (h c)
 ·exact d7h (b9c (a3a (b0x c) s) (k c))
theorem d4i{t x l g a b}(s:a7b t g)(h:0≤a1r l t→a1r a t=x)(k:a1r l t≤0→a1r b t=x):zok t x [(l::g,a),(zsc (-1) l::g,b)]:=by
 rcases Int.le_total 0 (a1r l t)with c|c
 ·exact b9c (a3a c s) (h c)
 ·exact d7h (b9c (a3a (by rw[a4m,Int.neg_one_mul]; exact Int.neg_nonneg_of_nonpos c) s) (k c))
theorem c2z(ρ:List Nat)(σ:List Int){b:Bool}(x:ZX b):zok (zta ρ σ) (d5l (x.val ρ σ)) x.lin:=by
 have z:a7b (zta ρ σ) []:=fun _ h=>nomatch h
 induction x with
 |v i=>exact b9c z (by rw[b5t]; show(bif 2*i%2==0 then((ρ.getD (2*i/2) 0:Nat):Int)else _)=_; rw[Nat.mul_mod_right,Nat.mul_div_cancel_left i (Nat.zero_lt_two)]; rfl)
 |k r=>exact b9c z ((Int.add_zero _).trans (Int.mul_one _))
 |w i=>exact b9c z (by rw[b5t]; show(bif (2*i+1)%2==0 then((ρ.getD ((2*i+1)/2) 0:Nat):Int)else σ.getD ((2*i+1)/2) 0)=_; rw[Nat.mul_add_mod,Nat.mul_add_div Nat.zero_lt_two]; rfl)
 |z r=>exact b9c z ((Int.add_zero _).trans (Int.mul_one _))
 |c x ih=>exact ih
 |u o x ih=>
  refine c3a ih fun p s e=>?_;have e:a1r p.2 (zta ρ σ)=x.val ρ σ:=e
  match o with
  |0=>exact d4i s (fun c=>e.trans (Int.toNat_of_nonneg (e▸c)).symm) (fun c=>(congrArg _ (Int.toNat_of_nonpos (e▸c))).symm)
  |_+1=>exact d4i s (fun c=>e.trans (Int.natAbs_of_nonneg (e▸c)).symm) (fun c=>by rw[a4m,Int.neg_one_mul,e]; exact(Int.ofNat_natAbs_of_nonpos (e▸c)).symm)
 |b o x y ih ih'=>
  refine c3a ih fun p s e=>c3a ih' fun q s' e'=>?_;have e:a1r p.2 (zta ρ σ)=((x.val ρ σ:Nat):Int):=e;have e':a1r q.2 (zta ρ σ)=((y.val ρ σ:Nat):Int):=e';have S:=b1b s s'
  match o with
  |0=>exact b9c S (by rw[a9l,e,e']; rfl)
  |1=>exact b9t S (fun c=>by rw[b1k,e,e']; exact(Int.ofNat_sub (Int.ofNat_le.mp (e▸e'▸c))).symm) (fun c=>(congrArg Nat.cast (Nat.sub_eq_zero_of_le (Int.ofNat_le.mp (e▸e'▸c)))).symm)
  |2=>exact b9t S (fun c=>e.trans (congrArg Nat.cast (Nat.min_eq_left (Int.ofNat_le.mp (e▸e'▸c))).symm)) (fun c=>e'.trans (congrArg Nat.cast (Nat.min_eq_right (Int.ofNat_le.mp (e▸e'▸c))).symm))
  |_+3=>exact b9t S (fun c=>e'.trans (congrArg Nat.cast (Nat.max_eq_right (Int.ofNat_le.mp (e▸e'▸c))).symm)) (fun c=>e.trans (congrArg Nat.cast (Nat.max_eq_left (Int.ofNat_le.mp (e▸e'▸c))).symm))
 |d o x y ih ih'=>
  refine c3a ih fun p s e=>c3a ih' fun q s' e'=>?_;have e:a1r p.2 (zta ρ σ)=x.val ρ σ:=e;have e':a1r q.2 (zta ρ σ)=y.val ρ σ:=e';have S:=b1b s s'
  match o with
  |0=>exact b9c S (by rw[a9l,e,e']; rfl)
  |1=>exact b9c S (by rw[b1k,e,e']; rfl)
  |2=>exact b9t S (fun c=>e.trans (Int.min_eq_left (e▸e'▸c)).symm) (fun c=>e'.trans (Int.min_eq_right (e▸e'▸c)).symm)
  |3=>exact b9t S (fun c=>e'.trans (Int.max_eq_right (e▸e'▸c)).symm) (fun c=>e.trans (Int.max_eq_left (e▸e'▸c)).symm)
  |_+4=>exact b9c S (by rw[a4m,e,Int.neg_one_mul]; rfl)
 |m o r x ih=>
  obtain⟨p,h,s,e⟩:=ih;refine⟨_,List.mem_map.mpr ⟨p,h,rfl⟩,s,?_⟩;show a1r (zsc r p.2) _=_;rw[a4m,e]
  match o with
  |0=>exact(Int.natCast_mul _ _).symm
  |_+1=>exact(Int.mul_comm _ _).trans (Int.natCast_mul _ _).symm
 |n o r x ih=>
  obtain⟨p,h,s,e⟩:=ih;refine⟨_,List.mem_map.mpr ⟨p,h,rfl⟩,s,?_⟩;show a1r (zsc r p.2) _=_;rw[a4m,e]
  match o with
  |0=>rfl
  |_+1=>exact Int.mul_comm _ _
noncomputable abbrev b4h(t:Nat→Int)(c:List (List (List Int))):=∃g∈c,a7b t g
theorem c7i{t x c}{f:List (List Int)×List Int→List (List (List Int))}(h:zok t x c)(k:∀p,a7b t p.1→a1r p.2 t=x→b4h t (f p)):b4h t (c.flatMap f):=
 let⟨p,m,s,e⟩:=h
 let⟨q,m',r⟩:=k p s e
 ⟨q,List.mem_flatMap.mpr ⟨p,m,m'⟩,r⟩
theorem b6q{t c d}(h:b4h t c)(k:b4h t d):b4h t (zpr c d):=
 let⟨p,m,s⟩:=h
 let⟨q,m',s'⟩:=k
 ⟨p++q,List.mem_flatMap.mpr ⟨p,m,List.mem_map.mpr ⟨q,m',rfl⟩⟩,b1b s s'⟩
theorem c1y{t c d}(h:b4h t c):b4h t (c++d):=let⟨p,m,s⟩:=h; ⟨p,List.mem_append.mpr (.inl m),s⟩
theorem b9x{t c d}(h:b4h t d):b4h t (c++d):=let⟨p,m,s⟩:=h; ⟨p,List.mem_append.mpr (.inr m),s⟩
theorem b7a{ρ σ p q}(h:a1r q (zta ρ σ)<a1r p (zta ρ σ)):0≤a1r (zad (zsb p q) [-1]) (zta ρ σ):=by
 rw[a9l,b1k]; exact Int.sub_nonneg_of_le (Int.le_sub_left_of_add_le h)
theorem d1i{ρ σ g p q}(s:a7b (zta ρ σ) g)(o:Nat):∀e,zx6 o false (a1r p (zta ρ σ)) (a1r q (zta ρ σ))=(e=true)→b4h (zta ρ σ) (zl6 e o g p q):=by
 intro e h
 match o,e with
 |0,true=>exact⟨_,.head _,a3a (b0x (Eq.mpr h rfl)) s⟩
 |0,false=>exact⟨_,.head _,a3a (b7a (Int.not_le.mp fun c=>nomatch Eq.mp h c)) s⟩
 |1,true=>exact⟨_,.head _,a3a (b7a (Eq.mpr h rfl)) s⟩
 |1,false=>exact⟨_,.head _,a3a (b0x (Int.not_lt.mp fun c=>nomatch Eq.mp h c)) s⟩
 |_+2,true=>
  have h:a1r p (zta ρ σ)=a1r q (zta ρ σ):=Eq.mpr h rfl;exact⟨_,.head _,a3a (b0x (Int.le_of_eq h)) (a3a (b0x (Int.le_of_eq h.symm)) s)⟩
 |_+2,false=>
  rcases Int.lt_trichotomy (a1r p (zta ρ σ)) (a1r q (zta ρ σ))with c|c|c
  ·exact⟨_,.head _,a3a (b7a c) s⟩
  ·exact nomatch Eq.mp h c
  ·exact⟨_,.tail _ (.head _),a3a (b7a c) s⟩
theorem d6m(o:Nat){b:Bool}(x y:ZXD b)(e:Bool)(h:zx6 o b x y=(e=true)):zx6 o false (d5l x) (d5l y)=(e=true):=by
 cases b with
 |true=>
  match o with
  |0=>exact(propext Int.ofNat_le).trans h
  |1=>exact(propext Int.ofNat_lt).trans h
  |_+2=>exact(propext Int.ofNat_inj).trans h
 |false=>match o with|0=>exact h|1=>exact h|_+2=>exact h
theorem c1m(ρ:List Nat)(σ:List Int)(p:XP):∀e,(p.den ρ σ)=(e=true)→b4h (zta ρ σ) (p.dnf e):=by
 induction p with
 |c o x y=>
  intro e h;exact c7i (c2z ρ σ x) fun p s e1=>c7i (c2z ρ σ y) fun q s' e2=>d1i (b1b s s') o e (e1▸e2▸d6m o _ _ e h)
 |f=>
  intro e h;cases e with
  |true=>exact(Eq.mpr h rfl:False).elim
  |false=>exact⟨_,.head _,fun _ h=>nomatch h⟩
 |b o p q ih ih'=>
  have P:∀{r:XP},(∀e,(r.den ρ σ)=(e=true)→b4h (zta ρ σ) (r.dnf e))→r.den ρ σ→b4h (zta ρ σ) (r.dnf true):=fun i d=>i true (propext ⟨fun _=>rfl,fun _=>d⟩);have N:∀{r:XP},(∀e,(r.den ρ σ)=(e=true)→b4h (zta ρ σ) (r.dnf e))→¬r.den ρ σ→b4h (zta ρ σ) (r.dnf false):=fun i d=>i false (propext ⟨fun c=>(d c).elim,fun c=>nomatch c⟩);intro e h;have T:e=true→zx7 o (p.den ρ σ) (q.den ρ σ):=fun c=>Eq.mpr h c;have F:e=false→¬zx7 o (p.den ρ σ) (q.den ρ σ):=fun c d=>nomatch (c.symm.trans (Eq.mp h d));clear h
  match o,e with
  |0,true=>exact b6q (P ih (T rfl).1) (P ih' (T rfl).2)
  |0,false=>
   by_cases c:p.den ρ σ
   ·exact b9x (N ih' fun d=>F rfl ⟨c,d⟩)
   ·exact c1y (N ih c)
  |1,true=>exact(T rfl).elim (fun c=>c1y (P ih c)) (fun c=>b9x (P ih' c))
  |1,false=>exact b6q (N ih fun c=>F rfl (.inl c)) (N ih' fun c=>F rfl (.inr c))
  |2,true=>
   by_cases c:p.den ρ σ
   ·exact b9x (P ih' (T rfl c))
   ·exact c1y (N ih c)
  |2,false=>
   by_cases c:p.den ρ σ
   ·exact b6q (P ih c) (N ih' fun d=>F rfl fun _=>d)
   ·exact absurd (fun d=>absurd d c) (F rfl)
  |_+3,true=>exact N ih (T rfl)
  |_+3,false=>exact P ih (Classical.not_not.mp (F rfl))
noncomputable def zsk(t:Nat→Int)(n:Nat):Int:=match n with|0=>t 0|n+1=>t (n+2)
theorem c2p{c d l}{t:Nat→Int}(C:∀l,0≤a1r l t→(∀a b p,l≠a::b::p)→a7b (zsk t) (c l))(D:∀a b p,0≤a1r (a::b::p) t→a7b (zsk t) (d (a::p) b))(h:0≤a1r l t):a7b (zsk t) (zfz c d l):=
 match l with
 |[]=>C _ h fun _ _ _ e=>nomatch e
 |[_]=>C _ h fun _ _ _ e=>nomatch e
 |a::b::p=>D a b p h
theorem c0e{t:Nat→Int}{g:List (List Int)}{f:List Int→List (List Int)}(h:∀l∈g,a7b t (f l)):a7b t (List.flatMap f g):=fun l m=>let⟨x,a,b⟩:=List.mem_flatMap.mp m; h x a l b
theorem c0c{t l}(h:0≤a1r l t):a7b t [l]:=a3a h fun _ h=>nomatch h
theorem a6l{t}:a7b t []:=fun _ h=>nomatch h
theorem c2l(a b:Int)(p:List Int)(t:Nat→Int):a1r (a::b::p) t=b*t 1+a1r (a::p) (zsk t):=Int.add_left_comm _ _ _
theorem d3k{t g}(h:a7b t g):a7b (zsk t) (zf0 g):=c0e fun l m=>c2p
 (fun l h k=>c0c (match l with|[]=>h|[_]=>h|a::b::p=>absurd rfl (k a b p)))
 (fun a b p h=>by
  rw[c2l]at h
  match b with
  |.ofNat 0=>exact c0c (by rw[show Int.ofNat 0=0 from rfl,Int.zero_mul,Int.zero_add]at h; exact h)
  |.ofNat (_+1)=>exact a6l
  |.negSucc _=>exact a6l) (h l m)
theorem d2m{t g}(h:a7b t g):a7b (zsk t) (zf1 g):=c0e fun l m=>c2p (fun _ _ _=>a6l)
 (fun a b p h1=>by
  match b with
  |.ofNat 0=>exact a6l
  |.negSucc _=>exact a6l
  |.ofNat (n+1)=>
   refine c0e fun r m'=>c2p (fun _ _ _=>a6l) (fun a' b' p' h2=>?_) (h r m')
   match b' with
   |.ofNat _=>exact a6l
   |.negSucc k=>
    refine c0c ?_;rw[c2l]at h1 h2;rw[a9l,a4m,a4m];have e1:=Int.mul_nonneg (show 0≤Int.ofNat (k+1) from Int.ofNat_nonneg _) h1
    have e2:=Int.mul_nonneg (show 0≤Int.ofNat (n+1) from Int.ofNat_nonneg _) h2
    have e3:=Int.add_nonneg e1 e2;have e4:(Int.ofNat (k+1))*(Int.ofNat (n+1)*t 1)+Int.ofNat (n+1)*(Int.negSucc k*t 1)=0:=by
     rw[←Int.mul_assoc,←Int.mul_assoc,←Int.add_mul,show Int.negSucc k=- Int.ofNat (k+1) from rfl,Int.mul_neg,Int.mul_comm (Int.ofNat (n+1)),Int.add_right_neg,Int.zero_mul]
    rw[Int.mul_add,Int.mul_add,Int.add_assoc,Int.add_left_comm (_*a1r _ _),←Int.add_assoc,e4,Int.zero_add]at e3;exact e3) (h l m)
theorem d3u(n:Nat):∀t g,t 0=1→a7b t g→zfm n g=true→False:=by
 induction n with
 |zero=>
  intro t g z h c;obtain⟨l,m,e⟩:=List.any_eq_true.mp c;have k:=h l m
  match l with
  |[]=>cases e
  |.ofNat _::[]=>cases e
  |.ofNat _::_::_=>exact absurd e Bool.false_ne_true
  |.negSucc _::_::_=>exact absurd e Bool.false_ne_true
  |.negSucc b::[]=>rw[show a1r [Int.negSucc b] t=Int.negSucc b*t 0+0 from rfl,z,Int.mul_one,Int.add_zero]at k; exact nomatch k
 |succ n ih=>exact fun t g z h c=>ih (zsk t) _ z (b1b (d3k h) (d2m h)) c
theorem d3z(ρ σ)(n:Nat):a7b (zta ρ σ) (znn n):=by
 induction n with
 |zero=>exact a6l
 |succ n ih=>exact a3a (by rw[b5t]; show 0≤(bif 2*n%2==0 then((ρ.getD (2*n/2) 0:Nat):Int)else _); rw[Nat.mul_mod_right]; exact Int.ofNat_nonneg _) ih
theorem d4m{t}(l:List (List (List (List Int))))(h:∀c∈l,b4h t c):b4h t (zps l):=by
 induction l with
 |nil=>exact⟨[],.head _,a6l⟩
 |cons c l ih=>exact b6q (h c (.head _)) (ih fun x m=>h x (.tail _ m))
theorem lc(n:Nat)(ρ:List Nat)(σ:List Int)(l:List XP)(g:XP)(c:true=a9t n l g)(h:∀p∈l,p.den ρ σ):g.den ρ σ:=by
 refine Classical.byContradiction fun k=>?_;have⟨q,m,s⟩:=d4m (t:=zta ρ σ) (g.dnf false::l.map fun p=>p.dnf true) (fun x m=>by
  cases m with
  |head=>exact c1m ρ σ g false (propext ⟨fun d=>(k d).elim,fun d=>nomatch d⟩)
  |tail _ m=>
   obtain⟨p,m,e⟩:=List.mem_map.mp m;exact e▸c1m ρ σ p true (propext ⟨fun _=>rfl,fun _=>h p m⟩))
 exact d3u _ _ _ rfl (b1b (d3z ρ σ n) s) (List.all_eq_true.mp c.symm q m)
theorem zlq{P:XP→Prop}{a:XP}{l}(h:P a)(k:∀p∈l,P p):∀p∈a::l,P p:=fun p m=>by
 cases m with
 |head=>exact h
 |tail _ m=>exact k p m
theorem c9a{P:XP→Prop}:∀p∈([]:List XP),P p:=fun _ m=>nomatch m
section
variable (n:Nat) (ρ:List Nat) (σ:List Int) (g:XP)
theorem lc0(c:true=a9t n [] g:=by kernel_rfl):g.den ρ σ:=lc n ρ σ _ g c c9a
theorem lc1(p)(h:XP.den ρ σ p)(c:true=a9t n [p] g:=by kernel_rfl):g.den ρ σ:=lc n ρ σ _ g c (zlq h c9a)
theorem lc2(p q)(h:XP.den ρ σ p)(h2:XP.den ρ σ q)(c:true=a9t n [p,q] g:=by kernel_rfl):g.den ρ σ:=lc n ρ σ _ g c (zlq h (zlq h2 c9a))
theorem lc3(p q r)(h:XP.den ρ σ p)(h2:XP.den ρ σ q)(h3:XP.den ρ σ r)(c:true=a9t n [p,q,r] g:=by kernel_rfl):g.den ρ σ:=lc n ρ σ _ g c (zlq h (zlq h2 (zlq h3 c9a)))
theorem lc4(p q r s)(h:XP.den ρ σ p)(h2:XP.den ρ σ q)(h3:XP.den ρ σ r)(h4:XP.den ρ σ s)(c:true=a9t n [p,q,r,s] g:=by kernel_rfl):g.den ρ σ:=lc n ρ σ _ g c (zlq h (zlq h2 (zlq h3 (zlq h4 c9a))))
theorem lc5(p q r s t)(h:XP.den ρ σ p)(h2:XP.den ρ σ q)(h3:XP.den ρ σ r)(h4:XP.den ρ σ s)(h5:XP.den ρ σ t)(c:true=a9t n [p,q,r,s,t] g:=by kernel_rfl):g.den ρ σ:=lc n ρ σ _ g c (zlq h (zlq h2 (zlq h3 (zlq h4 (zlq h5 c9a)))))
theorem lc6(p q r s t u)(h:XP.den ρ σ p)(h2:XP.den ρ σ q)(h3:XP.den ρ σ r)(h4:XP.den ρ σ s)(h5:XP.den ρ σ t)(h6:XP.den ρ σ u)(c:true=a9t n [p,q,r,s,t,u] g:=by kernel_rfl):g.den ρ σ:=lc n ρ σ _ g c (zlq h (zlq h2 (zlq h3 (zlq h4 (zlq h5 (zlq h6 c9a))))))
end
theorem a0j{a:Nat}(g p)(h:XP.den [a] [] p)(o:true=a9t 1 [p] g:=by kernel_rfl):g.den [a] []:=lc1 _ _ _ g p h o
theorem a1d{a b:Nat}(g p)(h:XP.den [a,b] [] p)(o:true=a9t 2 [p] g:=by kernel_rfl):g.den [a,b] []:=lc1 _ _ _ g p h o
theorem a1x{a:Nat}(g)(o:true=a9t 1 [] g:=by kernel_rfl):g.den [a] []:=lc0 _ _ _ g o
theorem a1s{a b:Nat}(g p q)(h:XP.den [a,b] [] p)(i:XP.den [a,b] [] q)(o:true=a9t 2 [p,q] g:=by kernel_rfl):g.den [a,b] []:=lc2 _ _ _ g p q h i o
theorem a1z{a b c:Nat}(g p)(h:XP.den [a,b,c] [] p)(o:true=a9t 3 [p] g:=by kernel_rfl):g.den [a,b,c] []:=lc1 _ _ _ g p h o
theorem a2h{x:Int}(g p)(h:XP.den [] [x] p)(o:true=a9t 1 [p] g:=by kernel_rfl):g.den [] [x]:=lc1 _ _ _ g p h o
theorem a2q{a b c:Nat}(g p q)(h:XP.den [a,b,c] [] p)(i:XP.den [a,b,c] [] q)(o:true=a9t 3 [p,q] g:=by kernel_rfl):g.den [a,b,c] []:=lc2 _ _ _ g p q h i o
theorem a5f(g)(o:true=a9t 0 [] g:=by kernel_rfl):g.den [] []:=lc0 _ _ _ g o
theorem b0s{a b c d:Nat}(g p)(h:XP.den [a,b,c,d] [] p)(o:true=a9t 4 [p] g:=by kernel_rfl):g.den [a,b,c,d] []:=lc1 _ _ _ g p h o
theorem b2z{a b c d:Nat}(g p q)(h:XP.den [a,b,c,d] [] p)(i:XP.den [a,b,c,d] [] q)(o:true=a9t 4 [p,q] g:=by kernel_rfl):g.den [a,b,c,d] []:=lc2 _ _ _ g p q h i o
theorem b5v{a b:Nat}(g)(o:true=a9t 2 [] g:=by kernel_rfl):g.den [a,b] []:=lc0 _ _ _ g o
theorem c3r{a b c d:Nat}(g p q r)(h:XP.den [a,b,c,d] [] p)(i:XP.den [a,b,c,d] [] q)(j:XP.den [a,b,c,d] [] r)(o:true=a9t 4 [p,q,r] g:=by kernel_rfl):g.den [a,b,c,d] []:=lc3 _ _ _ g p q r h i j o
theorem c7j{x y:Int}(g p)(h:XP.den [] [x,y] p)(o:true=a9t 2 [p] g:=by kernel_rfl):g.den [] [x,y]:=lc1 _ _ _ g p h o
theorem c8r{a:Nat}{x:Int}(g p)(h:XP.den [a] [x] p)(o:true=a9t 1 [p] g:=by kernel_rfl):g.den [a] [x]:=lc1 _ _ _ g p h o
end
section
noncomputable abbrev P:=d8e
set_option genInjectivity true in
inductive V where
 |undef
 |dat (d:d8e)
 |own (k:Nat)
 |fn (f:Nat)
 |tab (kvs:List (d8e×d8e))
 |twin (d:d8e)
set_option genInjectivity true in
inductive OV where
 |lst (l:List d8e)
 |froz (l:List d8e)
 |iter (l:List d8e)
 |dead
set_option genInjectivity true in
structure St where
 vars:List V
 own:List OV
 hz:Bool
noncomputable def St.get(st:St)(i:Nat):V:=st.vars.getD i .undef
noncomputable def St.set(st:St)(i:Nat)(v:V):St:={ st with vars:=st.vars.set i v }
noncomputable def St.setOwn(st:St)(k:Nat)(o:OV):St:={ st with own:=st.own.set k o }
noncomputable def St.push(st:St)(o:OV):St:={ st with own:=st.own++[o] }
noncomputable def St.dat?(st:St):V→Option d8e
 |.dat d=>some d
 |.own k=>match st.own[k]? with
  |some (.lst l)=>some (.list l)
  |some (.froz l)=>some (.list l)
  |_=>none
 |_=>none
noncomputable def St.datAll(st:St):List V→Option (List d8e)
 |[]=>some []
 |v::vs=>match st.dat? v,st.datAll vs with
  |some d,some ds=>some (d::ds)
  |_,_=>none
def keepV(st:St)(v:V)(Q:d8e→St→Prop):Prop:=match v with
 |.dat d=>Q d st
 |.own k=>match st.own[k]? with
  |some (.lst l)=>Q (.list l) (st.setOwn k (.froz l))
  |some (.froz l)=>Q (.list l) st
  |_=>False
 |_=>False
inductive Op2|add|sub|mul|fdiv|mod|pow|shl|shr|band|bor|bxor
inductive Cmp|eq|ne|lt|le|gt|ge|is|isnot|isin|notin
noncomputable def b2i(b:Bool):Int:=if b then 1 else 0
abbrev onI(d:d8e)(K:Int→Prop):Prop:=match d with|.int i=>K i|_=>False
abbrev onB(d:d8e)(K:Bool→Prop):Prop:=match d with|.bool i=>K i|_=>False
abbrev onS(d:d8e)(K:Str→Prop):Prop:=match d with|.str s=>K s|_=>False
abbrev onL(d:d8e)(K:List d8e→Prop):Prop:=match d with|.list l=>K l|_=>False
abbrev on0(l:List d8e)(K:Prop):Prop:=match l with|[]=>K|_=>False
abbrev on1(l:List d8e)(K:d8e→Prop):Prop:=match l with|[]=>False|x::r=>on0 r (K x)
abbrev on2(l:List d8e)(K:d8e→d8e→Prop):Prop:=match l with|[]=>False|x::r=>on1 r (K x)
abbrev on3(l:List d8e)(K:d8e→d8e→d8e→Prop):Prop:=match l with|[]=>False|x::r=>on2 r (K x)
theorem a7i{K:Int→Prop}(h:onI d K):∃i,d=.int i∧K i:=by cases d <;> first|exact h.elim|exact⟨_,rfl,h⟩
theorem c9z{K:Bool→Prop}(h:onB d K):∃i,d=.bool i∧K i:=by cases d <;> first|exact h.elim|exact⟨_,rfl,h⟩
theorem a9y{K:Str→Prop}(h:onS d K):∃i,d=.str i∧K i:=by cases d <;> first|exact h.elim|exact⟨_,rfl,h⟩
theorem c3p{K:List d8e→Prop}(h:onL d K):∃i,d=.list i∧K i:=by cases d <;> first|exact h.elim|exact⟨_,rfl,h⟩
theorem d2q{l:List d8e}{K:Prop}(h:on0 l K):l=[]∧K:=by cases l <;> first|exact h.elim|exact⟨rfl,h⟩
theorem d2r{l:List d8e}{K:d8e→Prop}(h:on1 l K):∃x,l=[x]∧K x:=by
 cases l with
 |nil=>exact h.elim
 |cons x r=>obtain⟨rfl,h⟩:=d2q h; exact⟨_,rfl,h⟩
theorem d3d{l:List d8e}{K:d8e→d8e→Prop}(h:on2 l K):∃x y,l=[x,y]∧K x y:=by
 cases l with
 |nil=>exact h.elim
 |cons x r=>obtain⟨y,rfl,h⟩:=d2r h; exact⟨_,_,rfl,h⟩
theorem d6a{l:List d8e}{K:d8e→d8e→d8e→Prop}(h:on3 l K):∃x y z,l=[x,y,z]∧K x y z:=by
 cases l with
 |nil=>exact h.elim
 |cons x r=>obtain⟨y,z,rfl,h⟩:=d3d h; exact⟨_,_,_,rfl,h⟩
abbrev c8n(o:Op2)(p:Prop):Prop:=match o with|.add=>p|_=>False
abbrev c9x(o:Op2)(p:Prop):Prop:=match o with|.mul=>p|_=>False
theorem b9n{o:Op2}{p:Prop}(h:c8n o p):o=.add∧p:=by cases o <;> first|exact h.elim|exact⟨rfl,h⟩
theorem c0m{o:Op2}{p:Prop}(h:c9x o p):o=.mul∧p:=by cases o <;> first|exact h.elim|exact⟨rfl,h⟩
abbrev d7p(o:Op2)(x y:Int)(Q:d8e→Prop):Prop:=match o with
 |.add=>Q (.int (x+y))
 |.sub=>Q (.int (x-y))
 |.mul=>(x.natAbs<2^64∨y.natAbs<2^64)∧Q (.int (x*y))
 |.fdiv=>(y≠0∧y.natAbs<2^4000)∧Q (.int (x.fdiv y))
 |.mod=>y≠0∧Q (.int (x.fmod y))
 |.pow=>(0≤y∧y≤1000∧x.natAbs<2^64)∧Q (.int (x^y.toNat))
 |.shl=>(0≤y∧y≤1000∧x.natAbs<2^4000)∧Q (.int (x*2^y.toNat))
 |.shr=>0≤y∧Q (.int (x.fdiv (2^y.toNat)))
 |.band=>Q (.int (Builtin.bitAnd x y))
 |.bor=>Q (.int (Builtin.bitOr x y))
 |.bxor=>Q (.int (Builtin.bitXor x y))
def b3a(o:Op2)(a b:d8e)(Q:d8e→Prop):Prop:=match a with
 |.int x=>match b with
  |.int y=>d7p o x y Q
  |.bool y=>c9x o (Q (.int (x*b2i y)))
  |_=>False
 |.str x=>onS b fun y=>c8n o (x.length+y.length≤d8y∧Q (.str (x++y)))
 |.list x=>match b with
  |.list y=>c8n o (x.length+y.length≤1000000∧Q (.list (x++y)))
  |.int y=>c9x o ((0≤y∧y≤1000000∧x.length*y.toNat≤1000000)∧Q (.list (List.replicate y.toNat x).flatten))
  |_=>False
 |_=>False
section
variable {x y:Int} {Q:d8e→Prop}
theorem b_add:b3a .add (.int x) (.int y) Q=Q (.int (x+y)):=rfl
theorem b_sub:b3a .sub (.int x) (.int y) Q=Q (.int (x-y)):=rfl
theorem b_mul:b3a .mul (.int x) (.int y) Q=((x.natAbs<2^64∨y.natAbs<2^64)∧Q (.int (x*y))):=rfl
theorem b_fdiv:b3a .fdiv (.int x) (.int y) Q=((y≠0∧y.natAbs<2^4000)∧Q (.int (x.fdiv y))):=rfl
theorem b_mod:b3a .mod (.int x) (.int y) Q=(y≠0∧Q (.int (x.fmod y))):=rfl
theorem b_pow:b3a .pow (.int x) (.int y) Q=((0≤y∧y≤1000∧x.natAbs<2^64)∧Q (.int (x^y.toNat))):=rfl
theorem b_shl:b3a .shl (.int x) (.int y) Q=((0≤y∧y≤1000∧x.natAbs<2^4000)∧Q (.int (x*2^y.toNat))):=rfl
theorem b_shr:b3a .shr (.int x) (.int y) Q=(0≤y∧Q (.int (x.fdiv (2^y.toNat)))):=rfl
theorem b_and:b3a .band (.int x) (.int y) Q=Q (.int (Builtin.bitAnd x y)):=rfl
theorem b_or:b3a .bor (.int x) (.int y) Q=Q (.int (Builtin.bitOr x y)):=rfl
theorem b_xor:b3a .bxor (.int x) (.int y) Q=Q (.int (Builtin.bitXor x y)):=rfl
theorem b_str{x y:Str}:b3a .add (.str x) (.str y) Q=(x.length+y.length≤d8y∧Q (.str (x++y))):=rfl
theorem b_list{x y:List d8e}:b3a .add (.list x) (.list y) Q=(x.length+y.length≤1000000∧Q (.list (x++y))):=rfl
theorem b_bool{y:Bool}:b3a .mul (.int x) (.bool y) Q=Q (.int (x*b2i y)):=rfl
theorem b_rep{x:List d8e}:b3a .mul (.list x) (.int y) Q=((0≤y∧y≤1000000∧x.length*y.toNat≤1000000)∧Q (.list (List.replicate y.toNat x).flatten)):=rfl
end
abbrev d7z(o:Op2)(x y:Int)(Q:d8e→Prop):Prop:=match o with
 |.add=>Q (.int (x+y))
 |.sub=>Q (.int (x-y))
 |.shl=>(0≤y∧y≤1000∧x.natAbs<2^4000)∧Q (.int (x*2^y.toNat))
 |.bor=>Q (.int (Builtin.bitOr x y))
 |_=>False
def c8p(o:Op2)(a b:d8e)(Q:d8e→Prop):Prop:=onI a fun x=>onI b fun y=>d7z o x y Q
section
variable {x y:Int} {Q:d8e→Prop}
theorem a_add:c8p .add (.int x) (.int y) Q=Q (.int (x+y)):=rfl
theorem a_sub:c8p .sub (.int x) (.int y) Q=Q (.int (x-y)):=rfl
theorem a_shl:c8p .shl (.int x) (.int y) Q=((0≤y∧y≤1000∧x.natAbs<2^4000)∧Q (.int (x*2^y.toNat))):=rfl
theorem a_or:c8p .bor (.int x) (.int y) Q=Q (.int (Builtin.bitOr x y)):=rfl
end
def a6g(d:d8e)(Q:Bool→Prop):Prop:=match d with
 |.none=>Q false
 |.bool b=>Q b
 |.int i=>Q (i != 0)
 |.str s=>s.length≤1000000∧Q ((s.length:Int) != 0)
 |.list l=>l.length≤1000000∧Q ((l.length:Int) != 0)
 |_=>False
section
variable {Q:Bool→Prop} {b:Bool} {i:Int} {s:Str} {l:List d8e}
theorem tw_n:a6g .none Q=Q false:=rfl
theorem tw_b:a6g (.bool b) Q=Q b:=rfl
theorem tw_i:a6g (.int i) Q=Q (i != 0):=rfl
theorem tw_s:a6g (.str s) Q=(s.length≤1000000∧Q ((s.length:Int) != 0)):=rfl
theorem tw_l:a6g (.list l) Q=(l.length≤1000000∧Q ((l.length:Int) != 0)):=rfl
end
def truthV(d:Option d8e)(Q:Bool→Prop):Prop:=match d with
 |some d=>a6g d Q
 |none=>False
noncomputable def a1i(n:Nat)(i:Int):Option Nat:=if 0≤i then(if i.toNat<n then some i.toNat else none)else if -(n:Int)≤i then some (i+n).toNat else none
noncomputable def c2s(n:Nat)(i:Int):Nat:=if 0≤i then min i.toNat n else(i+n).toNat
noncomputable def cut{α:Type}(l:List α)(lo hi:Option Int):List α:=
 (l.take (match hi with|none=>l.length|some i=>c2s l.length i)).drop (match lo with|none=>0|some i=>c2s l.length i)
noncomputable def c3g:List d8e→Option Int
 |[]=>some 0
 |.int i::r=>(c3g r).map (i + ·)
 |_=>none
noncomputable def b8g:List d8e→Option Int
 |[.int i]=>some i
 |.int i::r=>(b8g r).map (min i ·)
 |_=>none
noncomputable def c3h:List d8e→Option Int
 |[.int i]=>some i
 |.int i::r=>(c3h r).map (max i ·)
 |_=>none
noncomputable def b2x:List d8e→Option (List Str)
 |[]=>some []
 |.str s::r=>(b2x r).map (s :: ·)
 |_=>none
noncomputable def b9b(a:Int)(n:Nat):List d8e:=(List.range n).map fun(k:Nat)=>.int (a+(k:Int))
noncomputable def a2j(n:Nat):List d8e:=(List.range n).map fun(k:Nat)=>.int ((n:Int)-1-(k:Int))
noncomputable def b2b(l:List d8e):List d8e:=(List.range l.length).zipWith (fun(k:Nat) d=>.tuple [.int (k:Int),d]) l
noncomputable def d8b(l m:List d8e):List d8e:=l.zipWith (fun a b=>.tuple [a,b]) m
noncomputable def b6d:d8e→Bool|.none=>true|_=>false
abbrev eqP(a b:d8e)(Q:Bool→Prop):Prop:=
 let K:=(SeqAt.shaped a=true∧SeqAt.shaped b=true)∧Q (PyData.eqv a b)
 match a with
 |.int x=>match b with|.int y=>Q (x==y)|_=>K
 |.str x=>match b with|.str y=>Q (x==y)|_=>K
 |_=>K
abbrev isP(a b:d8e)(Q:Bool→Prop):Prop:=match b with
 |.none=>Q (b6d a)
 |.bool y=>onB a fun x=>Q (x==y)
 |_=>False
abbrev inP(a b:d8e)(Q:Bool→Prop):Prop:=match b with
 |.str y=>onS a fun x=>Q (Txt.contains y x)
 |.list l=>(SeqAt.shaped a=true∧SeqAt.shaped (.list l)=true)∧Q (l.any fun y=>PyData.eqv y a)
 |_=>False
abbrev niP(a b:d8e)(Q:Bool→Prop):Prop:=match b with
 |.str y=>onS a fun x=>Q (!Txt.contains y x)
 |.tuple l=>(SeqAt.shaped a=true∧SeqAt.shaped (.tuple l)=true)∧Q (!l.any fun y=>PyData.eqv y a)
 |_=>False
def b2g(o:Cmp)(a b:d8e)(Q:Bool→Prop):Prop:=match o with
 |.eq=>eqP a b Q
 |.ne=>(SeqAt.shaped a=true∧SeqAt.shaped b=true)∧Q (!PyData.eqv a b)
 |.lt=>onI a fun x=>onI b fun y=>Q (decide (x<y))
 |.le=>onI a fun x=>onI b fun y=>Q (decide (x≤y))
 |.gt=>onI a fun x=>onI b fun y=>Q (decide (y<x))
 |.ge=>onI a fun x=>onI b fun y=>Q (decide (y≤x))
 |.is=>isP a b Q
 |.isnot=>onB a fun x=>onB b fun y=>Q (!(x==y))
 |.isin=>inP a b Q
 |.notin=>niP a b Q
section
variable {x y:Int} {s t:Str} {a b:d8e} {l:List d8e} {u v:Bool} {Q:Bool→Prop}
theorem c_eqi:b2g .eq (.int x) (.int y) Q=Q (x==y):=rfl
theorem c_eqs:b2g .eq (.str s) (.str t) Q=Q (s==t):=rfl
theorem c_eql:b2g .eq (.list l) b Q=((SeqAt.shaped (.list l)=true∧SeqAt.shaped b=true)∧Q (PyData.eqv (.list l) b)):=rfl
theorem c_eqb:b2g .eq (.bool u) b Q=((SeqAt.shaped (.bool u)=true∧SeqAt.shaped b=true)∧Q (PyData.eqv (.bool u) b)):=rfl
theorem c_ne:b2g .ne a b Q=((SeqAt.shaped a=true∧SeqAt.shaped b=true)∧Q (!PyData.eqv a b)):=rfl
theorem c_lt:b2g .lt (.int x) (.int y) Q=Q (decide (x<y)):=rfl
theorem c_le:b2g .le (.int x) (.int y) Q=Q (decide (x≤y)):=rfl
theorem c_gt:b2g .gt (.int x) (.int y) Q=Q (decide (y<x)):=rfl
theorem c_ge:b2g .ge (.int x) (.int y) Q=Q (decide (y≤x)):=rfl
theorem c_isb:b2g .is (.bool u) (.bool v) Q=Q (u==v):=rfl
theorem c_isn:b2g .is a .none Q=Q (b6d a):=rfl
theorem c_nob:b2g .isnot (.bool u) (.bool v) Q=Q (!(u==v)):=rfl
theorem c_ins:b2g .isin (.str s) (.str t) Q=Q (Txt.contains t s):=rfl
theorem c_inl:b2g .isin a (.list l) Q=((SeqAt.shaped a=true∧SeqAt.shaped (.list l)=true)∧Q (l.any fun y=>PyData.eqv y a)):=rfl
theorem c_nis:b2g .notin (.str s) (.str t) Q=Q (!Txt.contains t s):=rfl
theorem c_nit:b2g .notin a (.tuple l) Q=((SeqAt.shaped a=true∧SeqAt.shaped (.tuple l)=true)∧Q (!l.any fun y=>PyData.eqv y a)):=rfl
end
abbrev atP(a:d8e)(k:Int)(Q:d8e→Prop):Prop:=match a with
 |.list l=>(-1000000≤k∧k≤1000000)∧match (a1i l.length k).bind (l[·]?)with|some d=>Q d|none=>False
 |.tuple l=>(-1000000≤k∧k≤1000000)∧match (a1i l.length k).bind (l[·]?)with|some d=>Q d|none=>False
 |_=>False
abbrev atO(a:Option d8e)(k:Int)(Q:d8e→Prop):Prop:=match a with|some d=>atP d k Q|none=>False
abbrev ix2(va:V)(a:Option d8e)(k:Int)(Q:d8e→Prop):Prop:=match va with
 |.tab kvs=>match Spec.lookup (.int k) kvs with|some (.str s)=>Q (.str s)|_=>False
 |_=>atO a k Q
def c8t(va:V)(a:Option d8e)(i:Option d8e)(Q:d8e→Prop):Prop:=match i with|some d=>onI d fun k=>ix2 va a k Q|none=>False
section
variable {k:Int} {l:List d8e} {d:d8e} {a:Option d8e} {kvs:List (d8e×d8e)} {j:Nat} {Q:d8e→Prop}
theorem i_tab:c8t (.tab kvs) a (some (.int k)) Q=match Spec.lookup (.int k) kvs with|some (.str s)=>Q (.str s)|_=>False:=rfl
theorem i_dl:c8t (.dat d) (some (.list l)) (some (.int k)) Q=((-1000000≤k∧k≤1000000)∧match (a1i l.length k).bind (l[·]?)with|some d=>Q d|none=>False):=rfl
theorem i_dt:c8t (.dat d) (some (.tuple l)) (some (.int k)) Q=((-1000000≤k∧k≤1000000)∧match (a1i l.length k).bind (l[·]?)with|some d=>Q d|none=>False):=rfl
theorem i_ol:c8t (.own j) (some (.list l)) (some (.int k)) Q=((-1000000≤k∧k≤1000000)∧match (a1i l.length k).bind (l[·]?)with|some d=>Q d|none=>False):=rfl
end
noncomputable def bdD:d8e→Option Int
 |.int i=>some i
 |_=>none
def sl2(a:d8e)(lo hi:Option Int)(Q:d8e→Prop):Prop:=match a with
 |.list l=>l.length≤1000000∧Q (.list (cut l lo hi))
 |.str s=>s.length≤1000000∧Q (.str ⟨(cut s.cps.toList lo hi).toArray⟩)
 |_=>False
theorem sl_l{l:List d8e}{lo hi:Option Int}{Q:d8e→Prop}:sl2 (.list l) lo hi Q=(l.length≤1000000∧Q (.list (cut l lo hi))):=rfl
theorem sl_s{s:Str}{lo hi:Option Int}{Q:d8e→Prop}:sl2 (.str s) lo hi Q=(s.length≤1000000∧Q (.str ⟨(cut s.cps.toList lo hi).toArray⟩)):=rfl
inductive B|len|sum|min|max|max2|abs|divmod|isint
abbrev d7u(d:d8e)(Q:d8e→Prop):Prop:=match d with
 |.list l=>l.length≤1000000∧Q (.int l.length)
 |.str s=>s.length≤1000000∧Q (.int s.length)
 |_=>False
abbrev d7r(d:d8e)(Q:d8e→Prop):Prop:=match d with
 |.int _=>Q (.bool true)
 |.list _=>Q (.bool false)
 |_=>False
def bi2(b:B)(as:List d8e)(Q:d8e→Prop):Prop:=match b with
 |.len=>on1 as fun d=>d7u d Q
 |.sum=>on1 as fun d=>onL d fun l=>match c3g l with|some i=>(l.length≤1000000∧∀d∈l,∃j:Int,d=.int j∧j.natAbs<2^32)∧Q (.int i)|none=>False
 |.min=>on1 as fun d=>onL d fun l=>match b8g l with|some i=>Q (.int i)|none=>False
 |.max=>on1 as fun d=>onL d fun l=>match c3h l with|some i=>Q (.int i)|none=>False
 |.max2=>on2 as fun a b=>onI a fun x=>onI b fun y=>Q (.int (max x y))
 |.abs=>on1 as fun d=>onI d fun x=>Q (.int x.natAbs)
 |.divmod=>on2 as fun a b=>onI a fun x=>onI b fun y=>(y≠0∧y.natAbs<2^4000)∧Q (.tuple [.int (x.fdiv y),.int (x.fmod y)])
 |.isint=>on1 as fun d=>d7r d Q
section
variable {x y:Int} {s:Str} {l:List d8e} {Q:d8e→Prop}
theorem f_lenl:bi2 .len [.list l] Q=(l.length≤1000000∧Q (.int l.length)):=rfl
theorem f_lens:bi2 .len [.str s] Q=(s.length≤1000000∧Q (.int s.length)):=rfl
theorem f_sum:bi2 .sum [.list l] Q=match c3g l with|some i=>(l.length≤1000000∧∀d∈l,∃j:Int,d=.int j∧j.natAbs<2^32)∧Q (.int i)|none=>False:=rfl
theorem f_min:bi2 .min [.list l] Q=match b8g l with|some i=>Q (.int i)|none=>False:=rfl
theorem f_max:bi2 .max [.list l] Q=match c3h l with|some i=>Q (.int i)|none=>False:=rfl
theorem f_max2:bi2 .max2 [.int x,.int y] Q=Q (.int (max x y)):=rfl
theorem f_abs:bi2 .abs [.int x] Q=Q (.int x.natAbs):=rfl
theorem f_dm:bi2 .divmod [.int x,.int y] Q=((y≠0∧y.natAbs<2^4000)∧Q (.tuple [.int (x.fdiv y),.int (x.fmod y)])):=rfl
theorem f_ii:bi2 .isint [.int x] Q=Q (.bool true):=rfl
theorem f_il:bi2 .isint [.list l] Q=Q (.bool false):=rfl
end
inductive M|bitlen|join|starts|ends|find|split
abbrev meD(m:M)(d:d8e):Prop:=match m with
 |.bitlen=>onI d fun _=>True
 |_=>onS d fun _=>True
def c4z(m:M)(o:Option d8e):Prop:=match o with|some d=>meD m d|none=>False
section
variable {x:Int} {s:Str} {l:List d8e}
theorem m_bl:c4z .bitlen (some (.int x))=True:=rfl
theorem m_jn:c4z .join (some (.str s))=True:=rfl
theorem m_st:c4z .starts (some (.str s))=True:=rfl
theorem m_en:c4z .ends (some (.str s))=True:=rfl
theorem m_fi:c4z .find (some (.str s))=True:=rfl
theorem m_sp:c4z .split (some (.str s))=True:=rfl
end
noncomputable def b8k(x y:Str)(a b:Int):Int:=match Builtin.Str.occurrences x y a.toNat b.toNat 1 with
 |i::_=>i
 |[]=>-1
def me2(m:M)(o:d8e)(as:List d8e)(Q:d8e→Prop):Prop:=match m with
 |.bitlen=>onI o fun x=>on0 as (Q (.int (Builtin.Int.intBits x)))
 |.join=>onS o fun s=>on1 as fun d=>onL d fun l=>match b2x l with|some ss=>JoinOk s ss=true∧Q (.str (Txt.join s ss))|none=>False
 |.starts=>onS o fun s=>on1 as fun d=>onS d fun p=>Q (.bool (Txt.startswith s p))
 |.ends=>onS o fun s=>on1 as fun d=>onS d fun p=>Q (.bool (Txt.endswith s p))
 |.find=>onS o fun s=>on3 as fun d e f=>onS d fun p=>onI e fun a=>onI f fun b=>(0≤a∧a≤b∧b≤s.length)∧Q (.int (b8k s p a b))
 |.split=>onS o fun s=>on1 as fun d=>onS d fun p=>(0<p.length∧s.length≤1000000∧(Txt.split s p).length≤1000000)∧Q (.list ((Txt.split s p).map .str))
section
variable {x a b:Int} {d:d8e} {s p:Str} {l:List d8e} {Q:d8e→Prop}
theorem g_bl:me2 .bitlen (.int x) [] Q=Q (.int (Builtin.Int.intBits x)):=rfl
theorem g_jn:me2 .join (.str s) [.list l] Q=match b2x l with|some ss=>JoinOk s ss=true∧Q (.str (Txt.join s ss))|none=>False:=rfl
theorem g_st:me2 .starts (.str s) [.str p] Q=Q (.bool (Txt.startswith s p)):=rfl
theorem g_en:me2 .ends (.str s) [.str p] Q=Q (.bool (Txt.endswith s p)):=rfl
theorem g_fi:me2 .find (.str s) [.str p,.int a,.int b] Q=((0≤a∧a≤b∧b≤s.length)∧Q (.int (b8k s p a b))):=rfl
theorem g_sp:me2 .split (.str s) [.str p] Q=((0<p.length∧s.length≤1000000∧(Txt.split s p).length≤1000000)∧Q (.list ((Txt.split s p).map .str))):=rfl
end
inductive T|one(i:Nat)|tup (is:List Nat)
set_option genCtorIdx false in
mutual
inductive E
 |int (i:Int)|str (s:Str)|bool (b:Bool)|none
 |var (i:Nat)
 |gint (x:Str) (i:Int)
 |gstr (x:Str) (s:Str)
 |gfn (f:Nat)
 |bin (o:Op2) (a b:E)
 |not (a:E)|neg (a:E)|inv (a:E)
 |or (a b:E)
 |cmp (o:Cmp) (a b:E)
 |ite (c t f:E)
 |idx (a i:E)
 |sl (a:E) (lo hi:O)
 |list (es:Es)|tup (es:Es)
 |comp (g:G)
 |call (f:Nat) (as:Es)
 |bi (b:B) (as:Es)
 |me (m:M) (o:E) (as:Es)
 |words (s:Str) (ws:List Str)
 |pop (i:Nat) (e:E)
 |next (i:Nat)
 |callV (i f:Nat) (as:Es)
inductive O|none|some(e:E)
inductive Es|nil|cons(e:E)(es:Es)
inductive G
 |elt (e:E)
 |for (t:T) (it:I) (g:G)
 |forIf (t:T) (it:I) (c:E) (g:G)
inductive I
 |over (e:E)|range (a:E)|range2 (a b:E)|rangeDown (a:E)
 |enum (e:E)|rev (e:E)|revRange (e:E)
end
set_option genCtorIdx false in
mutual
inductive S
 |assign (i:Nat) (e:E)
 |assignOwn (i:Nat) (e:E)
 |assignTup (is:List Nat) (e:E)
 |multi (ms:Ms)
 |setIdx (i:Nat) (ix v:E)
 |augIdx (i:Nat) (ix:E) (o:Op2) (v:E)
 |aug (i:Nat) (o:Op2) (v:E)
 |ifs (c:E) (t f:Ss)
 |ret (e:E)
 |append (i:Nat) (e:E)
 |reverse (i:Nat)
 |delIdx (i:Nat) (k:Int)
 |for (t:T) (it:I) (b:Ss)
 |while (c:E) (b:Ss)
 |assert (c:E)
 |tryStop (pre:List Nat) (i:Nat) (h:Ss)
 |toks (i:Nat)
 |expr (e:E)
 |retNone
 |stuck
inductive Ss|nil|cons(s:S)(ss:Ss)|info (r a wh:Nat) (f:Nat) (as:Es) (ks:List Str) (kvs:Es) (ss:Ss)
inductive Ms|nil|plain(i:Nat)(e:E)(r:Ms)|own (i:Nat) (e:E) (r:Ms)|iter (i:Nat) (e:E) (r:Ms)
end
noncomputable def T.ids:T→List Nat
 |.one i=>[i]
 |.tup is=>is
noncomputable def G.ids:G→List Nat
 |.elt _=>[]
 |.for t _ g=>t.ids++g.ids
 |.forIf t _ _ g=>t.ids++g.ids
noncomputable def St.clr(st:St)(is:List Nat):St:={ st with vars:=is.foldl (fun vs i=>vs.set i .undef) st.vars }
noncomputable abbrev Spec:=Bool→List Str→List V→List OV→(V→List OV→Prop)→Prop
noncomputable abbrev Ctx:=Nat→Spec
def bindT(t:T)(d:d8e)(st:St)(K:St→Prop):Prop:=match t,d with
 |.one i,d=>K (st.set i (.dat d))
 |.tup is,.tuple ds=>is.length=ds.length∧K ((is.zip ds).foldl (fun st p=>st.set p.1 (.dat p.2)) st)
 |.tup is,.list ds=>is.length=ds.length∧K ((is.zip ds).foldl (fun st p=>st.set p.1 (.dat p.2)) st)
 |_,_=>False
noncomputable def seqD:d8e→Option (List d8e)
 |.list l=>some l
 |.tuple l=>some l
 |_=>none
set_option genInjectivity true in
inductive Fl|next|ret(d:d8e)
noncomputable def a1q(body:d8e→St→List d8e→(List d8e→St→Prop)→Prop):List d8e→St→List d8e→(List d8e→St→Prop)→Prop
 |[],st,acc,K=>K acc st
 |d::ds,st,acc,K=>body d st acc fun acc st=>a1q body ds st acc K
noncomputable def b3u(body:d8e→St→(Fl→St→Prop)→Prop):List d8e→St→(Fl→St→Prop)→Prop
 |[],st,K=>K .next st
 |d::ds,st,K=>body d st fun f st=>match f with
  |.next=>b3u body ds st K
  |.ret r=>K (.ret r) st
noncomputable def a4r(c:St→(Bool→St→Prop)→Prop)(b:St→(Fl→St→Prop)→Prop):Nat→St→(Fl→St→Prop)→Prop
 |0,_,_=>False
 |n+1,st,K=>c st fun t st=>if t=true then b st (fun f st=>match f with
   |.next=>a4r c b n st K
   |.ret r=>K (.ret r) st)else K .next st
def argV(st:St)(v:V)(Q:V→St→Prop):Prop:=match v with
 |.own k=>match st.own[k]? with
  |some (.lst l)=>Q (.dat (.list l)) (st.setOwn k (.froz l))
  |some (.froz l)=>Q (.dat (.list l)) st
  |some (.iter _)=>Q (.own k) st
  |_=>False
 |.undef=>False
 |.twin _=>False
 |v=>Q v st
section
variable (Γ:Ctx) (tk:List (d8e×d8e))
mutual
noncomputable def wpE:E→St→(V→St→Prop)→Prop
 |.int i,st,Q=>Q (.dat (.int i)) st
 |.str s,st,Q=>Q (.dat (.str s)) st
 |.bool b,st,Q=>Q (.dat (.bool b)) st
 |.none,st,Q=>Q (.dat .none) st
 |.var i,st,Q=>match st.get i with
  |.undef=>False
  |v=>Q v st
 |.gint _ i,st,Q=>Q (.dat (.int i)) st
 |.gstr _ s,st,Q=>Q (.dat (.str s)) st
 |.gfn f,st,Q=>Q (.fn f) st
 |.bin o a b,st,Q=>wpE a st fun va st=>wpE b st fun vb st=>match st.dat? va,st.dat? vb with
  |some x,some y=>b3a o x y fun d=>Q (.dat d) st
  |_,_=>False
 |.not a,st,Q=>wpE a st fun v st=>truthV (st.dat? v) fun b=>Q (.dat (.bool !b)) st
 |.neg a,st,Q=>wpE a st fun v st=>match st.dat? v with
  |some (.int i)=>Q (.dat (.int (-i))) st
  |_=>False
 |.inv a,st,Q=>wpE a st fun v st=>match st.dat? v with
  |some (.int i)=>Q (.dat (.int (Builtin.bitNot i))) st
  |_=>False
 |.or a b,st,Q=>wpE a st fun v st=>truthV (st.dat? v) fun t=>if t=true then Q v st else wpE b st Q
 |.cmp o a b,st,Q=>wpE a st fun va st=>wpE b st fun vb st=>match st.dat? va,st.dat? vb with
  |some x,some y=>b2g o x y fun t=>Q (.dat (.bool t)) st
  |_,_=>False
 |.ite c t f,st,Q=>wpT c st fun b st=>if b=true then wpE t st Q else wpE f st Q
 |.idx a i,st,Q=>wpE a st fun va st=>wpE i st fun vi st=>c8t va (st.dat? va) (st.dat? vi) fun d=>Q (.dat d) st
 |.sl a lo hi,st,Q=>wpE a st fun va st=>wpO lo st fun l st=>wpO hi st fun h st=>match st.dat? va with
  |some d=>sl2 d l h fun d=>Q (.dat d) st
  |none=>False
 |.list es,st,Q=>wpEs es st [] fun ds st=>Q (.dat (.list ds)) st
 |.tup es,st,Q=>wpEs es st [] fun ds st=>Q (.dat (.tuple ds)) st
 |.comp g,st,Q=>wpG g (st.clr g.ids) [] fun acc st'=>Q (.dat (.list acc)) { st' with vars:=st.vars }
 |.call f as,st,Q=>wpAs as st [] fun vs st=>Γ f st.hz [] vs st.own fun v ow=>(∃d,v=.dat d)∧Q v { st with own:=ow }
 |.bi b as,st,Q=>wpRs as st [] fun vs st=>match st.datAll vs with
  |some ds=>bi2 b ds fun d=>Q (.dat d) st
  |none=>False
 |.me m o as,st,Q=>wpE o st fun vo st=>c4z m (st.dat? vo)∧wpRs as st [] fun vs st=>match st.dat? vo,st.datAll vs with
  |some d,some ds=>me2 m d ds fun r=>Q (.dat r) st
  |_,_=>False
 |.words _ ws,st,Q=>Q (.dat (.list (ws.map .str))) st
 |.pop i e,st,Q=>match st.get i with
  |.own k=>(∃l,st.own[k]?=some (.lst l))∧wpE e st fun v st=>match st.dat? v,st.own[k]? with
   |some (.int j),some (.lst l)=>l.length≤1000000∧(-1000000≤j∧j≤1000000)∧match (a1i l.length j)with
    |some n=>match l[n]? with
     |some d=>Q (.dat d) (st.setOwn k (.lst (l.eraseIdx n)))
     |none=>False
    |none=>False
   |_,_=>False
  |_=>False
 |.next i,st,Q=>match st.get i with
  |.own k=>match st.own[k]? with
   |some (.iter (d::r))=>Q (.dat d) (st.setOwn k (.iter r))
   |_=>False
  |_=>False
 |.callV i f as,st,Q=>match st.get i with
  |.fn f'=>f'=f∧wpAs as st [] fun vs st=>Γ f st.hz [] vs st.own fun v ow=>(∃d,v=.dat d)∧Q v { st with own:=ow }
  |_=>False
noncomputable def wpO:O→St→(Option Int→St→Prop)→Prop
 |.none,st,Q=>Q none st
 |.some e,st,Q=>wpE e st fun v st=>match st.dat? v with
  |some (.int i)=>Q (some i) st
  |_=>False
noncomputable def wpT:E→St→(Bool→St→Prop)→Prop
 |.not a,st,Q=>wpT a st fun b st=>Q (!b) st
 |.or a b,st,Q=>wpT a st fun t st=>if t=true then Q true st else wpT b st Q
 |.cmp o a b,st,Q=>wpE a st fun va st=>wpE b st fun vb st=>match st.dat? va,st.dat? vb with
  |some x,some y=>b2g o x y fun t=>Q t st
  |_,_=>False
 |.var i,st,Q=>truthV (st.dat? (st.get i)) fun b=>Q b st
 |.call f as,st,Q=>wpAs as st [] fun vs st=>Γ f st.hz [] vs st.own fun v ow=>(∃d,v=.dat d)∧truthV (St.dat? { st with own:=ow } v) fun b=>Q b { st with own:=ow }
 |.idx a i,st,Q=>wpE a st fun va st=>wpE i st fun vi st=>c8t va (st.dat? va) (st.dat? vi) fun d=>truthV (st.dat? (.dat d)) fun b=>Q b st
 |.me m o as,st,Q=>wpE o st fun vo st=>c4z m (st.dat? vo)∧wpRs as st [] fun vs st=>match st.dat? vo,st.datAll vs with
  |some d,some ds=>me2 m d ds fun r=>truthV (st.dat? (.dat r)) fun b=>Q b st
  |_,_=>False
 |.bi b as,st,Q=>wpRs as st [] fun vs st=>match st.datAll vs with
  |some ds=>bi2 b ds fun d=>truthV (st.dat? (.dat d)) fun b=>Q b st
  |none=>False
 |.bin o a b,st,Q=>wpE a st fun va st=>wpE b st fun vb st=>match st.dat? va,st.dat? vb with
  |some x,some y=>b3a o x y fun d=>truthV (st.dat? (.dat d)) fun b=>Q b st
  |_,_=>False
 |_,_,_=>False
noncomputable def wpEs:Es→St→List d8e→(List d8e→St→Prop)→Prop
 |.nil,st,acc,Q=>Q acc st
 |.cons e es,st,acc,Q=>wpE e st fun v st=>keepV st v fun d st=>wpEs es st (acc++[d]) Q
noncomputable def wpAs:Es→St→List V→(List V→St→Prop)→Prop
 |.nil,st,acc,Q=>Q acc st
 |.cons e es,st,acc,Q=>wpE e st fun v st=>argV st v fun v st=>wpAs es st (acc++[v]) Q
noncomputable def wpRs:Es→St→List V→(List V→St→Prop)→Prop
 |.nil,st,acc,Q=>Q acc st
 |.cons e es,st,acc,Q=>wpE e st fun v st=>wpRs es st (acc++[v]) Q
noncomputable def wpG:G→St→List d8e→(List d8e→St→Prop)→Prop
 |.elt e,st,acc,K=>wpE e st fun v st=>keepV st v fun d st=>acc.length<1000000∧K (acc++[d]) st
 |.for t it g,st,acc,K=>wpI it st fun ds st=>a1q (fun d st acc K=>bindT t d st fun st=>wpG g st acc K) ds st acc K
 |.forIf t it c g,st,acc,K=>wpI it st fun ds st=>a1q (fun d st acc K=>bindT t d st fun st=>wpT c st fun b st=>if b=true then wpG g st acc K else K acc st) ds st acc K
noncomputable def wpI:I→St→(List d8e→St→Prop)→Prop
 |.over e,st,Q=>wpE e st fun v st=>keepV st v fun d st=>match seqD d with
  |some l=>Q l st
  |none=>False
 |.range a,st,Q=>wpE a st fun v st=>match st.dat? v with
  |some (.int n)=>(-1000000≤n∧n≤1000000)∧Q (b9b 0 n.toNat) st
  |_=>False
 |.range2 a b,st,Q=>wpE a st fun va st=>wpE b st fun vb st=>match st.dat? va,st.dat? vb with
  |some (.int x),some (.int y)=>(-1000000≤x∧x≤1000000 ∧ -1000000≤y∧y≤1000000)∧Q (b9b x (y-x).toNat) st
  |_,_=>False
 |.rangeDown a,st,Q=>wpE a st fun v st=>match st.dat? v with
  |some (.int n)=>(-1≤n∧n≤1000000)∧Q (a2j (n+1).toNat) st
  |_=>False
 |.enum e,st,Q=>wpE e st fun v st=>keepV st v fun d st=>match d with
  |.list l=>l.length≤1000000∧Q (b2b l) st
  |_=>False
 |.rev e,st,Q=>wpE e st fun v st=>keepV st v fun d st=>match d with
  |.list l=>Q l.reverse st
  |_=>False
 |.revRange e,st,Q=>wpE e st fun v st=>match st.dat? v with
  |some (.int n)=>(0≤n∧n≤1000000)∧Q (a2j n.toNat) st
  |_=>False
end
mutual
noncomputable def wpS:S→St→(Fl→St→Prop)→Prop
 |.assign i e,st,Q=>wpE Γ e st fun v st=>Q .next (st.set i v)
 |.assignOwn i e,st,Q=>wpE Γ e st fun v st=>match v with
  |.dat (.list l)=>Q .next ((st.push (.lst l)).set i (.own st.own.length))
  |_=>False
 |.assignTup is e,st,Q=>wpE Γ e st fun v st=>match (st.dat? v).bind seqD with
  |some ds=>is.length=ds.length∧Q .next ((is.zip ds).foldl (fun st p=>st.set p.1 (.dat p.2)) st)
  |none=>False
 |.multi ms,st,Q=>wpMs ms st [] fun bs st=>Q .next (bs.foldl (fun st p=>st.set p.1 p.2) st)
 |.setIdx i ix e,st,Q=>wpE Γ e st fun v st=>keepV st v fun d st=>match st.get i with
  |.own k=>wpE Γ ix st fun vi st=>match st.dat? vi,st.own[k]? with
   |some (.int j),some (.lst l)=>(0≤j∧j≤1000000)∧j.toNat<l.length∧Q .next (st.setOwn k (.lst (l.set j.toNat d)))
   |_,_=>False
  |_=>False
 |.augIdx i ix o e,st,Q=>match st.get i with
  |.own k=>wpE Γ ix st fun vi st=>match st.dat? vi,st.own[k]? with
   |some (.int j),some (.lst l)=>(0≤j∧j≤1000000)∧match l[j.toNat]? with
    |some d=>wpE Γ e st fun v st=>match st.dat? v,st.own[k]? with
     |some x,some (.lst l)=>j.toNat<l.length∧c8p o d x fun r=>Q .next (st.setOwn k (.lst (l.set j.toNat r)))
     |_,_=>False
    |none=>False
   |_,_=>False
  |_=>False
 |.aug i o e,st,Q=>match st.get i with
  |.dat d=>wpE Γ e st fun v st=>match st.dat? v with
   |some x=>c8p o d x fun r=>Q .next (st.set i (.dat r))
   |none=>False
  |_=>False
 |.ifs c t f,st,Q=>wpT Γ c st fun b st=>if b=true then a1n t st Q else a1n f st Q
 |.ret e,st,Q=>wpE Γ e st fun v st=>keepV st v fun d st=>Q (.ret d) st
 |.append i e,st,Q=>match st.get i with
  |.own k=>(∃l,st.own[k]?=some (.lst l))∧wpE Γ e st fun v st=>keepV st v fun d st=>match st.own[k]? with
   |some (.lst l)=>l.length<1000000∧Q .next (st.setOwn k (.lst (l++[d])))
   |_=>False
  |_=>False
 |.reverse i,st,Q=>match st.get i with
  |.own k=>match st.own[k]? with
   |some (.lst l)=>l.length≤1000000∧Q .next (st.setOwn k (.lst l.reverse))
   |_=>False
  |_=>False
 |.delIdx i j,st,Q=>match st.get i with
  |.own k=>match st.own[k]? with
   |some (.lst l)=>(l.length≤1000000 ∧ -1000000≤j∧j≤1000000)∧match a1i l.length j with
    |some n=>Q .next (st.setOwn k (.lst (l.eraseIdx n)))
    |none=>False
   |_=>False
  |_=>False
 |.for t it b,st,Q=>wpI Γ it st fun ds st=>b3u (fun d st K=>bindT t d st fun st=>a1n b st K) ds st Q
 |.while c b,st,Q=>∃n,a4r (fun st K=>wpT Γ c st K) (fun st K=>a1n b st K) n st Q
 |.assert c,st,Q=>wpT Γ c st fun b st=>b=true∧Q .next st
 |.tryStop pre i h,st,Q=>st.hz=true∧(∀j∈pre,∃v,st.get j=v∧(match v with|.undef=>False|_=>True))∧match st.get i with
  |.own k=>match st.own[k]? with
   |some (.iter [])=>a1n h { st.setOwn k .dead with hz:=false } fun f st=>Q f { st with hz:=true }
   |_=>False
  |_=>False
 |.toks i,st,Q=>Q .next (st.set i (.tab tk))
 |.expr e,st,Q=>wpE Γ e st fun _ st=>Q .next st
 |.retNone,st,Q=>Q (.ret .none) st
 |.stuck,_,_=>False
noncomputable def a1n:Ss→St→(Fl→St→Prop)→Prop
 |.nil,st,Q=>Q .next st
 |.cons s ss,st,Q=>wpS s st fun f st=>match f with
  |.next=>a1n ss st Q
  |.ret d=>Q (.ret d) st
 |.info r a wh f as ks kvs ss,st,Q=>wpAs Γ as st [] fun vs st=>wpRs Γ kvs st [] fun ws st=>Γ f st.hz ks (vs++ws) st.own fun v ow=>match v with
  |.twin (.list l)=>match c3g l with
   |some n=>(l.length≤1000000∧∀d∈l,∃j:Int,d=.int j∧j.natAbs<2^32)∧a1n ss ((((({ st with own:=ow }:St).set r (.dat (.list l))).set a (.dat (.list l)))).set wh (.dat (.int n))) Q
   |none=>False
  |_=>False
noncomputable def wpMs:Ms→St→List (Nat×V)→(List (Nat×V)→St→Prop)→Prop
 |.nil,st,acc,Q=>Q acc st
 |.plain i e r,st,acc,Q=>wpE Γ e st fun v st=>match v with
  |.dat _=>wpMs r st (acc++[(i,v)]) Q
  |_=>False
 |.own i e r,st,acc,Q=>wpE Γ e st fun v st=>match v with
  |.dat (.list l)=>wpMs r (st.push (.lst l)) (acc++[(i,.own st.own.length)]) Q
  |_=>False
 |.iter i e r,st,acc,Q=>wpE Γ e st fun v st=>keepV st v fun d st=>match d with
  |.list l=>wpMs r (st.push (.iter l)) (acc++[(i,.own st.own.length)]) Q
  |_=>False
end
end
theorem ws1{Γ:Ctx}{st:St}{Q:Fl→St→Prop}:a1n Γ tk .nil st Q=Q .next st:=rfl
theorem ws2{Γ:Ctx}{s:S}{ss:Ss}{st:St}{Q:Fl→St→Prop}:a1n Γ tk (.cons s ss) st Q=wpS Γ tk s st fun f st=>match f with
  |.next=>a1n Γ tk ss st Q
  |.ret d=>Q (.ret d) st:=rfl
theorem wq1{Γ:Ctx}{st:St}{Q:Fl→St→Prop}(h:Q .next st):a1n Γ tk .nil st Q:=h
theorem wq2{Γ:Ctx}{s:S}{ss:Ss}{st:St}{Q:Fl→St→Prop}(h:wpS Γ tk s st fun f st=>match f with
 |.next=>a1n Γ tk ss st Q
 |.ret d=>Q (.ret d) st):a1n Γ tk (.cons s ss) st Q:=h
theorem ifp [Decidable c]{A B:Prop}(h:c)(k:A):if c then A else B:=(if_pos h).symm▸k
theorem ifn [Decidable c]{A B:Prop}(h:¬c)(k:B):if c then A else B:=(if_neg h).symm▸k
@[elab_as_elim] theorem d4t{α:Type}{P:List α→Prop}{l:List α}{n:Nat}(h:l.length=n+1)(k:∀a r,r.length=n→P (a::r)):P l:=List.casesOn (motive:=fun l=>l.length=n+1→P l) l (fun h=>Nat.noConfusion h) (fun a r h=>k a r (Nat.succ.inj h)) h
theorem two{α:Type}{l:List α}(h:l.length=2):∃a b,l=[a,b]:=d4t h fun a _ h=>d4t h fun b r h=>⟨a,b,congrArg (fun r=>a::b::r) (List.eq_nil_of_length_eq_zero h)⟩
theorem ff{P:Prop}(h:false=true):P:=nomatch h
theorem a0b{a b:Bool}(h:(a&&b)=true):a=true:=(Bool.and_eq_true_iff.mp h).1
theorem a0a{a b:Bool}(h:(a&&b)=true):b=true:=(Bool.and_eq_true_iff.mp h).2
noncomputable def isK(k:Nat)(x:Expr):Bool:=Nat.beq x.ctorIdx k
set_option backward.match.sparseCases false in
noncomputable def xN:Expr→Str|.Name y _=>y|_=>⟨#[]⟩
set_option backward.match.sparseCases false in
noncomputable def xs:Expr→List Expr|.BoolOp _ l _=>l|.Compare _ _ l _=>l|.Call _ l _ _=>l|.List l _=>l|.Tuple l _ _=>l|_=>[]
theorem c1q{x:Expr}(h:isK 23 x=true):∃y p,x=.Name y p:=Expr.Name.elim (motive_1:=fun x=>∃y p,x=.Name y p) x (Nat.eq_of_beq_eq_true h) fun y p=>⟨y,p,rfl⟩
theorem d5b{x:Expr}(h:isK 25 x=true):∃l k p,x=.Tuple l k p:=Expr.Tuple.elim (motive_1:=fun x=>∃l k p,x=.Tuple l k p) x (Nat.eq_of_beq_eq_true h) fun l k p=>⟨l,k,p,rfl⟩
end
section
def Sub(g h:Heap):Prop:=∀b o,g.get? b=some o→h.get? b=some o
theorem Sub.refl(g:Heap):Sub g g:=fun _ _ e=>e
theorem Sub.trans{a b c:Heap}(x:Sub a b)(y:Sub b c):Sub a c:=fun d o e=>y d o (x d o e)
def ND (g:Heap):Prop:=∀a o,g.get? a=some o→o.cls=.type "list" →(∃vs n,o.data=.seq vs n)→o.dict=Option.none
def RD(g:Heap)(v:d8g)(d:d8e):Prop:=∃as,Reads g v d as
def RDs(g:Heap)(vs:List d8g)(ds:List d8e):Prop:=∃as,ReadsAll g vs ds as
theorem RD.mono{g g':Heap}(s:Sub g g')(h:RD g v d):RD g' v d:=Exists.imp (fun _=>Reads.keeps s) h
theorem RDs.mono{g g':Heap}(s:Sub g g')(h:RDs g vs ds):RDs g' vs ds:=Exists.imp (fun _=>ReadsAll.keeps s) h
theorem RDs.nil:RDs g [] []:=⟨_,.nil⟩
theorem RDs.cons(h:RD g v d)(t:RDs g vs ds):RDs g (v::vs) (d::ds):=
 Exists.elim h fun _ r=>Exists.elim t fun _ q=>⟨_,.cons r q⟩
theorem RDs.cases{g:Heap}{v:d8g}{vs:List d8g}{ds:List d8e}(h:RDs g (v::vs) ds):∃d r,ds=d::r∧RD g v d∧RDs g vs r:=by
 obtain⟨as,h⟩:=h;cases h with
 |cons a b=>exact⟨_,_,rfl,⟨_,a⟩,⟨_,b⟩⟩
theorem RDs.length:∀{vs:List d8g} {ds:List d8e},RDs g vs ds→vs.length=ds.length
 |[],_,⟨_,h⟩=>by cases h; rfl
 |_::_,_,h=>by obtain⟨d,r,rfl,_,h2⟩:=h.cases; simp[RDs.length h2]
theorem RDs.append:∀{vs ws:List d8g} {ds es:List d8e},RDs g vs ds→RDs g ws es→RDs g (vs++ws) (ds++es)
 |[],_,_,_,⟨_,h⟩=>fun k=>by cases h; exact k
 |_::_,_,_,_,h=>fun k=>by obtain⟨d,r,rfl,h1,h2⟩:=h.cases; exact .cons h1 (RDs.append h2 k)
theorem RDs.one(h:RD g v d):RDs g [v] [d]:=.cons h .nil
theorem RDs.get:∀{vs:List d8g} {ds:List d8e} {k:Nat} {d:d8e},RDs g vs ds→ds[k]?=some d→∃v,vs[k]?=some v∧RD g v d
 |[],_,_,_,⟨_,h⟩=>fun e=>by cases h; simp at e
 |v::vs,_,k,d,h=>fun e=>by
  obtain⟨d',r,rfl,h1,h2⟩:=h.cases;cases k with
  |zero=>simp at e; subst e; exact⟨v,by simp,h1⟩
  |succ k=>simp at e; obtain⟨u,hu,hr⟩:=RDs.get h2 e; exact⟨u,by simpa using hu,hr⟩
theorem RDs.take:∀{vs:List d8g} {ds:List d8e} (n:Nat),RDs g vs ds→RDs g (vs.take n) (ds.take n)
 |[],_,n,⟨_,h⟩=>by cases h; simpa using RDs.nil
 |v::vs,_,n,h=>by
  obtain⟨d',r,rfl,h1,h2⟩:=h.cases;cases n with
  |zero=>simpa using RDs.nil
  |succ n=>simpa using RDs.cons h1 (RDs.take n h2)
theorem RDs.drop:∀{vs:List d8g} {ds:List d8e} (n:Nat),RDs g vs ds→RDs g (vs.drop n) (ds.drop n)
 |[],_,n,⟨_,h⟩=>by cases h; simpa using RDs.nil
 |v::vs,_,n,h=>by
  obtain⟨d',r,rfl,h1,h2⟩:=h.cases;cases n with
  |zero=>simpa using RDs.cons h1 h2
  |succ n=>simpa using RDs.drop n h2
theorem RDs.set:∀{vs:List d8g} {ds:List d8e} {v:d8g} {d:d8e} (n:Nat),RDs g vs ds→RD g v d→RDs g (vs.set n v) (ds.set n d)
 |[],_,_,_,n,⟨_,h⟩=>fun _=>by cases h; simpa using RDs.nil
 |_::_,_,_,_,n,h=>fun k=>by
  obtain⟨d',r,rfl,h1,h2⟩:=h.cases;cases n with
  |zero=>simpa using RDs.cons k h2
  |succ n=>simpa using RDs.cons h1 (RDs.set n h2 k)
theorem RDs.eraseIdx:∀{vs:List d8g} {ds:List d8e} (n:Nat),RDs g vs ds→RDs g (vs.eraseIdx n) (ds.eraseIdx n)
 |[],_,n,⟨_,h⟩=>by cases h; simpa using RDs.nil
 |_::_,_,n,h=>by
  obtain⟨d',r,rfl,h1,h2⟩:=h.cases;cases n with
  |zero=>simpa using h2
  |succ n=>simpa using RDs.cons h1 (RDs.eraseIdx n h2)
theorem RDs.reverse:∀{vs:List d8g} {ds:List d8e},RDs g vs ds→RDs g vs.reverse ds.reverse
 |[],_,⟨_,h⟩=>by cases h; simpa using RDs.nil
 |_::_,_,h=>by
  obtain⟨d',r,rfl,h1,h2⟩:=h.cases;simpa using RDs.append (RDs.reverse h2) (RDs.one h1)
theorem RD.int(i:Int)(t:Tok):RD g (.int i t) (.int i):=⟨_,.int i t⟩
theorem RD.bool(b:Bool):RD g (.bool b) (.bool b):=⟨_,.bool b⟩
theorem RD.str(s:Str)(t:Tok):RD g (.str s t) (.str s):=⟨_,.str s t⟩
theorem RD.none:RD g .none .none:=⟨_,.none⟩
theorem RD.list{a:Addr}{l:List d8e}(h:g.IsList a vs.toArray)(r:RDs g vs l):RD g (.ref a) (.list l):=by
 obtain⟨o,ho,hc,n,hd⟩:=h;obtain⟨as,r⟩:=r;exact⟨_,.list ho hc hd (by simpa using r)⟩
theorem RD.tuple{a:Addr}{l:List d8e}(h:g.IsTuple a vs.toArray)(r:RDs g vs l):RD g (.ref a) (.tuple l):=by
 obtain⟨o,ho,hc,n,hd⟩:=h;obtain⟨as,r⟩:=r;exact⟨_,.tuple ho hc hd (by simpa using r)⟩
theorem RD.intE{i:Int}(h:RD g v (.int i)):∃t,v=.int i t:=by obtain⟨_,h⟩:=h; cases h; exact⟨_,rfl⟩
theorem RD.boolE{b:Bool}(h:RD g v (.bool b)):v=.bool b:=by obtain⟨_,h⟩:=h; cases h; rfl
theorem RD.strE(h:RD g v (.str x)):∃t,v=.str x t:=by obtain⟨_,h⟩:=h; cases h; exact⟨_,rfl⟩
theorem RD.noneE(h:RD g v .none):v=.none:=by obtain⟨_,h⟩:=h; cases h; rfl
theorem RD.listE{l:List d8e}(h:RD g v (.list l)):∃a vs,v=.ref a∧g.IsList a vs.toArray∧RDs g vs l:=by
 obtain⟨_,h⟩:=h;cases h with
 |@list a o vs n xs as ho hc hd r=>exact⟨a,vs.toList,rfl,⟨o,ho,hc,n,by simpa using hd⟩,⟨_,r⟩⟩
theorem RD.tupleE{l:List d8e}(h:RD g v (.tuple l)):∃a vs,v=.ref a∧g.IsTuple a vs.toArray∧RDs g vs l:=by
 obtain⟨_,h⟩:=h;cases h with
 |@tuple a o vs n xs as ho hc hd r=>exact⟨a,vs.toList,rfl,⟨o,ho,hc,n,by simpa using hd⟩,⟨_,r⟩⟩
theorem a0f{g h:Heap}{a:Addr}{vs:Array d8g}(s:Sub g h)(x:g.IsList a vs):h.IsList a vs:=Exists.imp (fun _=>And.imp_left (s _ _)) x
theorem a0q{g h:Heap}{a:Addr}{vs:Array d8g}(s:Sub g h)(x:g.IsTuple a vs):h.IsTuple a vs:=Exists.imp (fun _=>And.imp_left (s _ _)) x
theorem a4y(h:Heap)(p:Addr→Bool):∃g:Heap,g.objs.size=h.objs.size∧∀b,g.get? b=if p b then h.get? b else none:=by
 refine⟨hideAll h ((List.range h.objs.size).filter fun b=>!p b),hideAll_size _ _,fun b=>?_⟩
 by_cases hp:p b=true
 ·rw[if_pos hp]
  cases e:h.get? b with
  |none=>
   cases e':(hideAll h ((List.range h.objs.size).filter fun b=>!p b)).get? b with
   |none=>rfl
   |some o=>rw[of_hideAll _ e']at e; cases e
  |some o=>exact hideAll_get _ e fun hm=>by simp[hp]at hm
 ·rw[if_neg hp]
  by_cases hs:b<h.objs.size
  ·exact hideAll_none _ (List.mem_filter.mpr ⟨List.mem_range.mpr hs,by simpa using hp⟩)
  ·cases e':(hideAll h ((List.range h.objs.size).filter fun b=>!p b)).get? b with
   |none=>rfl
   |some o=>exact absurd (Heap.lt_size (of_hideAll _ e')) hs
theorem b5g {g h:Heap} (s:Sub g h) (a:Addr) (hn:∀o,h.get? a=some o→o.cls=.type "list" →(∃vs n,o.data=.seq vs n)→o.dict=Option.none):∃g':Heap,Sub g g'∧Sub g' h∧g'.get? a=h.get? a∧(∀b,b≠a→g'.get? b=g.get? b)∧(ND g→ND g'):=by
 obtain⟨g',_,e⟩:=a4y h fun b=>(g.get? b).isSome||b==a
 have hb:∀b,b≠a→g'.get? b=g.get? b:=fun b hb=>by
  rw[e b];cases hg:g.get? b with
  |none=>
       have hf:(b==a)=false:=beq_false_of_ne hb;simp[hf]
  |some o=>simp[s b o hg]
 have ha:g'.get? a=h.get? a:=by rw[e a]; simp
 refine⟨g',fun b o hg=>?_,fun b o hg=>?_,ha,hb,fun nd b o e1 e2 e3=>?_⟩
 ·by_cases hba:b=a
  ·subst hba; rw[ha]; exact s _ _ hg
  ·rw[hb b hba]; exact hg
 ·rw[e b]at hg
  split at hg
  ·exact hg
  ·cases hg
 ·by_cases hba:b=a
  ·subst hba; exact hn o (ha▸e1) e2 e3
  ·exact nd b o (hb b hba▸e1) e2 e3
theorem a7c {g h:Heap} (s:Sub g h) (a:Addr) (hn:∀o,h.get? a=some o→o.cls=.type "list" →o.dict=Option.none):∃g':Heap,Sub g g'∧Sub g' h∧g'.get? a=h.get? a∧(∀b,b≠a→g'.get? b=g.get? b)∧(ND g→ND g'):=b5g s a fun o e1 e2 _=>hn o e1 e2
abbrev b8l(o:Obj):Prop:=∀es ep,o.data ≠ .dict es ep
structure Cfg where
 prog:Program
 w:World
 KI:Heap→Prop
 KM:∀g g',Sub g g'→KI g→KI g'
 base:List Addr
 p:Program
 loose:List Str
 mg:Str→Option d8g
 mb:Str→Option d8g
 tabs:List (Addr×Addr)
 fnv:Nat→d8g
 toks:List (d8e×d8e)
 tabOk:Heap→Addr→Obj→Prop
 tabMono:∀g g' P o,Sub g g'→tabOk g P o→tabOk g' P o
structure Cfg.Amb(C:Cfg)(g:Heap):Prop where
 K:C.KI g
 T:TopRead C.p C.loose C.mg C.mb g
theorem Cfg.Amb.mono{C:Cfg}{g g':Heap}(x:C.Amb g)(s:Sub g g'):C.Amb g':=⟨C.KM _ _ s x.K,x.T.keeps s⟩
noncomputable def Cfg.TA(C:Cfg):List Addr:=C.tabs.map (·.2)
def Cfg.Tabs(C:Cfg)(g h:Heap):Prop:=∀P∈C.TA,g.get? P=none∧∃o,h.get? P=some o∧b8l o∧C.tabOk g P o
structure SI where
 names:List (Str×NameKind)
 ids:List (Str×Nat)
 own:List Str
structure EnvOK(sc:SI)(env:Env):Prop where
 kind:env.scope.kind=.function
 names:env.scope.names=sc.names
 globals:env.globals=d8o
 builtins:env.builtins=builtinsNs
theorem EnvOK.kindOf{sc:SI}(e:EnvOK sc env)(x:Str):env.kindOf x=sc.names.lookup x:=by unfold Env.kindOf; rw[e.names]
def Look(env:Env)(h:Heap)(x:Str)(v:d8g):Prop:=
 (env.kindOf x=some .local∧∃m,h.Ns env.locals m∧m x=some v) ∨
 ((env.kindOf x=some .cell∨env.kindOf x=some .free)∧∃c,env.cells.lookup x=some c∧h.IsCell c (some v))
noncomputable def a4w(env:Env):List Addr:=env.locals::env.cells.map (·.2)
def d5g(C:Cfg)(g:Heap)(a:Addr)(kvs:List (d8e×d8e)):Prop:=IntTab C.prog C.w g a kvs
def InV(C:Cfg)(g:Heap)(al:List Addr)(v:d8g):V→Prop
 |.undef=>True
 |.dat d=>RD g v d
 |.own k=>∃a,al[k]?=some a∧v=.ref a
 |.fn f=>v=C.fnv f
 |.tab kvs=>∃a,v=.ref a∧d5g C g a kvs
 |.twin d=>∃a u,v=.ref a∧g.IsTuple a #[u,u]∧RD g u d
def OwnOK(g h:Heap)(a:Addr):OV→Prop
 |.lst l=>g.get? a=none∧∃vs:List d8g,h.PlainList a vs.toArray∧RDs g vs l
 |.froz l=>RD g (.ref a) (.list l)
 |.iter r=>g.get? a=none∧∃(b:Addr) (vs:List d8g) (i:Nat) (l:List d8e),h.IsListIter a b i∧g.IsList b vs.toArray∧RDs g vs l∧r=l.drop i
 |.dead=>g.get? a=none∧∃o,h.get? a=some o∧b8l o
structure Rel(C:Cfg)(sc:SI)(env:Env)(g h:Heap)(al:List Addr)(st:St):Prop where
 sub:Sub g h
 amb:C.Amb g
 nd:ND g
 tabs:C.Tabs g h
 ns:∃m,h.Ns env.locals m
 cell:∀x,sc.names.lookup x=some .cell∨sc.names.lookup x=some .free→∃c v,env.cells.lookup x=some c∧h.IsCell c v
 vars:∀x i,sc.ids.lookup x=some i→(∀u,st.get i=u→u=.undef)∨∃v,Look env h x v∧InV C g al v (st.get i)
 olen:al.length=st.own.length
 own:∀(k:Nat) (o:OV),st.own[k]?=some o→∃a,al[k]?=some a∧OwnOK g h a o
 alnd:al.Nodup
 pnd:(env.locals::env.cells.map (·.2)).Nodup
 pgl:g.get? env.locals=none
 pgc:∀x c,env.kindOf x=some .cell→env.cells.lookup x=some c→g.get? c=none
 plt:∀b∈a4w env,∃o,h.get? b=some o
 pal:∀b∈a4w env,b∉al
 pta:∀b∈a4w env,b∉C.TA
 ata:∀b∈al,b∉C.TA
 base:C.base <+: al
def KeptIn(h:Heap)(b:Addr)(o:Obj):Prop:=∃sl,h.get? b=some { o with slots:=sl } ∧ (b8l o→sl=o.slots)
theorem KeptIn.of{b:Addr}(e:h.get? b=some o):KeptIn h b o:=⟨o.slots,e,fun _=>rfl⟩
theorem KeptIn.exact{h:Heap}{b:Addr}{o:Obj}(k:KeptIn h b o)(hc:b8l o):h.get? b=some o:=by
 obtain⟨sl,e,hs⟩:=k;rw[hs hc]at e;exact e
theorem KeptIn.alive{b:Addr}(k:KeptIn h b o):∃o',h.get? b=some o':=Exists.elim k fun _ h=>⟨_,h.1⟩
theorem KeptIn.none{b:Addr}(k:KeptIn h b o)(e:h.get? b=none):False:=by
 obtain⟨o',ho'⟩:=k.alive; rw[ho']at e; cases e
theorem KeptIn.ns{h h':Heap}(hn:h.Ns L m)(k:∀o,h.get? L=some o→KeptIn h' L o):h'.Ns L m:=by
 obtain⟨o,es,ep,ho,hd,r⟩:=hn;obtain⟨sl,e,_⟩:=k o ho;exact⟨_,es,ep,e,hd,r⟩
theorem KeptIn.cell{h h':Heap}{c:Addr}{v:Option d8g}(hc:h.IsCell c v)(k:∀o,h.get? c=some o→KeptIn h' c o):h'.IsCell c v:=by
 obtain⟨o,ho,hd⟩:=hc;obtain⟨sl,e,_⟩:=k o ho;exact⟨_,e,hd⟩
structure Step(W:List Addr)(s:d8f)(g:Heap)(s':d8f)(g':Heap):Prop where
 same:∃h tk,s'={ s with heap:=h,toks:=tk }
 sub:Sub g g'
 keep:∀b o,b∉W→s.heap.get? b=some o→KeptIn s'.heap b o
 low:Sub g s.heap→Sub g' s'.heap
 fresh:∀b o,b∉W→s.heap.get? b=some o→g.get? b=none→g'.get? b=none
 nd:ND g→ND g'
theorem Step.refl{s:d8f} :Step W s g s g:=⟨⟨s.heap,s.toks,rfl⟩,.refl g,fun _ _ _ e=>.of e,id,fun _ _ _ _ e=>e,id⟩
theorem Step.trans{W W':List Addr}{s s₁ s₂:d8f}{g g₁ g₂:Heap}(x:Step W s g s₁ g₁)(y:Step W' s₁ g₁ s₂ g₂)(hw:∀b∈W',b∈W∨s.heap.get? b=none):Step W s g s₂ g₂ where
 same:=by obtain⟨h,tk,rfl⟩:=x.same; obtain⟨h',tk',rfl⟩:=y.same; exact⟨h',tk',rfl⟩
 sub:=x.sub.trans y.sub
 keep:=fun b o hb e=>by
  have hm:b∉W':=fun hm=>by
   rcases hw b hm with h|h
   ·exact hb h
   ·rw[h]at e; cases e
  obtain⟨sl,e1,h1⟩:=x.keep b o hb e;obtain⟨sl2,e2,h2⟩:=y.keep b _ hm e1;exact⟨sl2,e2,fun hc=>(h2 hc).trans (h1 hc)⟩
 low:=fun h=>y.low (x.low h)
 fresh:=fun b o hb e eg=>by
  have hm:b∉W':=fun hm=>by
   rcases hw b hm with h|h
   ·exact hb h
   ·rw[h]at e; cases e
  obtain⟨o',e1⟩:=(x.keep b o hb e).alive;exact y.fresh b o' hm e1 (x.fresh b o hb e eg)
 nd:=fun h=>y.nd (x.nd h)
theorem Step.tr{s s₁ s₂:d8f}{g g₁ g₂:Heap}(x:Step W s g s₁ g₁)(y:Step W s₁ g₁ s₂ g₂):Step W s g s₂ g₂:=x.trans y fun _ h=>.inl h
theorem Step.mono{W W':List Addr}{s s':d8f}{g g':Heap}(x:Step W s g s' g')(hw:∀b∈W,b∈W'):Step W' s g s' g':=
 ⟨x.same,x.sub,fun b o hb=>x.keep b o fun h=>hb (hw b h),x.low,fun b o hb=>x.fresh b o fun h=>hb (hw b h),x.nd⟩
theorem Step.nil{W':List Addr}{s s':d8f}{g g':Heap}(x:Step [] s g s' g'):Step W' s g s' g':=x.mono fun _ h=>nomatch h
def HOK(A:d8q)(g:Heap):Prop:=A.handled=none∨∃x o vs,A.handled=some (.ref x)∧g.get? x=some o∧o.data=.fields vs∧vs[2]?=some .none
theorem HOK.mono{g g':Heap}(s:Sub g g')(x:HOK A g):HOK A g':=x.imp id (Exists.imp fun _=>Exists.imp fun _=>Exists.imp fun _=>And.imp_right (And.imp_left (s _ _)))
structure AOK(A:d8q)(n:Nat)(hz:Bool)(g:Heap):Prop where
 depth:A.depth+n≤recursionLimit
 units:A.units+4*n+70<cLine
 none:hz=true→A.handled=none
 handled:HOK A g
theorem AOK.mono{n:Nat}{g g':Heap}(x:AOK A n hz g)(s:Sub g g'):AOK A n hz g':=⟨x.depth,x.units,x.none,x.handled.mono s⟩
section
variable {C:Cfg} {sc:SI} {env:Env} {g g' h h':Heap} {al:List Addr} {st:St}
theorem InV.mono{u:V}(s:Sub g g')(x:InV C g al v u):InV C g' al v u:=by
 cases u with
 |undef=>trivial
 |dat d=>exact RD.mono s x
 |own k=>exact x
 |fn f=>exact x
 |tab kvs=>obtain⟨a,e,hd⟩:=x; exact⟨a,e,hd.keep s⟩
 |twin d=>obtain⟨a,u,e,ht,r⟩:=x; exact⟨a,u,e,a0q s ht,r.mono s⟩
theorem Look.mono(l:Look env h x v)(hL:∀o,h.get? env.locals=some o→KeptIn h' env.locals o)
 (hc:∀c o,env.cells.lookup x=some c→h.get? c=some o→KeptIn h' c o):Look env h' x v:=by
 rcases l with⟨hk,m,hn,hm⟩|⟨hk,c,hl,hcell⟩
 ·exact .inl ⟨hk,m,KeptIn.ns hn hL,hm⟩
 ·exact .inr ⟨hk,c,hl,KeptIn.cell hcell fun o ho=>hc c o hl ho⟩
end
end
section
section
variable {C:Cfg} {sc:SI} {env:Env} {g g' h h':Heap} {al:List Addr} {st:St}
theorem OwnOK.keep{a:Addr}{o:OV}(x:OwnOK g h a o)(s:Sub g g')(hk:∀ob,h.get? a=some ob→KeptIn h' a ob)(hg:g.get? a=none→g'.get? a=none):OwnOK g' h' a o:=by
 cases o with
 |lst l=>obtain⟨h1,vs,⟨n,hp⟩,r⟩:=x; exact⟨hg h1,vs,⟨n,(hk _ hp).exact (by intro es ep h; cases h)⟩,r.mono s⟩
 |froz l=>exact RD.mono s x
 |iter r=>
  obtain⟨h1,b,vs,i,l,hi,hl,hr,e⟩:=x;exact⟨hg h1,b,vs,i,l,(by obtain⟨o,ho,hc,hd⟩:=hi; exact⟨o,(hk o ho).exact (by intro es ep; rw[hd]; simp),hc,hd⟩),a0f s hl,hr.mono s,e⟩
 |dead=>obtain⟨h1,o,ho,hn⟩:=x; exact⟨hg h1,o,(hk _ ho).exact hn,hn⟩
theorem RD.alive{a:Addr}(x:RD g (.ref a) d):∃o,g.get? a=some o:=by
 obtain⟨_,x⟩:=x;cases x with
 |list h=>exact⟨_,h⟩
 |tuple h=>exact⟨_,h⟩
 |dict h=>exact⟨_,h⟩
theorem OwnOK.alive{a:Addr}{o:OV}(s:Sub g h)(x:OwnOK g h a o):∃ob,h.get? a=some ob:=by
 cases o with
 |lst l=>obtain⟨_,vs,⟨n,hp⟩,_⟩:=x; exact⟨_,hp⟩
 |froz l=>obtain⟨o,ho⟩:=RD.alive x; exact⟨o,s _ _ ho⟩
 |iter r=>obtain⟨_,b,vs,i,l,⟨o,ho,_⟩,_⟩:=x; exact⟨o,ho⟩
 |dead=>obtain⟨_,o,ho,_⟩:=x; exact⟨o,ho⟩
theorem Rel.alh(R:Rel C sc env g h al st)(a:Addr)(ha:a∈al):∃o,h.get? a=some o:=by
 obtain⟨k,hk,e⟩:=List.getElem_of_mem ha;have hk':k<st.own.length:=R.olen▸hk;obtain⟨a',ha',q⟩:=R.own k _ (List.getElem?_eq_getElem hk');rw[List.getElem?_eq_getElem hk,e]at ha';cases ha';exact q.alive R.sub
theorem Cfg.Tabs.keep(x:C.Tabs g h)(s:Sub g g')(hk:∀P∈C.TA,∀ob,h.get? P=some ob→KeptIn h' P ob)(hg:∀P∈C.TA,g'.get? P=none):C.Tabs g' h':=fun P hP=>by
 obtain⟨h1,o,ho,hc,r⟩:=x P hP;exact⟨hg P hP,o,(hk P hP o ho).exact hc,hc,C.tabMono _ _ _ _ s r⟩
theorem Rel.up(R:Rel C sc env g h al st){ow:List OV}(sg:Sub g g')(nd:ND g')(sh:Sub g' h')(tb:C.Tabs g' h')
 (hk:∀b o,b∉al++C.TA→h.get? b=some o→KeptIn h' b o) (hp:∀b∈a4w env,g.get? b=none→g'.get? b=none)
 (ol:al.length=ow.length) (own:∀(k:Nat) (o:OV),ow[k]?=some o→∃a,al[k]?=some a∧OwnOK g' h' a o):Rel C sc env g' h' al { st with own:=ow } where
 sub:=sh
 amb:=R.amb.mono sg
 nd:=nd
 tabs:=tb
 ns:=by
  obtain⟨m,hm⟩:=R.ns;exact⟨m,KeptIn.ns hm fun o e=>hk _ o (by simp only[List.mem_append,not_or]; exact⟨R.pal _ (.head _),R.pta _ (.head _)⟩) e⟩
 cell:=fun x hx=>by
  obtain⟨c,v,hc,hcell⟩:=R.cell x hx;have hm:c∈a4w env:=List.mem_cons_of_mem _ (List.mem_map.mpr ⟨(x,c),d8k hc,rfl⟩);exact⟨c,v,hc,KeptIn.cell hcell fun o ho=>hk c o (by simp only[List.mem_append,not_or]; exact⟨R.pal _ hm,R.pta _ hm⟩) ho⟩
 vars:=fun x i hi=>by
  rcases R.vars x i hi with hu|⟨v,hl,hv⟩
  ·exact .inl hu
  ·refine .inr ⟨v,hl.mono (fun o e=>hk _ o (by simp only[List.mem_append,not_or]; exact⟨R.pal _ (.head _),R.pta _ (.head _)⟩) e) (fun c o hc e=>?_),hv.mono sg⟩
   have hm:c∈a4w env:=List.mem_cons_of_mem _ (List.mem_map.mpr ⟨(x,c),d8k hc,rfl⟩);exact hk c o (by simp only[List.mem_append,not_or]; exact⟨R.pal _ hm,R.pta _ hm⟩) e
 olen:=ol
 own:=own
 alnd:=R.alnd
 pnd:=R.pnd
 pgl:=hp _ (.head _) R.pgl
 pgc:=fun x c hk hc=>hp _ (List.mem_cons_of_mem _ (List.mem_map.mpr ⟨_,d8k hc,rfl⟩)) (R.pgc x c hk hc)
 plt:=fun b hb=>(R.plt b hb).elim fun o ho=>(hk b o (by simp only[List.mem_append,not_or]; exact⟨R.pal _ hb,R.pta _ hb⟩) ho).alive
 pal:=R.pal
 pta:=R.pta
 ata:=R.ata
 base:=R.base
theorem Rel.pfresh{s s':d8f}(R:Rel C sc env g s.heap al st)(x:Step W s g s' g')(hw:∀b∈W,b∈al∨b∈C.TA):∀b∈a4w env,g.get? b=none→g'.get? b=none:=fun b hb hg=>by
 obtain⟨o,ho⟩:=R.plt b hb;exact x.fresh b o (fun hm=>(hw b hm).elim (R.pal b hb) (R.pta b hb)) ho hg
theorem Rel.step{s s':d8f}(R:Rel C sc env g s.heap al st)(x:Step [] s g s' g')(sh:Sub g' s'.heap):Rel C sc env g' s'.heap al st:=by
 have hk:∀b o,s.heap.get? b=some o→KeptIn s'.heap b o:=fun b o=>x.keep b o (by simp)
 refine R.up x.sub (x.nd R.nd) sh (R.tabs.keep x.sub (fun P _ ob=>hk P ob) fun P hP=>?_) (fun b o _=>hk b o) (R.pfresh x fun b hb=>by simp at hb) R.olen fun k o e=>?_
 ·obtain⟨h1,o,ho,_⟩:=R.tabs P hP
  exact x.fresh P o (by simp) ho h1
 ·obtain⟨a,ha,q⟩:=R.own k o e
  obtain⟨ob,hob⟩:=q.alive R.sub;exact⟨a,ha,q.keep x.sub (fun ob=>hk a ob) (x.fresh a ob (by simp) hob)⟩
theorem Step.toks{W:List Addr}{s:d8f}{g:Heap}{t:Nat}:Step W s g { s with toks:=t } g:=⟨⟨s.heap,t,rfl⟩,.refl g,fun _ _ _ e=>.of e,id,fun _ _ _ _ e=>e,id⟩
theorem Step.grow {s:d8f} {g h':Heap} {tk:Nat} {a:Addr} (sg:Sub g s.heap) (hk:Sub s.heap h') (ha:s.heap.get? a=none) (hn:∀o,h'.get? a=some o→o.cls=.type "list" →o.dict=Option.none) :
  ∃g',Step [] s g { s with heap:=h',toks:=tk } g'∧Sub g' h'∧g'.get? a=h'.get? a:=by
 obtain⟨g',h1,h2,h3,h4,h5⟩:=a7c (sg.trans hk) a hn;exact⟨g',⟨⟨h',tk,rfl⟩,h1,fun b o _ e=>.of (hk b o e),fun _=>h2,fun b o _ hb e=>(h4 b fun q=>by rw[q,ha]at hb; cases hb).trans e,h5⟩,h2,h3⟩
theorem Step.ext{s:d8f}{g h':Heap}{tk:Nat}(hk:Sub s.heap h'):Step [] s g { s with heap:=h',toks:=tk } g:=
 ⟨⟨h',tk,rfl⟩,.refl g,fun b o _ e=>.of (hk b o e),fun h=>h.trans hk,fun _ _ _ _ e=>e,id⟩
theorem a0e{h:Heap}(o:Obj):Sub h (h.push o):=fun _ _ e=>Heap.get?_push_of_some _ e
theorem Rel.turn{s s':d8f}(R:Rel C sc env g s.heap al st)(x:Step W s g s' g')(sh:Sub g' s'.heap){k:Nat}{a:Addr}{o':OV}(ha:al[k]?=some a)(hW:∀b∈W,b=a)
 (ho:OwnOK g' s'.heap a o'):Rel C sc env g' s'.heap al (st.setOwn k o'):=by
 have hne:∀b,b≠a→b∉W:=fun b hb hm=>hb (hW b hm);have ham:=List.mem_of_getElem? ha;refine R.up x.sub (x.nd R.nd) sh (R.tabs.keep x.sub (fun P hP ob=>x.keep P ob (hne P fun q=>R.ata a ham (q▸hP))) fun P hP=>?_)
  (fun b o hb=>x.keep b o (hne b fun q=>hb (List.mem_append_left _ (q▸ham)))) (R.pfresh x fun b hb=>.inl (hW b hb▸ham)) (by simpa using R.olen) fun j o e=>?_
 ·obtain⟨h1,o,ho,_⟩:=R.tabs P hP
  exact x.fresh P o (hne P fun q=>R.ata a ham (q▸hP)) ho h1
 ·rw[List.getElem?_set]at e
  split at e
  ·rename_i hkj
   subst hkj
   split at e
   ·cases e; exact⟨a,ha,ho⟩
   ·cases e
  ·rename_i hkj
   obtain⟨b,hb,q⟩:=R.own j o e;have hba:b≠a:=fun q'=>by
    subst q';obtain⟨h1,e1⟩:=List.getElem?_eq_some_iff.mp ha;obtain⟨h2,e2⟩:=List.getElem?_eq_some_iff.mp hb;exact hkj ((List.getElem_inj (h₀:=h1) (h₁:=h2) R.alnd).mp (e1.trans e2.symm))
   obtain⟨ob,hob⟩:=q.alive R.sub;exact⟨b,hb,q.keep x.sub (fun ob=>x.keep b ob (hne b hba)) (x.fresh b ob (hne b hba) hob)⟩
theorem Rel.freezeOwn{s:d8f}(R:Rel C sc env g s.heap al st){k:Nat}{l:List d8e}(e:st.own[k]?=some (.lst l)) :
  ∃a g',al[k]?=some a∧Step [a] s g s g'∧RD g' (.ref a) (.list l)∧Rel C sc env g' s.heap al (st.setOwn k (.froz l)):=by
 obtain⟨a,ha,h1,vs,⟨n,hp⟩,r⟩:=R.own k _ e;obtain⟨g',s1,s2,s3,s4,s5⟩:=a7c R.sub a (fun o e _=>by rw[hp]at e; cases e; rfl)
 have x:Step [a] s g s g':=⟨⟨s.heap,s.toks,rfl⟩,s1,fun _ _ _ e=>.of e,fun _=>s2,fun b o hb _ e=>(s4 b (by simpa using hb)).trans e,s5⟩
 have rd:RD g' (.ref a) (.list l):=RD.list ⟨_,s3.trans hp,rfl,n,rfl⟩ (r.mono s1);exact⟨a,g',ha,x,rd,R.turn x s2 ha (by simp) rd⟩
theorem Rel.keepV{s:d8f}(R:Rel C sc env g s.heap al st){u:V}(hv:InV C g al v u){Q:d8e→St→Prop}(h:keepV st u Q) :
  ∃d st' g',st'.vars=st.vars∧Q d st'∧RD g' v d∧Step (al++C.TA) s g s g'∧Rel C sc env g' s.heap al st':=by
 cases u with
 |dat d=>exact⟨d,st,g,rfl,h,hv,.refl,R⟩
 |own k=>
  obtain⟨a,ha,rfl⟩:=hv;dsimp only[Mw.Internal.keepV]at h;cases e:st.own[k]? with
  |none=>rw[e]at h; exact h.elim
  |some o=>
   rw[e]at h;cases o with
   |lst l=>
    obtain⟨a',g',ha',x,rd,R'⟩:=R.freezeOwn e;rw[ha]at ha'; cases ha';exact⟨_,st.setOwn k (.froz l),g',rfl,h,rd,x.mono fun b hb=>by simp at hb; subst hb; exact List.mem_append_left _ (List.mem_of_getElem? ha),R'⟩
   |froz l=>
    obtain⟨a',ha',q⟩:=R.own k _ e;rw[ha]at ha'; cases ha';exact⟨_,_,g,rfl,h,q,.refl,R⟩
   |_=>exact h.elim
 |_=>exact h.elim
theorem Rel.argV{s:d8f}(R:Rel C sc env g s.heap al st){u:V}(hv:InV C g al v u){Q:V→St→Prop}(h:argV st u Q) :
  ∃d st' g',st'.vars=st.vars∧Q d st'∧InV C g' al v d∧Step (al++C.TA) s g s g'∧Rel C sc env g' s.heap al st':=by
 cases u with
 |own k=>
  obtain⟨a,ha,rfl⟩:=hv;dsimp only[Mw.Internal.argV]at h;cases e:st.own[k]? with
  |none=>rw[e]at h; exact h.elim
  |some o=>
   rw[e]at h;cases o with
   |lst l=>
    obtain⟨a',g',ha',x,rd,R'⟩:=R.freezeOwn e;rw[ha]at ha'; cases ha';exact⟨.dat (.list l),st.setOwn k (.froz l),g',rfl,h,rd,x.mono fun b hb=>by simp at hb; subst hb; exact List.mem_append_left _ (List.mem_of_getElem? ha),R'⟩
   |froz l=>
    obtain⟨a',ha',q⟩:=R.own k _ e;rw[ha]at ha'; cases ha';exact⟨.dat (.list l),_,g,rfl,h,q,.refl,R⟩
   |iter _=>exact⟨_,_,g,rfl,h,⟨a,ha,rfl⟩,.refl,R⟩
   |dead=>exact h.elim
 |undef=>exact h.elim
 |twin _=>exact h.elim
 |dat d=>exact⟨_,st,g,rfl,h,hv,.refl,R⟩
 |fn d=>exact⟨_,st,g,rfl,h,hv,.refl,R⟩
 |tab d=>exact⟨_,st,g,rfl,h,hv,.refl,R⟩
def RDH(g h:Heap)(v:d8g):d8e→Prop
 |.list l=>∃a vs,v=.ref a∧h.IsList a (List.toArray vs)∧RDs g vs l
 |d=>RD g v d
theorem RDH.rd{g h:Heap}(s:Sub g h)(x:RDH g h v d):RD h v d:=by
 cases d with
 |list l=>obtain⟨a,vs,rfl,hl,r⟩:=x; exact RD.list hl (r.mono s)
 |_=>exact RD.mono s x
theorem RDH.of{g h:Heap}(s:Sub g h)(x:RD g v d):RDH g h v d:=by
 cases d with
 |list l=>obtain⟨a,vs,rfl,hl,r⟩:=x.listE; exact⟨a,vs,rfl,a0f s hl,r⟩
 |_=>exact x
theorem Rel.dat?(R:Rel C sc env g h al st){u:V}(hv:InV C g al v u)(e:st.dat? u=some d):RDH g h v d:=by
 cases u with
 |dat d'=>exact Option.some.inj e ▸ .of R.sub hv
 |own k=>
  obtain⟨a,ha,rfl⟩:=hv;dsimp only[St.dat?]at e;cases e':st.own[k]? with
  |none=>rw[e']at e; exact nomatch e
  |some o=>
   rw[e']at e;cases o with
   |lst l=>
    obtain⟨a',ha',_,vs,⟨n,hp⟩,r⟩:=R.own k _ e';rw[ha]at ha'; cases ha';exact Option.some.inj e▸⟨a,vs,rfl,⟨_,hp,rfl,n,rfl⟩,r⟩
   |froz l=>
    obtain⟨a',ha',q⟩:=R.own k _ e';rw[ha]at ha'; cases ha';exact Option.some.inj e ▸ .of R.sub q
   |_=>exact nomatch e
 |_=>cases e
end
end
section
noncomputable def c4f:Op2→Operator
 |.add=>.Add|.sub=>.Sub|.mul=>.Mult|.fdiv=>.FloorDiv|.mod=>.Mod|.pow=>.Pow|.shl=>.LShift|.shr=>.RShift
 |.band=>.BitAnd|.bor=>.BitOr|.bxor=>.BitXor
section
variable {C:Cfg} {A:d8q} {E:d8g→d8f→Prop} {s:d8f} {g:Heap}
def To(C:Cfg)(A:d8q)(E:d8g→d8f→Prop)(g:Heap)(s:d8f)(t:Sem d8g)(d:d8e):Prop:=
 ∀Q:d8g→d8f→Prop,(∀v s' g',Step [] s g s' g'→Sub g' s'.heap→RD g' v d→Q v s')→d8i (model C.prog C.w) A t Q E s
def ToF(C:Cfg)(A:d8q)(E:d8g→d8f→Prop)(g:Heap)(s:d8f)(t:Sem d8g)(l:List d8e):Prop:=
 ∀Q:d8g→d8f→Prop,(∀a vs h' tk,Sub s.heap h'→s.heap.get? a=none→h'.PlainList a (List.toArray vs)→RDs g vs l→Q (.ref a) { s with heap:=h',toks:=tk })→d8i (model C.prog C.w) A t Q E s
theorem ToF.to{t:Sem d8g}{l:List d8e}(sg:Sub g s.heap)(x:ToF C A E g s t l):To C A E g s t (.list l):=fun Q h=>by
 refine x Q fun a vs h' tk hk ha ⟨n,hp⟩ r=>?_;obtain⟨g',x1,x2,x3⟩:=Step.grow (tk:=tk) sg hk ha (fun o e _=>by rw[hp]at e; cases e; rfl)
 exact h _ _ g' x1 x2 (RD.list ⟨_,x3.trans hp,rfl,n,rfl⟩ (r.mono x1.sub))
theorem a0d(h:Heap):h.get? h.objs.size=none:=by
 cases e:h.get? h.objs.size with
 |none=>rfl
 |some o=>exact absurd (Heap.lt_size e) (Nat.lt_irrefl _)
theorem To.k{t:Sem d8g}{d:d8e}(sg:Sub g s.heap)(h:∀Q:d8g→d8f→Prop,(∀v k,RD g v d→Q v { s with toks:=k })→d8i (model C.prog C.w) A t Q E s):To C A E g s t d:=
 fun Q hQ=>h Q fun v k r=>hQ v _ g .toks sg r
theorem To.kh{t:Sem d8g}(sg:Sub g s.heap)(h:∀Q:d8g→d8f→Prop,(∀v h' k,Sub s.heap h'→RD g v d→Q v { s with heap:=h',toks:=k })→d8i (model C.prog C.w) A t Q E s):To C A E g s t d:=
 fun Q hQ=>h Q fun v h' k hk r=>hQ v _ g (.ext hk) (sg.trans hk) r
theorem b8c{l b:Addr}{vs ws:List d8g}{ds es:List d8e}(hl:s.heap.IsList l vs.toArray)(hb:s.heap.IsList b ws.toArray)(r:RDs g vs ds)(q:RDs g ws es)
 (hsz:ds.length+es.length≤1000000):ToF C A E g s (binaryOp .Add (.ref l) (.ref b)) (ds++es):=fun Q h=>by
 obtain⟨⟨cls,dd,data,sl⟩,ho,hc,n,hd⟩:=id hl;obtain⟨⟨cls2,dd2,data2,sl2⟩,ho2,hc2,n2,hd2⟩:=id hb;simp only at hc hd hc2 hd2;subst hc hd hc2 hd2;have e:vs.toArray++ws.toArray=(vs++ws).toArray:=by simp
 have hz:vs.length+ws.length≤d8y:=by rw[r.length,q.length]; exact Nat.le_trans hsz (by decide)
 refine concat_meets ⟨_,ho,rfl⟩ ⟨_,ho2,rfl⟩ noFill_list_add seq_list_add PySem.F.slot_list_add PySem.F.entry_list_add (PySem.F.args_list_add_2 _ _) (list_addW l b vs.toArray ws.toArray n n2 dd dd2 sl sl2 (by simpa using hz)) ⟨ho,ho2,?_⟩
 rw[e];exact h _ _ _ s.toks (a0e _) (a0d _) ⟨0,Heap.get?_push_size _ rfl⟩ (r.append q)
theorem RDs.rep(r:RDs g vs ds):∀n:Nat,RDs g (List.replicate n vs).flatten (List.replicate n ds).flatten
 |0=>by simpa using RDs.nil
 |n+1=>by simpa[List.replicate_succ]using r.append (RDs.rep r n)
theorem b3g{l:Addr}{x:Int}{u:Tok}(hl:s.heap.IsList l vs.toArray)(r:RDs g vs ds)(h0:0≤x)(hsz:ds.length*x.toNat≤1000000)(hx:x<2^63) :
  ToF C A E g s (binaryOp .Mult (.ref l) (.int x u)) (List.replicate x.toNat ds).flatten:=fun Q h=>by
 obtain⟨⟨cls,d,data,sl⟩,ho,hcl,k,hd⟩:=id hl;simp only at hcl hd;subst hcl hd;have hsz':vs.toArray.size*x.toNat≤2^24:=by have:=r.length; simp only[List.size_toArray,this]; omega
 refine wpAny_binaryOp_repeat_ref (T:="list") (U:="int") (by decide) ⟨_,ho,rfl⟩ (fun s'=>typeIs_int s' x u) noFill_list_mul F.fills_int_mul F.slot_int_rmul repeat_list F.slot_int_index.lookup
  (call_meets F.slot_int_rmul (typeIs_int s x u) F.entry_int_rmul (F.args_int_rmul_2 _ _) (lm_int_rmul_list_any x u l vs.toArray k d sl)
   ⟨ho,rfl,⟨_,ho,rfl⟩,call_meets F.slot_list_mul ⟨_,ho,rfl⟩ F.entry_list_mul (F.args_list_mul_2 _ _)
    (lm_list_mul_any l vs.toArray k d sl x u (by simp[Builtin.List.listFitsIndex]; exact lc2 1 [] [_] (.a (.l (.z (Int.neg 9223372036854775808)) Z0) (.t Z0 (.z 9223372036854775808))) (.l (.z 0) Z0) (.t Z0 (.z (Int.pow 2 63))) h0 hx) (by omega) (by simp[Builtin.List.listTooLong,d8y]; omega))
    ⟨ho,?_⟩⟩)
 refine h _ (List.replicate x.toNat vs).flatten _ s.toks (a0e _) (a0d _) ⟨0,?_⟩ (r.rep _);rw[←listMul_foldl_if];exact Heap.get?_push_size _ rfl
theorem a5d{x:Int}{n:Nat}(hx:x.natAbs<2^n):Builtin.Int.intBits x≤n:=by
 unfold Builtin.Int.intBits;split
 ·exact Nat.zero_le _
 ·rename_i h
  have h0:x.natAbs≠0:=by intro e; apply h; simp[Int.natAbs_eq_zero.mp e]
  exact(Nat.log2_lt h0).mpr hx
theorem b0t{y:Int}{n:Nat}(hn:0<n)(hy:y.natAbs<2^n):y.natAbs.log2<n:=by
 by_cases h0:y.natAbs=0
 ·rw[h0]; simpa using hn
 ·exact(Nat.log2_lt h0).mpr hy
theorem b8i{o:Op2}{a b:d8g}{x y:Int}{Q:d8e→Prop}(sg:Sub g s.heap)(ha:RDH g s.heap a (.int x))(hb:RDH g s.heap b (.int y))(h:d7p o x y Q) :
  ∃d,Q d∧To C A E g s (binaryOp (c4f o) a b) d:=by
 obtain⟨t,rfl⟩:=RD.intE ha; obtain⟨u,rfl⟩:=RD.intE hb;have kk {Q:d8g→d8f→Prop} {i:Int} {t:Tok} {k:Nat} (hQ:∀v k,RD g v (.int i)→Q v { s with toks:=k }):Q (.int i t) { s with toks:=k }:=hQ _ _ (.int _ _)
 cases o with
 |add=>exact⟨_,h,.k sg fun Q hQ=>add_int (kk hQ)⟩
 |sub=>exact⟨_,h,.k sg fun Q hQ=>sub_int (kk hQ)⟩
 |mul=>exact⟨_,h.2,.k sg fun Q hQ=>mul_int (kk hQ) (h.1.elim (fun e=>.of_left (a5d e)) fun e=>.of_right (a5d e))⟩
 |fdiv=>exact⟨_,h.2,.k sg fun Q hQ=>floordiv_int h.1.1 (kk hQ) (.inl (PyProof.noPylong_of_log2 (Nat.lt_of_lt_of_le (b0t (n:=4000) (by decide) h.1.2) (by decide))))⟩
 |mod=>exact⟨_,h.2,.k sg fun Q hQ=>mod_int' h.1 (kk hQ)⟩
 |pow=>exact⟨_,h.2,.k sg fun Q hQ=>pow_int_small h.1.1 (by have:=h.1.2.1; omega) h.1.2.2 (kk hQ)⟩
 |shl=>exact⟨_,h.2,.k sg fun Q hQ=>lshift_int h.1.1 (by have:=a5d h.1.2.2; have:=h.1.2.1; omega) (kk hQ)⟩
 |shr=>exact⟨_,h.2,.k sg fun Q hQ=>rshift_int h.1 (kk hQ)⟩
 |band=>exact⟨_,h,.k sg fun Q hQ=>and_int (kk hQ)⟩
 |bor=>exact⟨_,h,.k sg fun Q hQ=>or_int (kk hQ)⟩
 |bxor=>exact⟨_,h,.k sg fun Q hQ=>xor_int (kk hQ)⟩
theorem b8t{o:Op2}{a b:d8g}{x y:d8e}{Q:d8e→Prop}(sg:Sub g s.heap)(ha:RDH g s.heap a x)(hb:RDH g s.heap b y)(h:b3a o x y Q) :
  ∃d,Q d∧To C A E g s (binaryOp (c4f o) a b) d:=by
 cases x with
 |int x=>
  cases y with
  |int y=>exact b8i sg ha hb h
  |bool y=>
   obtain⟨rfl,h1⟩:=c0m h; obtain⟨t,rfl⟩:=RD.intE ha; obtain rfl:=RD.boolE hb;exact⟨_,h1,.k sg fun Q hQ=>IntBool.mul_int_bool (hQ _ _ (.int _ _))⟩
  |_=>exact h.elim
 |str x=>
  obtain⟨y,rfl,h1⟩:=a9y h; obtain⟨rfl,h2⟩:=b9n h1; obtain⟨t,rfl⟩:=RD.strE ha; obtain⟨u,rfl⟩:=RD.strE hb;exact⟨_,h2.2,.k sg fun Q hQ=>add_str (fun t' tk=>hQ _ _ (.str _ _)) h2.1⟩
 |list x=>
  obtain⟨l,vs,rfl,hl,r⟩:=ha;cases y with
  |list y=>obtain⟨rfl,h1⟩:=b9n h; obtain⟨m,ws,rfl,hm,q⟩:=hb; exact⟨_,h1.2,(b8c hl hm r q h1.1).to sg⟩
  |int y=>obtain⟨rfl,⟨h1,h2,h3⟩,h4⟩:=c0m h; obtain⟨u,rfl⟩:=RD.intE hb; exact⟨_,h4,(b3g hl r h1 h3 (by exact a2h (.t Z0 (.z (Int.pow 2 63))) (.l Z0 (.z 1000000)) h2)).to sg⟩
  |_=>exact h.elim
 |_=>exact h.elim
end
section
variable {C:Cfg} {A:d8q} {E:d8g→d8f→Prop} {s:d8f} {g:Heap}
theorem a5l{Q:Bool→Prop}(hv:RDH g s.heap v d)(h:a6g d Q) :
  ∃b,Q b∧∀R:Bool→d8f→Prop,(∀k,R b { s with toks:=k })→d8i (model C.prog C.w) A (truthy v) R E s:=by
 cases d with
 |none=>obtain rfl:=RD.noneE hv; exact⟨_,h,fun R hR=>truthy_none (hR s.toks)⟩
 |bool b=>obtain rfl:=RD.boolE hv; exact⟨_,h,fun R hR=>wpAny_truthy_bool (hR s.toks)⟩
 |int i=>obtain⟨t,rfl⟩:=RD.intE hv; exact⟨_,h,fun R hR=>truthy_int (hR s.toks)⟩
 |str x=>
  obtain⟨t,rfl⟩:=RD.strE hv;exact⟨_,h.2,fun R hR=>P.truthy_str (by have:=h.1; exact a0j (.n (.l (.z (Int.pow 2 63)) (.c N0))) (.l N0 (.k 1000000)) this) (hR _)⟩
 |list l=>
  obtain⟨a,vs,rfl,hl,r⟩:=hv;refine⟨_,h.2,fun R hR=>wpAny_truthy_list hl (by have:=h.1; rw[List.size_toArray,r.length]; omega) ?_⟩
  have e:(!vs.toArray.isEmpty)=((l.length:Int) != 0):=by
   rw[←r.length];cases vs <;> rfl
  rw[e]; exact hR _
 |_=>exact h.elim
theorem c1d{Q:Bool→Prop}(sg:Sub g s.heap)(hv:RDH g s.heap v d)(h:a6g d Q):∃b,Q b∧To C A E g s (unaryOp .Not v) (.bool !b):=by
 obtain⟨b,hb,k⟩:=a5l (C:=C) (A:=A) (E:=E) hv h;exact⟨b,hb,.k sg fun Q hQ=>not_of (k _ fun t=>hQ _ t (.bool _))⟩
theorem c2b{i:Int}(sg:Sub g s.heap)(hv:RDH g s.heap v (.int i)):To C A E g s (unaryOp .USub v) (.int (-i)):=by
 obtain⟨t,rfl⟩:=RD.intE hv; exact .k sg fun Q hQ=>neg_int (hQ _ _ (.int _ _))
theorem c2i{i:Int}(sg:Sub g s.heap)(hv:RDH g s.heap v (.int i)):To C A E g s (unaryOp .Invert v) (.int (Builtin.bitNot i)):=by
 obtain⟨t,rfl⟩:=RD.intE hv; exact .k sg fun Q hQ=>invert_int (hQ _ _ (.int _ _))
noncomputable def a9x:Cmp→CmpOp
 |.eq=>.Eq|.ne=>.NotEq|.lt=>.Lt|.le=>.LtE|.gt=>.Gt|.ge=>.GtE|.is=>.Is|.isnot=>.IsNot|.isin=>.In|.notin=>.NotIn
theorem b8z{l:List d8e}(h:SeqAt.shaped (.list l)=true):PyData.canLayAll0 l=true∧PyData.depthAll l≤63:=by
 have h1:=SeqAt.canLay_of_shaped h;have h2:=SeqAt.depth_of_shaped h;simp only[PyData.canLay0]at h1;simp only[PyData.depth]at h2;exact⟨h1,by exact a0j (.l N0 (.k 63)) (.l (.p N0 O1) (.k 64)) h2⟩
theorem b5x{l:List d8e}(h:SeqAt.shaped (.tuple l)=true):PyData.canLayAll0 l=true∧PyData.depthAll l≤63:=by
 have h1:=SeqAt.canLay_of_shaped h;have h2:=SeqAt.depth_of_shaped h;simp only[PyData.canLay0]at h1;simp only[PyData.depth]at h2;exact⟨h1,by exact a0j (.l N0 (.k 63)) (.l (.p N0 O1) (.k 64)) h2⟩
theorem b0f(h:SeqAt.shaped d=true):d.canLay0=true:=by
 unfold SeqAt.shaped at h;simp only[Bool.and_eq_true]at h;exact h.1
theorem a4z{o:Cmp}{a b:d8g}{x y:d8e}{p:Int→Int→Bool}{Q:Bool→Prop}(sg:Sub g s.heap)(ha:RDH g s.heap a x)(hb:RDH g s.heap b y)(h:onI x fun x=>onI y fun y=>Q (p x y))
 (k:∀{x y:Int} {t u:Tok} {Q:d8g→d8f→Prop},Q (.bool (p x y)) s→d8i (model C.prog C.w) A (compareOp (a9x o) (.int x t) (.int y u)) Q E s) :
  ∃t,Q t∧To C A E g s (compareOp (a9x o) a b) (.bool t):=by
 obtain⟨x,rfl,h1⟩:=a7i h; obtain⟨y,rfl,h2⟩:=a7i h1;obtain⟨t,rfl⟩:=RD.intE ha; obtain⟨u,rfl⟩:=RD.intE hb;exact⟨_,h2,.k sg fun Q hQ=>k (hQ _ s.toks (.bool _))⟩
theorem c5h{g:Heap}{a:d8g}{x:d8e}{as:List Addr}(r:Reads g a x as):(a==Value.none)=b6d x:=by cases r <;> rfl
theorem a6w{o:Cmp}{a b:d8g}{x y:d8e}{Q:Bool→Prop}{n:Nat}(ok:AOK A n hz g)(sg:Sub g s.heap)(ha:RDH g s.heap a x)(hb:RDH g s.heap b y)(h:b2g o x y Q) :
  ∃t,Q t∧To C A E g s (compareOp (a9x o) a b) (.bool t):=by
 have hu:A.units+64<cLine:=by have:=ok.units; exact a1z (.t (.p N0 (.k 64)) N1) (.t (.p (.p N0 (.m 0 4 N2)) (.k 70)) N1) this
 obtain⟨as,ra⟩:=ha.rd sg; obtain⟨bs,rb⟩:=hb.rd sg;have fin {t:Bool} {m:Sem d8g} (hm:∀{Q:d8g→d8f→Prop},Q (.bool t) s→d8i (model C.prog C.w) A m Q E s):To C A E g s m (.bool t):=.k sg fun Q hQ=>hm (hQ _ s.toks (.bool _));cases o with
 |eq=>
  have gen (h:(SeqAt.shaped x=true∧SeqAt.shaped y=true)∧Q (PyData.eqv x y)):∃t,Q t∧To C A E g s (compareOp .Eq a b) (.bool t):=⟨_,h.2,fin (eq_dataH ra rb h.1.1 h.1.2 hu)⟩;cases x with
  |int x=>
   cases y with
   |int y=>obtain⟨t,rfl⟩:=RD.intE ha; obtain⟨u,rfl⟩:=RD.intE hb; exact⟨_,h,fin eq_int⟩
   |_=>exact gen h
  |str x=>
   cases y with
   |str y=>obtain⟨t,rfl⟩:=RD.strE ha; obtain⟨u,rfl⟩:=RD.strE hb; exact⟨_,h,fin eq_str⟩
   |_=>exact gen h
  |_=>exact gen h
 |ne=>exact⟨_,h.2,fin (ne_dataH ra rb h.1.1 h.1.2 hu)⟩
 |lt=>exact a4z (o:=.lt) sg ha hb h lt_int
 |le=>exact a4z (o:=.le) sg ha hb h le_int
 |gt=>exact a4z (o:=.gt) sg ha hb h gt_int
 |ge=>exact a4z (o:=.ge) sg ha hb h ge_int
 |is=>
  cases y with
  |none=>
   obtain rfl:=RD.noneE hb;have e:=c5h ra;exact⟨_,h,.k sg fun Q hQ=>is_none_gen (e▸hQ _ s.toks (.bool _))⟩
  |bool y=>obtain⟨x,rfl,h1⟩:=c9z h; obtain rfl:=RD.boolE ha; obtain rfl:=RD.boolE hb; exact⟨_,h1,fin is_bool⟩
  |_=>exact h.elim
 |isnot=>obtain⟨x,rfl,h1⟩:=c9z h; obtain⟨y,rfl,h2⟩:=c9z h1; obtain rfl:=RD.boolE ha; obtain rfl:=RD.boolE hb; exact⟨_,h2,fin isnot_bool⟩
 |isin=>
  cases y with
  |str y=>obtain⟨x,rfl,h1⟩:=a9y h; obtain⟨t,rfl⟩:=RD.strE ha; obtain⟨u,rfl⟩:=RD.strE hb; exact⟨_,h1,fin SB.contains⟩
  |list l=>have h3:=b8z h.1.2; exact⟨_,h.2,fin (SeqAt.in_list_reads rb ra h3.1 (b0f h.1.1) (by exact b2z (.t (.p (.p N0 O1) (.b 2 N1 N2)) N3) (.t (.p N0 (.k 64)) N3) (.l N1 (.k 63)) hu h3.2))⟩
  |_=>exact h.elim
 |notin=>
  cases y with
  |str y=>obtain⟨x,rfl,h1⟩:=a9y h; obtain⟨t,rfl⟩:=RD.strE ha; obtain⟨u,rfl⟩:=RD.strE hb; exact⟨_,h1,fin SB.notContains⟩
  |tuple l=>have h3:=b5x h.1.2; exact⟨_,h.2,fin (SeqAt.notIn_tuple_reads rb ra h3.1 (b0f h.1.1) (by exact b2z (.t (.p (.p N0 O1) (.b 2 N1 N2)) N3) (.t (.p N0 (.k 64)) N3) (.l N1 (.k 63)) hu h3.2))⟩
  |_=>exact h.elim
end
end
section
section
variable {C:Cfg} {A:d8q} {E:d8g→d8f→Prop} {s:d8f} {g:Heap}
theorem a9h{value slice:Expr}{o i:d8g}{T id:String}{Q:d8g→d8f→Prop}(hT:s.TypeIs o T)
 (hl:typeLookup (.type T) "__getitem__" = pure (some (.builtin id))) (h:d8i (model C.prog C.w) A (getItem o i) Q E s):d8i (model C.prog C.w) A (subscriptTail value slice o i) Q E s:=by
 unfold subscriptTail;refine d8d ?_;rw[getitemInPython_of_ne hT.not_modules];refine d8d (wpAny_specialOf hT hl ?_);have fin:∀vs,d8i (model C.prog C.w) A (operate vs (getItem o i)) (fun r s₃=>d8i (model C.prog C.w) A (letTemporaryGo value o r >>= fun _=>pure r) Q E s₃) E s:=fun vs=>
  wpAny_operating (d8p h (fun r s₃ h₃=>d8d (wpAny_letTemporaryGo (d8h h₃))) fun _ _ x=>x)
 have e:subscripted slice false o i=operate [o,i] (getItem o i)∨subscripted slice false o i=operate [i,o] (getItem o i):=by
  cases slice with
  |Slice l u st p=>cases st <;> first|exact .inl rfl|exact .inr rfl
  |_=>first|exact .inl rfl|exact .inr rfl
 refine d8h (d8d ?_)
 rcases e with e|e <;> (first|rw[e]|(show d8i _ _ (subscripted slice false o i) _ _ _; rw[e])) <;> exact fin _
theorem c2q{n:Nat}{k:Int}(h:a1i n k=some j):(0≤k∧k.toNat=j∧j<n)∨(k<0 ∧ -(n:Int)≤k∧(k+n).toNat=j∧j<n):=by
 unfold a1i at h
 split at h
 ·split at h
  ·cases h; exact .inl ⟨by assumption,rfl,by assumption⟩
  ·cases h
 ·split at h
  ·cases h; exact .inr ⟨by exact a2h (.t Z0 (.z 0)) (.n (.l (.z 0) Z0)) ‹_›,by assumption,rfl,by omega⟩
  ·cases h
theorem a3r(k:Int)(n:Nat):seqIndex? k n=a1i n k:=by
 have e (i:Int):(decide (0≤i)&&decide (i<n))=true ↔ 0≤i∧i<n:=by rw[Bool.and_eq_true,decide_eq_true_eq,decide_eq_true_eq]
 unfold seqIndex? a1i
 by_cases h0:k<0
 ·rw[if_pos h0,if_neg (show ¬0≤k by exact a2h (.n (.l (.z 0) Z0)) (.t Z0 (.z 0)) h0)]
  by_cases h1:-(n:Int)≤k
  ·rw[if_pos h1]; exact if_pos ((e _).mpr (by exact lc2 1 [_] [_] (.a (.l (.z 0) (.P Z0 (.c N0))) (.t (.P Z0 (.c N0)) (.c N0))) (.t Z0 (.z 0)) (.l (.N (.c N0)) Z0) h0 h1))
  ·rw[if_neg h1]; exact if_neg fun h=>h1 (by have:=(e _).mp h; omega)
 ·rw[if_neg h0,if_pos (show 0≤k by exact a2h (.l (.z 0) Z0) (.n (.t Z0 (.z 0))) h0)]
  by_cases h1:k.toNat<n
  ·rw[if_pos h1]; exact if_pos ((e _).mpr (by exact lc2 1 [_] [_] (.a (.l (.z 0) Z0) (.t Z0 (.c N0))) (.n (.t Z0 (.z 0))) (.t (.u 0 Z0) N0) h0 h1))
  ·rw[if_neg h1]; exact if_neg fun h=>h1 (by have:=(e _).mp h; omega)
theorem c3d{va:V}{al:List Addr}{a i:d8g}{x y:Option d8e}{Q:d8e→Prop}{value slice:Expr}(sg:Sub g s.heap)(hva:InV C g al a va)
 (ha:∀d,x=some d→RDH g s.heap a d) (hi:∀d,y=some d→RDH g s.heap i d) (h:c8t va x y Q) :
  ∃d,Q d∧To C A E g s (subscriptTail value slice a i) d:=by
 cases y with
 |none=>exact h.elim
 |some y=>
 obtain⟨k,rfl,h0⟩:=a7i h;obtain⟨t,rfl⟩:=RD.intE (hi _ rfl);have gen (h:atO x k Q):∃d,Q d∧To C A E g s (subscriptTail value slice a (.int k t)) d:=by
  cases x with
  |none=>exact h.elim
  |some x=>
  have ha:=ha _ rfl;cases x with
  |list l=>
   obtain⟨b,vs,rfl,hl,r⟩:=ha;obtain⟨hb,h⟩:=h;cases hd:(a1i l.length k).bind (l[·]?)with
   |none=>rw[hd]at h; exact h.elim
   |some d=>
    rw[hd]at h;obtain⟨j,hj,hd⟩:=Option.bind_eq_some_iff.mp hd;obtain⟨v,hv,rv⟩:=r.get hd;refine⟨_,h,.k sg fun Q hQ=>a9h hl.typeIs list_getitem_lookup ?_⟩;have hlen:=r.length
    rcases c2q hj with⟨h0,h1,_⟩|⟨h0,h1,h2,_⟩
    ·exact wpAny_getItem_list hl h0 (by exact a2h (.t Z0 (.z (Int.pow 2 63))) (.a (.l (.z (Int.neg 1000000)) Z0) (.l Z0 (.z 1000000))) hb) (x:=v) (by rw[h1,List.getElem?_toArray]; exact hv) (hQ _ s.toks rv)
    ·exact wpAny_getItem_list_neg hl h0 (by rw[List.size_toArray,hlen]; exact h1) (by exact a2h (.l (.z (- (2^63))) Z0) (.a (.l (.z (Int.neg 1000000)) Z0) (.l Z0 (.z 1000000))) hb) (x:=v) (by rw[List.size_toArray,hlen,h2,List.getElem?_toArray]; exact hv) (hQ _ s.toks rv)
  |tuple l=>
   obtain⟨b,vs,rfl,hl,r⟩:=RD.tupleE ha;obtain⟨hb,h⟩:=h;cases hd:(a1i l.length k).bind (l[·]?)with
   |none=>rw[hd]at h; exact h.elim
   |some d=>
    rw[hd]at h;obtain⟨j,hj,hd⟩:=Option.bind_eq_some_iff.mp hd;obtain⟨v,hv,rv⟩:=r.get hd;have hl':=a0q sg hl;refine⟨_,h,.k sg fun Q hQ=>a9h (T:="tuple") hl'.typeIs slot_tuple_getitem.lookup (getItem_tuple hl' (by omega) (by omega) (j:=j) ?_ (x:=v) (List.getElem?_toArray.trans hv) (hQ _ s.toks rv))⟩
    rw[List.size_toArray,r.length,a3r]; exact hj
  |_=>exact h.elim
 cases va with
 |tab kvs=>
  obtain⟨d,rfl,ht⟩:=hva;have h0:match Spec.lookup (.int k) kvs with|some (.str s)=>Q (.str s)|_=>False:=h0
  cases hx:Spec.lookup (.int k) kvs with
  |none=>rw[hx]at h0; exact h0.elim
  |some d=>
   rw[hx]at h0;obtain⟨x,rfl,h1⟩:=a9y (K:=fun s=>Q (.str s)) (d:=d) (by cases d <;> exact h0)
   refine⟨_,h1,.k sg fun Q hQ=>?_⟩;obtain⟨_,kvs',hd,_⟩:=ht.keep sg;refine a9h hd.typeIs slot_dict_getitem.lookup (getItem_tab (knd:=intKind _ _) (enc:=PyData.int) PyProof.V.same_int (intKind_is _ _ _ _) (ht.keep sg) hx fun v hv=>?_);exact hQ _ _ ⟨_,hv g⟩
 |_=>exact gen h0
theorem c4l(n:Nat)(i:Int):max 0 (min (if i<0 then i+(n:Int)else i) (n:Int))=(c2s n i:Int)∧c2s n i≤n:=by
 unfold c2s
 by_cases h:i<0
 ·have h1:i+(n:Int)≤n:=by have:=Int.add_le_add_right (Int.le_of_lt h) (n:Int); rwa[Int.zero_add]at this
  rw[if_pos h,if_neg (Int.not_le.mpr h),Int.min_eq_left h1,Int.max_comm,Int.toNat_eq_max];exact⟨rfl,Int.toNat_le.mpr h1⟩
 ·rw[if_neg h,if_pos (Int.not_lt.mp h)]
  obtain⟨k,rfl⟩:=Int.eq_ofNat_of_zero_le (Int.not_lt.mp h);rw[Int.toNat_natCast]
  rcases Nat.le_total k n with hk|hk
  ·rw[Nat.min_eq_left hk,Int.min_eq_left (Int.ofNat_le.mpr hk),Int.max_eq_right (Int.natCast_nonneg _)]; exact⟨rfl,hk⟩
  ·rw[Nat.min_eq_right hk,Int.min_eq_right (Int.ofNat_le.mpr hk),Int.max_eq_right (Int.natCast_nonneg _)]; exact⟨rfl,Nat.le_refl _⟩
theorem b0b(n:Nat)(lo hi:Option Int):∃a b:Nat,a≤n∧b≤n∧(sliceBounds lo hi none n).1=(a:Int)∧(sliceBounds lo hi none n).2.1=(b:Int)∧∀{α:Type} {l:List α},l.length=n→cut l lo hi=(l.take b).drop a:=by
 refine⟨lo.elim 0 (c2s n),hi.elim n (c2s n),?_,?_,?_,?_,fun h=>?_⟩
 ·cases lo with
  |none=>exact Nat.zero_le _
  |some i=>exact(c4l n i).2
 ·cases hi with
  |none=>exact Nat.le_refl _
  |some i=>exact(c4l n i).2
 ·cases lo with
  |none=>rfl
  |some i=>exact(c4l n i).1
 ·cases hi with
  |none=>rfl
  |some i=>exact(c4l n i).1
 ·subst h; cases lo <;> cases hi <;> rfl
theorem c8m(a b:Nat):(if (1:Int)>0 then(if (a:Int)<b then((b:Int)-a+1-1)/1 else 0)else(if (a:Int)>b then((a:Int)-b-1-1)/(-1)else 0)).toNat=b-a:=by
 rw[if_pos (by decide)]
 by_cases h:(a:Int)<b
 ·rw[if_pos h,Int.add_sub_cancel,Int.ediv_one,Int.toNat_sub]
 ·rw[if_neg h,Nat.sub_eq_zero_of_le (Int.ofNat_le.mp (Int.not_lt.mp h))]; rfl
theorem c9g(a k:Nat):((a:Int)+1*(k:Int)).toNat=a+k:=by rw[Int.one_mul]; rfl
theorem range_one(a b:Nat):sliceRange (a:Int) (b:Int) 1=(List.range (b-a)).map fun k=>a+k:=by
 unfold sliceRange;dsimp only;rw[c8m];exact List.map_congr_left fun k _=>c9g a k
theorem b7o{α:Type}(l:List α)(lo hi:Option Int) :
  (sliceRange (sliceBounds lo hi none l.length).1 (sliceBounds lo hi none l.length).2.1 1).filterMap (l[·]?)=cut l lo hi:=by
 obtain⟨a,b,ha,hb,e1,e2,e3⟩:=b0b l.length lo hi;rw[e1,e2,e3 rfl,range_one]
 by_cases hab:a≤b
 ·rw[StrLaws.picks l (b-a) a (by exact a2q (.l (.p N0 (.s N1 N0)) N2) (.l N0 N2) (.l N1 N2) ha hb),List.drop_take]
 ·rw[Nat.sub_eq_zero_of_le (by exact a1d (.l N0 N1) (.n (.l N1 N0)) hab),List.drop_eq_nil_of_le (by rw[List.length_take]; exact a1z (.l (.b 2 N0 N1) N2) (.n (.l N2 N0)) hab)]; rfl
theorem c3x{α:Type}(l:List α)(lo hi:Option Int):(sliceRange (sliceBounds lo hi none l.length).1 (sliceBounds lo hi none l.length).2.1 1).length=(cut l lo hi).length:=by
 obtain⟨a,b,ha,hb,e1,e2,e3⟩:=b0b l.length lo hi;rw[e1,e2,e3 rfl,range_one,List.length_map,List.length_range,List.length_drop,List.length_take,Nat.min_eq_left hb]
theorem RDs.cut{vs:List d8g}{ds:List d8e}(r:RDs g vs ds)(lo hi:Option Int):RDs g (cut vs lo hi) (cut ds lo hi):=by
 unfold Mw.Internal.cut;rw[r.length];exact(r.take _).drop _
end
end
section
section
variable {C:Cfg} {A:d8q} {E:d8g→d8f→Prop} {s:d8f} {g:Heap}
def PartV(v:d8g):Option Int→Prop
 |none=>v=.none
 |some i=>∃t,v=.int i t
theorem PartV.is{o:Option Int}(h:PartV v o):IsPart v o:=by
 cases o with
 |none=>cases h; exact .none
 |some i=>obtain⟨t,rfl⟩:=h; exact .int i t
theorem b8m(x:Str)(lo hi:Option Int):Txt.slice x lo hi=⟨(cut x.cps.toList lo hi).toArray⟩:=by
 have e:Builtin.Str.strSliceIndices lo hi 1 x.length=sliceRange (sliceBounds lo hi none x.cps.toList.length).1 (sliceBounds lo hi none x.cps.toList.length).2.1 1:=by
  cases lo <;> cases hi <;> rfl
 have key:(Builtin.Str.strSliceIndices lo hi 1 x.length).filterMap (x.cps[·]?)=cut x.cps.toList lo hi:=by
  rw[←b7o x.cps.toList lo hi,e];simp only[Array.getElem?_toList]
 unfold Txt.slice;split
 ·rename_i hl
  have hl:((Builtin.Str.strSliceIndices lo hi 1 x.length).length==x.length)=true:=hl;have h1:=beq_iff_eq.mp hl;have hs:(cut x.cps.toList lo hi).Sublist x.cps.toList:=(List.drop_sublist _ _).trans (List.take_sublist _ _);rw[hs.eq_of_length ?_];rw[e,c3x]at h1;exact h1
 ·rw[key]
theorem PartV.pv{o:Option Int}(h:PartV v o):∃l:Option (Int×Tok),v=partValue l∧o=l.map (·.1):=by
 cases o with
 |none=>cases h; exact⟨none,rfl,rfl⟩
 |some i=>obtain⟨u,rfl⟩:=h; exact⟨some (i,u),rfl,rfl⟩
theorem c5k{a vl vu:d8g}{lo hi:Option Int}{Q:d8e→Prop}{value slice:Expr}(sg:Sub g s.heap)(ha:RDH g s.heap a d)(pl:PartV vl lo)(pu:PartV vu hi)(h:sl2 d lo hi Q) :
  ∃r,Q r∧∀R:d8g→d8f→Prop,(∀v s' g',Step [] s g s' g'→Sub g' s'.heap→RD g' v r→R v s')→
   d8i (model C.prog C.w) A (subscriptTail value slice a (.ref s.heap.objs.size)) R E { s with heap:=s.heap.push { cls:=.type "slice",data:=.fields #[vl,vu,.none] } }:=by
 cases d with
 |list l=>
  obtain⟨l,vs,rfl,hl,r⟩:=ha;have hl':(s.heap.push { cls:=.type "slice",data:=.fields #[vl,vu,.none] }).IsList l vs.toArray:=a0f (a0e _) hl;refine⟨_,h.2,fun R hR=>a9h (s:={ s with heap:=s.heap.push _ }) (T:="list") hl'.typeIs list_getitem_lookup
   (wpAny_getItem_list_slice hl' (Heap.IsSliceOf.new ..) pl.is pu.is .none (by simp) ?_ (by have:=r.length; simp only[List.size_toArray,this]; exact Nat.le_trans h.1 (by decide)))⟩
  have hsub:Sub s.heap ((s.heap.push { cls:=.type "slice",data:=.fields #[vl,vu,.none] }).push { cls:=.type "list",data:=.seq (slicePick vs.toArray lo hi none) }):=(a0e _).trans (a0e _);have hnew:s.heap.get? (s.heap.objs.size+1)=none:=by
   cases e:s.heap.get? (s.heap.objs.size+1)with
   |none=>rfl
   |some o=>exact absurd (Heap.lt_size e) (Nat.not_lt.mpr (Nat.le_succ _))
  have hget:=Heap.get?_push_size (s.heap.push { cls:=.type "slice",data:=.fields #[vl,vu,.none] }) (o:={ cls:=.type "list",data:=.seq (slicePick vs.toArray lo hi none) }) rfl;rw[Heap.size_push]at hget;obtain⟨g',x1,x2,x3⟩:=Step.grow (tk:=s.toks) (g:=g) sg hsub hnew (fun o e _=>by rw[hget]at e; cases e; rfl)
  refine hR _ _ g' (by simpa[Heap.size_push]using x1) x2 ?_
  have e:slicePick vs.toArray lo hi none=(cut vs lo hi).toArray:=by
   unfold slicePick
   have:=b7o vs lo hi
   simp only[List.size_toArray,List.getElem?_toArray]at *;have e2:(sliceBounds lo hi none vs.length).2.2=1:=rfl;rw[e2,this]
  dsimp only;rw[Heap.size_push];exact RD.list ⟨_,x3.trans hget,rfl,0,by rw[e]⟩ ((r.mono x1.sub).cut lo hi)
 |str x=>
  obtain⟨t,rfl⟩:=RD.strE ha;have hx:x.length≤d8y:=Nat.le_trans h.1 (by decide)
  refine⟨_,h.2,fun R hR=>?_⟩;have fin:∀h' t' k,Sub s.heap h'→R (.str (Txt.slice x lo hi) t') { s with heap:=h',toks:=k }:=fun h' t' k hs=>by
   rw[b8m];exact hR _ _ g (.ext (tk:=k) hs) (sg.trans hs) (.str _ _)
  obtain⟨l,rfl,rfl⟩:=pl.pv;obtain⟨u,rfl,rfl⟩:=pu.pv;exact a9h (T:="str") (typeIs_str _ _ _) F.slot_str_getitem.lookup (wpAny_getItem_str_slice (l:=l) (u:=u) (st:=none) ⟨_,Heap.get?_push_size _ rfl,rfl,rfl⟩ rfl
   (post_val_or_str ⟨Nat.le_trans (Txt.slice_le x _ _) hx,fun t' k=>fin _ t' k (a0e _)⟩))
 |_=>exact h.elim
noncomputable def d6p:B→d8g
 |.len=>.builtin "len" |.sum=>.builtin "sum" |.min=>.builtin "min" |.max=>.builtin "max" |.max2=>.builtin "max" |.abs=>.builtin "abs"
 |.divmod=>.builtin "divmod" |.isint=>.builtin "isinstance"
noncomputable def biX:B→List d8g|.isint=>[.type "int"]|_=>[]
inductive RDHs(g h:Heap):List d8g→List d8e→Prop
 |nil:RDHs g h [] []
 |cons {v:d8g} {d:d8e} {vs:List d8g} {ds:List d8e}:RDH g h v d→RDHs g h vs ds→RDHs g h (v::vs) (d::ds)
theorem RDHs.one(x:RDHs g h vs [d]):∃v,vs=[v]∧RDH g h v d:=by cases x with|cons a b=>cases b; exact⟨_,rfl,a⟩
theorem RDHs.two{d e:d8e}(x:RDHs g h vs [d,e]):∃v u,vs=[v,u]∧RDH g h v d∧RDH g h u e:=by
 cases x with|cons a b=>obtain⟨u,rfl,hu⟩:=b.one; exact⟨_,u,rfl,a,hu⟩
theorem RDHs.none(x:RDHs g h vs []):vs=[]:=by cases x; rfl
theorem b6l{l:List d8e}(r:RDs g vs l)(hi:∀d∈l,∃j:Int,d=.int j):∃xs:Array (Int×Tok),vs.toArray=intItems xs∧l=xs.toList.map fun p=>PyData.int p.1:=by
 induction vs generalizing l with
 |nil=>obtain⟨_,r⟩:=r; cases r; exact⟨#[],by simp[intItems],by simp⟩
 |cons v vs ih=>
  obtain⟨d,l',rfl,h1,h2⟩:=r.cases;obtain⟨j,rfl⟩:=hi _ (.head _);obtain⟨t,rfl⟩:=h1.intE;obtain⟨xs,e1,e2⟩:=ih h2 fun d hd=>hi d (.tail _ hd);refine⟨#[(j,t)]++xs,?_,by simp[e2]⟩
  have:(Value.int j t::vs).toArray=#[Value.int j t]++vs.toArray:=by simp
  rw[this,e1]; simp[intItems]
theorem a6n{xs:Array (Int×Tok)}(hj:j<xs.size):numAt xs j=(xs[j]'hj).1:=by simp[numAt,hj]
theorem b4q:∀l:List (Int×Tok),c3g (l.map fun p=>PyData.int p.1)=some ((l.map (·.1)).sum)
 |[]=>rfl
 |p::l=>congrArg (Option.map (p.1 + ·)) (b4q l)
theorem b6a{f:List d8e→Option Int}(h1:∀d r i,f (d::r)=some i→(∃j:Int,d=.int j)∧(r=[]∨∃k,f r=some k)):∀{l:List d8e} {i:Int},f l=some i→∀d∈l,∃j:Int,d=.int j
 |[],_,_=>fun _ hd=>nomatch hd
 |d::r,i,h=>fun e he=>by
  obtain⟨h2,h3⟩:=h1 d r i h;cases he with
  |head=>exact h2
  |tail _ he=>exact h3.elim (fun h=>by subst h; cases he) fun h=>h.elim fun k hk=>b6a h1 hk e he
theorem b4i{i:Int}(h:c3h (d::r)=some i):∃p:Int,d=.int p∧((r=[]∧i=p)∨∃k,c3h r=some k∧max p k=i):=by
 cases d with
 |int p=>
  cases r with
  |nil=>cases h; exact⟨_,rfl,.inl ⟨rfl,rfl⟩⟩
  |cons q l=>exact⟨_,rfl,.inr (Option.map_eq_some_iff.mp h)⟩
 |_=>cases h
theorem b4r{i:Int}(h:b8g (d::r)=some i):∃p:Int,d=.int p∧((r=[]∧i=p)∨∃k,b8g r=some k∧min p k=i):=by
 cases d with
 |int p=>
  cases r with
  |nil=>cases h; exact⟨_,rfl,.inl ⟨rfl,rfl⟩⟩
  |cons q l=>exact⟨_,rfl,.inr (Option.map_eq_some_iff.mp h)⟩
 |_=>cases h
theorem c3k{l:List d8e}{i:Int}:c3h l=some i→∀d∈l,∃j:Int,d=.int j:=
 b6a fun _ _ _ h=>(b4i h).elim fun p h=>⟨⟨p,h.1⟩,h.2.imp And.left (Exists.imp fun _=>And.left)⟩
theorem c3w{l:List d8e}{i:Int}:b8g l=some i→∀d∈l,∃j:Int,d=.int j:=
 b6a fun _ _ _ h=>(b4r h).elim fun p h=>⟨⟨p,h.1⟩,h.2.imp And.left (Exists.imp fun _=>And.left)⟩
theorem b2n{f:List d8e→Option Int}{R:Int→Int→Prop}(tr:∀{a b c},R a b→R b c→R a c)(rf:∀a,R a a)
  (h1:∀d r i,f (d::r)=some i→∃p:Int,d=.int p∧((r=[]∧i=p)∨∃k,f r=some k∧(i=p∨i=k)∧R i p∧R i k)) (h0:∀i,f []≠some i) :
  ∀{l:List (Int×Tok)} {i:Int},f (l.map fun p=>PyData.int p.1)=some i→i∈l.map (·.1)∧∀j∈l.map (·.1),R i j
 |[],i,h=>absurd h (h0 i)
 |p::l,i,h=>by
  obtain⟨_,e,h2|⟨k,hk,he,hp,hq⟩⟩:=h1 _ _ _ h <;> cases e
  ·obtain⟨e,rfl⟩:=h2
   cases l with
   |nil=>exact⟨.head _,fun j hj=>by cases List.mem_singleton.mp hj; exact rf _⟩
   |cons _ _=>cases e
  ·obtain⟨h3,h4⟩:=b2n (R:=R) tr rf h1 h0 hk
   refine⟨?_,fun j hj=>?_⟩
   ·rcases he with e|e <;> rw[e]
    ·exact .head _
    ·exact .tail _ h3
   ·cases hj with
    |head=>exact hp
    |tail _ hj=>exact tr hq (h4 j hj)
theorem c0i{l:List (Int×Tok)}{i:Int}:c3h (l.map fun p=>PyData.int p.1)=some i→i∈l.map (·.1)∧∀j∈l.map (·.1),j≤i:=
 b2n (R:=fun a b=>b≤a) (fun h g=>Int.le_trans g h) Int.le_refl (fun _ _ _ h=>(b4i h).imp fun p=>And.imp_right (Or.imp id (Exists.imp fun k=>And.imp_right fun e=>by exact lc1 3 [] [_,_,_] (.a (.b 1 (.e Z0 Z1) (.e Z0 Z2)) (.a (.l Z1 Z0) (.l Z2 Z0))) (.e (.d 3 Z1 Z2) Z0) e))) fun _ h=>nomatch h
theorem c0n{l:List (Int×Tok)}{i:Int}:b8g (l.map fun p=>PyData.int p.1)=some i→i∈l.map (·.1)∧∀j∈l.map (·.1),i≤j:=
 b2n (R:=fun a b=>a≤b) (fun h g=>Int.le_trans h g) Int.le_refl (fun _ _ _ h=>(b4r h).imp fun p=>And.imp_right (Or.imp id (Exists.imp fun k=>And.imp_right fun e=>by exact lc1 3 [] [_,_,_] (.a (.b 1 (.e Z0 Z1) (.e Z0 Z2)) (.a (.l Z0 Z1) (.l Z0 Z2))) (.e (.d 2 Z1 Z2) Z0) e))) fun _ h=>nomatch h
theorem a5r(xs:Array (Int×Tok)):∀j,j≤xs.size→preSum (numAt xs) j=((xs.toList.take j).map (·.1)).sum
 |0=>fun _=>rfl
 |j+1=>fun h=>by
  rw[preSum,a5r xs j (by omega),List.take_add_one]
  have hj:j<xs.size:=by omega
  rw[List.getElem?_eq_getElem (show j<xs.toList.length by simpa using hj),a6n hj]
  simp
theorem b3b:∀l:List (Int×Tok),(∀p∈l,p.1.natAbs<2^32)→((l.map Prod.fst).sum).natAbs≤l.length*2^32
 |[]=>fun _=>by simp
 |p::l=>fun h=>by
  have h1:=h p (.head _);have h2:=b3b l fun q hq=>h q (.tail _ hq);simp only[List.map_cons,List.sum_cons,List.length_cons]
  have:(p.1+(l.map Prod.fst).sum).natAbs≤p.1.natAbs+((l.map Prod.fst).sum).natAbs:=Int.natAbs_add_le _ _
  omega
theorem RDHs.one'{K:d8e→Prop}(x:RDHs g h vs ds)(k:on1 ds K):∃v d,vs=[v]∧RDH g h v d∧K d:=by
 obtain⟨d,rfl,k⟩:=d2r k; obtain⟨v,rfl,hv⟩:=x.one; exact⟨v,d,rfl,hv,k⟩
theorem RDHs.int2{K:Int→Int→Prop}(x:RDHs g h vs ds)(k:on2 ds fun a b=>onI a fun x=>onI b fun y=>K x y):∃x y t u,vs=[.int x t,.int y u]∧K x y:=by
 obtain⟨d,e,rfl,k⟩:=d3d k; obtain⟨i,rfl,k⟩:=a7i k; obtain⟨j,rfl,k⟩:=a7i k;obtain⟨v,u,rfl,hv,hu⟩:=x.two; obtain⟨t,rfl⟩:=RD.intE hv; obtain⟨t',rfl⟩:=RD.intE hu; exact⟨_,_,_,_,rfl,k⟩
theorem c2c{xs:Array (Int×Tok)}{i:Int}{R:Int→Int→Prop}{b:Nat→Nat→Bool}(as:∀{a b},R a b→R b a→a=b)(m1:i∈xs.toList.map (·.1))(m2:∀j∈xs.toList.map (·.1),R i j)
 (hb:argBest b (xs.size-1)≤xs.size-1∧∀j,j≤xs.size-1→R (numAt xs (argBest b (xs.size-1))) (numAt xs j)):numAt xs (argBest b (xs.size-1))=i:=by
 obtain⟨p,hp,rfl⟩:=List.mem_map.mp m1;obtain⟨j,hj,rfl⟩:=List.getElem_of_mem hp;have hj':j<xs.size:=hj;have hlt:argBest b (xs.size-1)<xs.size:=by exact a2q (.t N0 N1) (.l N0 (.s N1 O1)) (.t N2 N1) hb.1 hj'
 have h1:=m2 (numAt xs (argBest b (xs.size-1))) (by rw[a6n hlt]; exact List.mem_map.mpr ⟨_,Array.getElem_mem_toList hlt,rfl⟩)
 have h2:=hb.2 j (by exact a1d (.l N0 (.s N1 O1)) (.t N0 N1) hj')
 rw[a6n hj']at h2;exact as h2 h1
theorem b6v{xs:Array (Int×Tok)}{i:Int}(m1:i∈xs.toList.map (·.1)):0<xs.size:=by
 obtain⟨p,hp,_⟩:=List.mem_map.mp m1;exact List.length_pos_of_mem hp
theorem b7q{b:B}{Q:d8e→Prop}(hh:A.handled=none)(sg:Sub g s.heap)(hv:RDHs g s.heap vs ds)(h:bi2 b ds Q) :
  ∃d,Q d∧To C A E g s (call (d6p b) (vs++biX b)) d:=by
 cases b with
 |len=>
  obtain⟨v,d,rfl,hv1,h1⟩:=hv.one' h;cases d with
  |list l=>
   obtain⟨a,ws,rfl,hl,r⟩:=hv1;have hlen:=r.length;exact⟨_,h1.2,.k sg fun Q hQ=>call_len_list hl (by have:=h1.1; rw[List.size_toArray,hlen]; omega) (by rw[List.size_toArray,hlen]; exact hQ _ _ (.int _ _))⟩
  |str x=>obtain⟨t,rfl⟩:=RD.strE hv1; exact⟨_,h1.2,.k sg fun Q hQ=>P.len_str (by have:=h1.1; exact a0j (.n (.l (.z (Int.pow 2 63)) (.c N0))) (.l N0 (.k 1000000)) h1.1) (hQ _ _ (.int _ _))⟩
  |_=>exact h1.elim
 |sum=>
  obtain⟨v,d,rfl,hv1,h1⟩:=hv.one' h;obtain⟨l,rfl,h2⟩:=c3p h1;obtain⟨a,ws,rfl,hl,r⟩:=hv1;cases hi:c3g l with
  |none=>rw[hi]at h2; exact h2.elim
  |some i=>
   rw[hi]at h2;obtain⟨⟨hlen,hb⟩,h⟩:=h2;refine⟨_,h,.kh sg fun Q hQ=>?_⟩;obtain⟨xs,e1,e2⟩:=b6l r fun d hd=>(hb d hd).imp fun _=>And.left;rw[e1]at hl;have hbx:∀p∈xs.toList,p.1.natAbs<2^32:=fun p hp=>by
    obtain⟨j,e,hj⟩:=hb (.int p.1) (e2▸List.mem_map.mpr ⟨p,hp,rfl⟩);cases e; exact hj
   have hsz:xs.size≤1000000:=by rw[e2,List.length_map,Array.length_toList]at hlen; exact hlen
   refine sum_intList hh hl (fun j hj=>⟨?_,?_⟩) fun h' tk t' hk=>?_
   ·have:=hbx xs[j] (Array.getElem_mem_toList hj)
    rw[a6n hj];constructor <;> (first|exact a2h (.l (.z (- (2^63))) Z0) (.t (.u 1 Z0) (.k (Nat.pow 2 32))) this|exact a2h (.t Z0 (.z (Int.pow 2 63))) (.t (.u 1 Z0) (.k (Nat.pow 2 32))) this|omega)
   ·rw[a5r xs (j+1) (by exact a1d (.l (.p N0 O1) N1) (.t N0 N1) hj)]
    have:=b3b (xs.toList.take (j+1)) fun p hp=>hbx p (List.mem_of_mem_take hp)
    rw[List.length_take,Array.length_toList]at this
    have:min (j+1) xs.size≤1000000:=by exact a1d (.l (.b 2 (.p N0 O1) N1) (.k 1000000)) (.l N1 (.k 1000000)) hsz
    generalize (List.map Prod.fst (List.take (j+1) xs.toList)).sum=z at *
    change -(2^63)≤z∧z<2^63
    constructor <;> omega
   ·rw[a5r xs xs.size (Nat.le_refl _),List.take_of_length_le (Nat.le_of_eq Array.length_toList)]
    rw[e2,b4q]at hi;cases hi;exact hQ _ _ _ hk (.int _ _)
 |min=>
  obtain⟨v,d,rfl,hv1,h1⟩:=hv.one' h;obtain⟨l,rfl,h2⟩:=c3p h1;obtain⟨a,ws,rfl,hl,r⟩:=hv1;cases hi:b8g l with
  |none=>rw[hi]at h2; exact h2.elim
  |some i=>
   rw[hi]at h2;refine⟨_,h2,.kh sg fun Q hQ=>?_⟩;obtain⟨xs,e1,rfl⟩:=b6l r (c3w hi);rw[e1]at hl;obtain⟨m1,m2⟩:=c0n hi;refine min_intList hh hl (b6v m1) fun v h' tk hv hk=>?_;obtain⟨t,rfl⟩:=intItems_at hv;rw[c2c (R:=fun a b=>a≤b) Int.le_antisymm m1 m2 (argBest_lt (numAt xs) (xs.size-1))]; exact hQ _ _ _ hk (.int _ _)
 |max=>
  obtain⟨v,d,rfl,hv1,h1⟩:=hv.one' h;obtain⟨l,rfl,h2⟩:=c3p h1;obtain⟨a,ws,rfl,hl,r⟩:=hv1;cases hi:c3h l with
  |none=>rw[hi]at h2; exact h2.elim
  |some i=>
   rw[hi]at h2;refine⟨_,h2,.kh sg fun Q hQ=>?_⟩;obtain⟨xs,e1,rfl⟩:=b6l r (c3k hi);rw[e1]at hl;obtain⟨m1,m2⟩:=c0i hi;refine max_intList hh hl (b6v m1) fun v h' tk hv hk=>?_;obtain⟨t,rfl⟩:=intItems_at hv;rw[c2c (R:=fun a b=>b≤a) (fun h g=>Int.le_antisymm g h) m1 m2 (argBest_gt (numAt xs) (xs.size-1))]; exact hQ _ _ _ hk (.int _ _)
 |max2=>
  obtain⟨x,y,t,t',rfl,h⟩:=hv.int2 h;refine⟨_,h,.kh sg fun Q hQ=>max_two_ints hh fun h' tk hk=>?_⟩
  by_cases hc:y>x
  ·rw[if_pos hc]
   rw[Int.max_eq_right (Int.le_of_lt hc)]at hQ; exact hQ _ _ _ hk (.int _ _)
  ·rw[if_neg hc]
   rw[Int.max_eq_left (Int.not_lt.mp hc)]at hQ; exact hQ _ _ _ hk (.int _ _)
 |abs=>
  obtain⟨v,d,rfl,hv1,h1⟩:=hv.one' h;obtain⟨x,rfl,h2⟩:=a7i h1;obtain⟨t,rfl⟩:=RD.intE hv1;refine⟨_,h2,.k sg fun Q hQ=>call_abs_int fun u tk=>?_⟩
  have:(if x<0 then -x else x)=((x.natAbs:Nat):Int):=by split <;> (first|exact a2h (.e (.N Z0) (.c (.u 1 Z0))) (.t Z0 (.z 0)) ‹_›|exact a2h (.e Z0 (.c (.u 1 Z0))) (.n (.t Z0 (.z 0))) ‹_›|omega)
  rw[this]; exact hQ _ _ (.int _ _)
 |divmod=>
  obtain⟨x,y,t,t',rfl,⟨h1,h2⟩,h⟩:=hv.int2 h;refine⟨_,h,fun Q hQ=>divmod_int h1 ?_ (.inl (PyProof.noPylong_of_log2 (Nat.lt_of_lt_of_le (b0t (n:=4000) (by decide) h2) (by decide))))⟩
  have hget:=Heap.get?_push_size s.heap (o:={ cls:=.type "tuple",data:=.seq #[.int (x.fdiv y) s.toks,.int (x.fmod y) (s.toks+1)] }) rfl;obtain⟨g',x1,x2,x3⟩:=Step.grow (tk:=s.toks+1+1) (g:=g) sg (a0e _) (a0d _) (fun o e hc=>by rw[hget]at e; cases e; exact absurd (Value.type.inj hc) (by decide))
  exact hQ _ _ g' x1 x2 (RD.tuple (vs:=[.int (x.fdiv y) s.toks,.int (x.fmod y) (s.toks+1)]) ⟨_,x3.trans hget,rfl,0,rfl⟩ (.cons (.int _ _) (.one (.int _ _))))
 |isint=>
  obtain⟨v,d,rfl,hv1,h1⟩:=hv.one' h;cases d with
  |int x=>obtain⟨t,rfl⟩:=RD.intE hv1; exact⟨_,h1,.k sg fun Q hQ=>IsiPair.int_int (hQ _ s.toks (.bool _))⟩
  |list l=>obtain⟨a,ws,rfl,⟨o,ho,hc,_⟩,r⟩:=hv1; exact⟨_,h1,.k sg fun Q hQ=>IsiPair.list_int ho hc (hQ _ _ (.bool _))⟩
  |_=>exact h1.elim
end
end
section
section
variable {C:Cfg} {A:d8q} {E:d8g→d8f→Prop} {s:d8f} {g:Heap}
noncomputable def meT:M→String
 |.bitlen=>"int" |.join=>"str" |.starts=>"str" |.ends=>"str" |.find=>"str" |.split=>"str"
noncomputable def meN:M→String
 |.bitlen=>"bit_length" |.join=>"join" |.starts=>"startswith" |.ends=>"endswith" |.find=>"find" |.split=>"split"
noncomputable def meI:M→String
 |.bitlen=>"int.bit_length" |.join=>"str.join" |.starts=>"str.startswith" |.ends=>"str.endswith" |.find=>"str.find" |.split=>"str.split"
theorem b6w (m:M):PlainAttrs (meT m)∧Slot (meT m) (meN m) (meI m)∧typeOf (.builtin (meI m))=pure (.type "method_descriptor"):=by
 cases m with
 |bitlen=>exact⟨F.plainAttrs_int,F.slot_int_bit_length,F.type_int_bit_length⟩
 |join=>exact⟨F.plainAttrs_str,F.slot_str_join,F.type_str_join⟩
 |starts=>exact⟨F.plainAttrs_str,F.slot_str_startswith,F.type_str_startswith⟩
 |ends=>exact⟨F.plainAttrs_str,F.slot_str_endswith,F.type_str_endswith⟩
 |find=>exact⟨F.plainAttrs_str,F.slot_str_find,F.type_str_find⟩
 |split=>exact⟨F.plainAttrs_str,F.slot_str_split,F.type_str_split⟩
def NoD (h:Heap) (v:d8g):Prop:=∀a,v=.ref a→∃o,h.get? a=some o∧(o.cls=.type "list" →o.dict=none)
theorem c1t{m:M}(hv:RDH g s.heap v d)(hn:NoD s.heap v)(h:c4z m (some d)):s.TypeIs v (meT m)∧∀a,v=.ref a→∃o,s.heap.get? a=some o∧o.dict=none:=by
 have str (h:onS d fun _=>True):s.TypeIs v "str" ∧ ∀a,v=.ref a→∃o,s.heap.get? a=some o∧o.dict=none:=by
  obtain⟨x,rfl,_⟩:=a9y h; obtain⟨t,rfl⟩:=RD.strE hv; exact⟨typeIs_str _ _ _,fun a e=>nomatch e⟩
 cases m with
 |bitlen=>obtain⟨x,rfl,_⟩:=a7i h; obtain⟨t,rfl⟩:=RD.intE hv; exact⟨typeIs_int _ _ _,fun a e=>nomatch e⟩
 |_=>exact str h
theorem c7w{l:List d8e}{ss:List Str}(r:RDs g vs l)(hi:b2x l=some ss):∃xs:List (Str×Tok),vs=strValues xs∧xs.map (·.1)=ss:=by
 induction vs generalizing l ss with
 |nil=>obtain⟨_,r⟩:=r; cases r; cases hi; exact⟨[],rfl,rfl⟩
 |cons v vs ih=>
  obtain⟨d,l',rfl,h1,h2⟩:=r.cases;cases d with
  |str x=>
   obtain⟨ys,hy,rfl⟩:=Option.map_eq_some_iff.mp hi;obtain⟨t,rfl⟩:=h1.strE;obtain⟨xs,e1,e2⟩:=ih h2 hy;exact⟨(x,t)::xs,by rw[e1]; rfl,by rw[←e2]; rfl⟩
  |_=>cases hi
theorem RDs.strs(xs:List (Str×Tok)):RDs g (strValues xs) ((xs.map (·.1)).map PyData.str):=by
 induction xs with
 |nil=>exact .nil
 |cons p xs ih=>exact .cons (.str _ _) ih
theorem b5n(x y:Str)(a b:Int)(t u v v':Tok)(ha:0≤a)(hb:0≤b)(hl:b≤x.length):Gives (Builtin.«str.find» ⟨[.str x t,.str y u,.int a v,.int b v'],[]⟩) (.int (b8k x y a b)):=by
 show Gives (match Builtin.Str.occurrences x y (fromIndex x.length a) (min (fromIndex x.length b) x.length) 1 with|k::_=>retInt k|[]=>(do rule "str.find.not-found"; retInt (-1))) _
 have e1:fromIndex x.length a=a.toNat:=by unfold fromIndex; rw[if_neg (by exact a2h (.n (.t Z0 (.z 0))) (.l (.z 0) Z0) ha)]; exact lc0 1 [] [_] (.e (.u 0 (.d 3 (.z 0) Z0)) (.u 0 Z0))
 have e2:min (fromIndex x.length b) x.length=b.toNat:=by unfold fromIndex; rw[if_neg (by exact a2h (.n (.t Z0 (.z 0))) (.l (.z 0) Z0) hb)]; exact c8r (.e (.b 2 (.u 0 (.d 3 (.z 0) Z0)) N0) (.u 0 Z0)) (.l Z0 (.c N0)) hl
 rw[e1,e2];unfold b8k;cases Builtin.Str.occurrences x y a.toNat b.toNat 1 with
 |nil=>exact .rule (.of_eq rfl)
 |cons k _=>exact .of_eq rfl
theorem c2k{x y:Str}(h:(Txt.split x y).length≤d8y)(h1:(decide (x.length<y.length)||decide (Builtin.Str.strKind x<Builtin.Str.strKind y))=false)
 (hf:(Builtin.Str.occurrences x y 0 x.length (x.length+1)).isEmpty=false):(Builtin.Str.partsBetween x (Builtin.Str.occurrences x y 0 x.length (x.length+1)) y.length).length≤d8y:=by
 unfold Txt.split at h;rwa[if_neg (ne_true_of_eq_false h1),if_neg (ne_true_of_eq_false hf)]at h
theorem b3d{x y:Str}{t u:Tok}(hy:0<y.length)(hx:x.length≤d8y)(hs:(Txt.split x y).length≤d8y) :
  ToF C A E g s (call (.builtin "str.split") [.str x t,.str y u]) ((Txt.split x y).map .str):=fun Q h=>by
 have hy':(y.length==0)=false:=by simp; exact a0j (.n (.e N0 (.k 0))) (.t (.k 0) N0) hy
 have fin:∀(xs:List (Str×Tok)) tk,xs.map (·.1)=Txt.split x y→Q (.ref s.heap.objs.size) { s with heap:=s.heap.push { cls:=.type "list",data:=.seq (strValues xs).toArray },toks:=tk }:=fun xs tk e=>
  h _ (strValues xs) _ tk (a0e _) (a0d _) ⟨0,Heap.get?_push_size _ rfl⟩ (e▸RDs.strs xs)
 cases h1:(decide (x.length<y.length)||decide (Builtin.Str.strKind x<Builtin.Str.strKind y))
 ·cases hf:(Builtin.Str.occurrences x y 0 x.length (x.length+1)).isEmpty
  ·refine call_meets F.slot_str_split (typeIs_str _ _ _) F.entry_str_split (F.args_str_split_2 _ _) (meets_str_split_sep x y t u h1 hy' hf hx (c2k hs h1 hf)) ?_
   rw[strsFrom_eq];exact fin _ _ ((numbered_texts _ _).trans ((if_neg (ne_true_of_eq_false h1)).trans (if_neg (ne_true_of_eq_false hf))).symm)
  ·exact call_meets F.slot_str_split (typeIs_str _ _ _) F.entry_str_split (F.args_str_split_2 _ _) (meets_str_split_not_found x y t u h1 hy' hf) (fin [(x,t)] _ ((if_neg (ne_true_of_eq_false h1)).trans (if_pos hf)).symm)
 ·exact call_meets F.slot_str_split (typeIs_str _ _ _) F.entry_str_split (F.args_str_split_2 _ _) (meets_str_split_cannot_occur x y t u h1) (fin [(x,t)] _ (if_pos h1).symm)
theorem RDHs.str2{K:Str→Str→Prop}(x:RDHs g h vs ds)(hv:RDH g h v d)(k:onS d fun s=>on1 ds fun d=>onS d fun p=>K s p):∃s p t u,v=.str s t∧vs=[.str p u]∧K s p:=by
 obtain⟨s,rfl,k1⟩:=a9y k; obtain⟨v,e,rfl,hu,k2⟩:=x.one' k1; obtain⟨p,rfl,k3⟩:=a9y k2;obtain⟨t,rfl⟩:=RD.strE hv; obtain⟨u,rfl⟩:=RD.strE hu; exact⟨_,_,_,_,rfl,rfl,k3⟩
theorem c5j{m:M}{Q:d8e→Prop}{n:Nat}(ok:AOK A n hz g)(sg:Sub g s.heap)(hv:RDH g s.heap v d)(hvs:RDHs g s.heap vs ds)(h:me2 m d ds Q) :
  ∃r,Q r∧To C A E g s (call (.builtin (meI m)) (v::vs)) r:=by
 cases m with
 |bitlen=>
  obtain⟨x,rfl,h1⟩:=a7i h; obtain⟨rfl,h2⟩:=d2q h1; obtain rfl:=hvs.none; obtain⟨t,rfl⟩:=RD.intE hv;exact⟨_,h2,.k sg fun Q hQ=>call_int_bit_length (hQ _ _ (.int _ _))⟩
 |join=>
  obtain⟨x,rfl,h1⟩:=a9y h; obtain⟨u,d,rfl,hu,h2⟩:=hvs.one' h1; obtain⟨l,rfl,h3⟩:=c3p h2; obtain⟨t,rfl⟩:=RD.strE hv;obtain⟨a,ws,rfl,hl,r⟩:=hu;cases hss:b2x l with
  |none=>rw[hss]at h3; exact h3.elim
  |some ss=>
   rw[hss]at h3;obtain⟨xs,rfl,e⟩:=c7w r hss;exact⟨_,h3.2,.k sg fun Q hQ=>SC.join hl e h3.1 fun t' k=>hQ _ _ (.str _ _)⟩
 |starts=>
  obtain⟨x,y,t,t',rfl,rfl,h⟩:=hvs.str2 hv h;exact⟨_,h,.k sg fun Q hQ=>SC.startswith (hQ _ s.toks (.bool _))⟩
 |ends=>
  obtain⟨x,y,t,t',rfl,rfl,h⟩:=hvs.str2 hv h;exact⟨_,h,.k sg fun Q hQ=>SC.endswith (hQ _ s.toks (.bool _))⟩
 |find=>
  obtain⟨x,rfl,h1⟩:=a9y h; obtain⟨y,a,b,rfl,h1⟩:=d6a h1; obtain⟨y,rfl,h1⟩:=a9y h1; obtain⟨a,rfl,h1⟩:=a7i h1; obtain⟨b,rfl,h1⟩:=a7i h1;cases hvs with
  |cons h2 hvs=>
   obtain⟨v2,v3,rfl,h3,h4⟩:=hvs.two;obtain⟨t,rfl⟩:=RD.strE hv; obtain⟨t1,rfl⟩:=RD.strE h2; obtain⟨t2,rfl⟩:=RD.intE h3; obtain⟨t3,rfl⟩:=RD.intE h4;exact⟨_,h1.2,.k sg fun Q hQ=>call_gives F.slot_str_find (typeIs_str _ _ _) F.entry_str_find (F.args_str_find_4 _ _ _ _) (b5n x y a b t t1 t2 t3 h1.1.1 (Int.le_trans h1.1.1 h1.1.2.1) h1.1.2.2) (hQ _ _ (.int _ _))⟩
 |split=>
  obtain⟨x,y,t,t',rfl,rfl,⟨h1,h2,h3⟩,h⟩:=hvs.str2 hv h;exact⟨_,h,(b3d h1 (Nat.le_trans h2 (by decide)) (Nat.le_trans h3 (by decide))).to sg⟩
end
end
section
section
variable {C:Cfg} {A:d8q} {E:d8g→d8f→Prop} {s:d8f} {g:Heap}
theorem b4j{o:Op2}{a b:d8g}{x y:d8e}{Q:d8e→Prop}(sg:Sub g s.heap)(ha:RDH g s.heap a x)(hb:RDH g s.heap b y)(h:c8p o x y Q) :
  ∃d,Q d∧To C A E g s (inplaceOp (c4f o) a b) d:=by
 obtain⟨x,rfl,h1⟩:=a7i h; obtain⟨y,rfl,h2⟩:=a7i h1;obtain⟨t,rfl⟩:=RD.intE ha; obtain⟨u,rfl⟩:=RD.intE hb;cases o with
 |add=>exact⟨_,h2,.k sg fun Q hQ=>P.iadd_int (hQ _ _ (.int _ _))⟩
 |sub=>exact⟨_,h2,.k sg fun Q hQ=>P.isub_int (hQ _ _ (.int _ _))⟩
 |shl=>exact⟨_,h2.2,.k sg fun Q hQ=>ilshift_int h2.1.1 (by have:=a5d h2.1.2.2; have:=h2.1.2.1; omega) (hQ _ _ (.int _ _))⟩
 |bor=>exact⟨_,h2,.k sg fun Q hQ=>ior_int (hQ _ _ (.int _ _))⟩
 |_=>exact h2.elim
theorem Step.one{a:Addr}{tk:Nat}(sg:Sub g s.heap)(ha:g.get? a=none)(hs:Heap.SameBut a s.heap h'):Step [a] s g { s with heap:=h',toks:=tk } g∧Sub g h':=by
 refine⟨⟨⟨h',tk,rfl⟩,.refl g,fun b o hb e=>.of ((hs.2 b (by simpa using hb)).trans e),fun sg b o e=>(hs.2 b fun q=>by rw[q,ha]at e; cases e).trans (sg b o e),fun _ _ _ _ e=>e,id⟩,fun b o e=>?_⟩
 exact(hs.2 b fun q=>by rw[q,ha]at e; cases e).trans (sg b o e)
def d4n(C:Cfg)(A:d8q)(E:d8g→d8f→Prop)(g:Heap)(s:d8f){α:Type}(t:Sem α)(a:Addr)(o:OV)(r:α):Prop:=
 ∀Q:α→d8f→Prop,(∀s',Step [a] s g s' g→Sub g s'.heap→OwnOK g s'.heap a o→Q r s')→d8i (model C.prog C.w) A t Q E s
theorem c0r(vs:List d8g)(k:Nat):vs.toArray.eraseIdxIfInBounds k=(vs.eraseIdx k).toArray:=by
 by_cases h:k<vs.length
 ·simp[Array.eraseIdxIfInBounds,h]
 ·simp[Array.eraseIdxIfInBounds,h,List.eraseIdx_of_length_le (Nat.not_lt.mp h)]
theorem a8l{a:Addr}{l:List d8e}(sg:Sub g s.heap)(o:OwnOK g s.heap a (.lst l))(hv:RD g v d)(hl:l.length<1000000) :
  d4n C A E g s (call (.builtin "list.append") [.ref a,v]) a (.lst (l++[d])) .none:=fun Q hQ=>by
 obtain⟨hg,vs,hp,r⟩:=o;refine wpAny_list_append_plain hp (fun h' hp' hs=>?_) (by have:=r.length; simp only[List.size_toArray,this]; exact Nat.le_trans (Nat.le_of_lt hl) (by decide))
 obtain⟨x,y⟩:=Step.one (tk:=s.toks) sg hg hs;exact hQ _ x y ⟨hg,vs++[v],by simpa using hp',r.append (.one hv)⟩
theorem b4o{a:Addr}{vs ws:List d8g}{f:Array d8g→Array d8g}(hp:s.heap.PlainList a vs.toArray)(e:f vs.toArray=ws.toArray) :
  (s.heap.update a (Obj.mapSeq f)).PlainList a ws.toArray∧Heap.SameBut a s.heap (s.heap.update a (Obj.mapSeq f)):=by
 obtain⟨n,ho⟩:=hp;refine⟨?_,Heap.SameBut.update ..⟩
 have:=IsL.update (n:=n) ho f
 exact⟨_,e▸this⟩
theorem c6e{a:Addr}{l:List d8e}{j:Int}{t:Tok}{n:Nat}(sg:Sub g s.heap)(o:OwnOK g s.heap a (.lst l))(hl:l.length≤1000000)(hj:-1000000≤j∧j≤1000000)(hn:a1i l.length j=some n)(hd:l[n]?=some d)
 (Q:d8g→d8f→Prop) (hQ:∀v s',RD g v d→Step [a] s g s' g→Sub g s'.heap→OwnOK g s'.heap a (.lst (l.eraseIdx n))→Q v s') :
  d8i (model C.prog C.w) A (call (.builtin "list.pop") [.ref a,.int j t]) Q E s:=by
 obtain⟨hg,vs,hp,r⟩:=o;obtain⟨v,hv,rv⟩:=r.get hd;obtain⟨m,ho⟩:=id hp;have hlen:=r.length;refine call_meets F.slot_list_pop ⟨_,ho,rfl⟩ F.entry_list_pop (F.args_list_pop_2 _ _) (MeetsSeq.list_pop_at a vs.toArray m j t n v (by simp[Builtin.List.listFitsIndex]; exact a2h (.a (.l (.z (Int.neg 9223372036854775808)) Z0) (.t Z0 (.z 9223372036854775808))) (.a (.l (.z (Int.neg 1000000)) Z0) (.l Z0 (.z 1000000))) hj) (by rw[a3r]; simpa[hlen]using hn) (by simpa using hv)
  (by simp only[List.size_toArray,hlen]; exact Nat.le_trans hl (by decide))) ⟨ho,?_⟩
 obtain⟨hp',hs⟩:=b4o hp (f:=fun xs=>xs.eraseIdxIfInBounds n) (c0r vs n);obtain⟨x,y⟩:=Step.one (tk:=s.toks) sg hg hs;exact hQ v _ rv x y ⟨hg,_,hp',r.eraseIdx n⟩
theorem b3z{a:Addr}{l:List d8e}(sg:Sub g s.heap)(o:OwnOK g s.heap a (.lst l))(hl:l.length≤1000000) :
  d4n C A E g s (call (.builtin "list.reverse") [.ref a]) a (.lst l.reverse) .none:=fun Q hQ=>by
 obtain⟨hg,vs,hp,r⟩:=o;obtain⟨m,ho⟩:=id hp;have hlen:=r.length;refine call_meets F.slot_list_reverse ⟨_,ho,rfl⟩ F.entry_list_reverse (F.args_list_reverse_1 _) (AutoSeq1.list_reverse_list_0 a vs.toArray m (by simp only[List.size_toArray,hlen]; exact Nat.le_trans hl (by decide))) ⟨ho,?_⟩
 obtain⟨hp',hs⟩:=b4o hp (f:=fun x=>x.reverse) (ws:=vs.reverse) (by simp)
 obtain⟨x,y⟩:=Step.one (tk:=s.toks) sg hg hs;exact hQ _ x y ⟨hg,_,hp',r.reverse⟩
theorem b5b{a:Addr}{l:List d8e}{j:Int}{t:Tok}{n:Nat}(sg:Sub g s.heap)(o:OwnOK g s.heap a (.lst l))(hl:l.length≤1000000)(hj:-1000000≤j∧j≤1000000)(hn:a1i l.length j=some n) :
  d4n C A E g s (delItem (.ref a) (.int j t)) a (.lst (l.eraseIdx n)) ():=fun Q hQ=>by
 obtain⟨hg,vs,hp,r⟩:=o;have hlen:=r.length;refine wpAny_delItem_plain hp (k:=n) (by simp[Builtin.List.listFitsIndex]; exact a2h (.a (.l (.z (Int.neg 9223372036854775808)) Z0) (.t Z0 (.z 9223372036854775808))) (.a (.l (.z (Int.neg 1000000)) Z0) (.l Z0 (.z 1000000))) hj) (by rw[a3r]; simpa[hlen]using hn) (fun h' hp' hs=>?_) (by simp only[List.size_toArray,hlen]; exact Nat.le_trans hl (by decide))
 obtain⟨x,y⟩:=Step.one (tk:=s.toks) sg hg hs;exact hQ _ x y ⟨hg,_,c0r vs n▸hp',r.eraseIdx n⟩
theorem b1r{l:Addr}{k:Int}{t:Tok}(hp:s.heap.PlainList l items)
 (h0:0≤k) (hfit:k<2^63) (hn:k<items.size)
 (hQ:∀h',h'.PlainList l (items.setIfInBounds k.toNat v)→Heap.SameBut l s.heap h'→Q () { s with heap:=h' }) :
  d8i (model C.prog C.w) A (setItem (.ref l) (.int k t) v) Q E s:=by
 obtain⟨ne,ho⟩:=id hp;have hl:s.heap.IsList l items:=⟨_,ho,rfl,ne,rfl⟩;have hd:({ cls:=.type "list",data:=.seq items ne }:Obj).data=.seq items ne:=rfl;unfold setItem
 try with_reducible refine d8l ?_
 first|refine d8d (d8h ?_)|skip
 refine d8d (wpAny_sequenceKey hl.typeIs (by decide) ?_)
 refine d8d (wpAny_callSpecial?_slot (name:=Str.ofString "__setitem__") hl.typeIs slot_list_setitem
  (wpAny_call_entry slot_list_setitem hl.typeIs entry_list_setitem ?_ (args_list_setitem _ _ _)))
 show d8i _ _ (Builtin.List.listSubscript? (.int k t) >>= _) _ _ s;refine d8d (wpAny_listSubscript_int (fitsIndex_of h0 hfit) ?_);clear hfit;obtain⟨j,rfl⟩:=Int.eq_ofNat_of_zero_le h0;have hj:j<items.size:=by exact a1d (.t N0 N1) (.t (.c N0) (.c N1)) hn
 have hx':items[j]?=some items[j]:=Array.getElem?_eq_getElem hj;show d8i _ _ ((seqItemAt l j >>= fun r=>pure (r.map (j,·))) >>= _) _ _ s;refine d8d (d8d (wpAny_seqItemAt ho hd (d8h ?_)));rw[hx'];show d8i _ _ (setSeqItemAt l j v >>= _) _ _ s;have hfin:(s.heap.update l (Obj.mapSeq (·.setIfInBounds j v))).PlainList l (items.setIfInBounds j v):=⟨_,IsL.update (n:=ne) ho _⟩;refine d8d (wpAny_setSeqItemAt ho hd ?_)
 first
  |exact d8d (d8h (d8h ⟨.none,rfl,d8h (hQ _ hfin (Heap.SameBut.update ..))⟩))
  |exact d8h ⟨.none,rfl,d8h (hQ _ hfin (Heap.SameBut.update ..))⟩
theorem a7d{a:Addr}{l:List d8e}{j:Int}{t:Tok}(sg:Sub g s.heap)(o:OwnOK g s.heap a (.lst l))(hj:0≤j∧j≤1000000)(hn:j.toNat<l.length)(hv:RD g v d) :
  d4n C A E g s (setItem (.ref a) (.int j t) v) a (.lst (l.set j.toNat d)) ():=fun Q hQ=>by
 obtain⟨hg,vs,hp,r⟩:=o;have hlen:=r.length;refine b1r hp hj.1 (by exact a2h (.t Z0 (.z (Int.pow 2 63))) (.a (.l (.z 0) Z0) (.l Z0 (.z 1000000))) hj) (by simp only[List.size_toArray,hlen]; exact c8r (.t Z0 (.c N0)) (.t (.u 0 Z0) N0) hn) fun h' hl' hs=>?_
 obtain⟨x,y⟩:=Step.one (tk:=s.toks) sg hg hs;have e:vs.toArray.setIfInBounds j.toNat v=(vs.set j.toNat v).toArray:=by simp
 exact hQ _ x y ⟨hg,_,e▸hl',r.set _ hv⟩
theorem b4d:builtinKind "next" = none:=by decide +kernel
theorem b0u:plainId "next" = true:=by decide +kernel
theorem b0h:entryFor table "next" = some Builtin.«next»:=entryFor_of_tree (by kernel_rfl)
theorem b3w (a:d8g):argsOk "next" ⟨[a],[]⟩:=by unfold argsOk; kernel_rfl
theorem c0t{a:Addr}(sg:Sub g s.heap)(o:OwnOK g s.heap a (.iter (d::r)))
 (Q:d8g→d8f→Prop) (hQ:∀v s',RD g v d→Step [a] s g s' g→Sub g s'.heap→OwnOK g s'.heap a (.iter r)→Q v s') :
  d8i (model C.prog C.w) A (call (.builtin "next") [.ref a]) Q E s:=by
 obtain⟨hg,b,vs,i,l,hit,hl,hr,e⟩:=o;have hd:l[i]?=some d:=by rw[←List.head?_drop,←e]; rfl
 have hr':r=l.drop (i+1):=by
  have:=congrArg List.tail e
  rw[List.tail_drop]at this
  simpa using this
 obtain⟨v,hv,rv⟩:=hr.get hd;refine Calls.call_function_entry b4d b0u b0h (b3w _) ?_;unfold Builtin.«next»;refine d8d (m:=someArgs "next" 1 2 _) (d8h ?_);refine d8d (wpAny_specialOf hit.typeIs slot_listiter_next.lookup ?_);obtain⟨ob,ho,hc,hdat⟩:=id hit;obtain⟨ol,hol,_,nl,hdl⟩:=a0f sg hl;refine d8d (m:=callSpecial? (.ref a) (Str.ofString "__next__")) (wpAny_callSpecial?_slot (name:=Str.ofString "__next__") hit.typeIs slot_listiter_next
  (wpAny_call_entry slot_listiter_next hit.typeIs entry_listiter_next ?_ (args_listiter_next _)))
 show d8i _ _ (field (.ref a) 0 >>= _) _ _ s;refine d8d (d8w ho hdat (x:=.ref b) rfl ?_);show d8i _ _ (if (Value.ref b==Value.none)=true then _ else _) _ _ s
 show d8i _ _ (field (.ref a) 1 >>= _) _ _ s;refine d8d (d8w ho hdat (x:=.int i 0) rfl ?_);show d8i _ _ (seqItems? (.ref b) >>= _) _ _ s;refine d8d (wpAny_seqItems hol hdl ?_);have hx:vs.toArray[i]?=some v:=by simpa using hv
 simp only[Int.toNat_natCast,hx];obtain⟨x,y⟩:=Step.one (h':=s.heap.update a (Obj.mapFields fun vs=>vs.setIfInBounds 1 (rawInt (i+1)))) (tk:=s.toks) sg hg (Heap.SameBut.update ..);refine d8d (wpAny_setField ho hdat (by simp) (d8h ⟨v,rfl,d8h ⟨v,rfl,hQ v _ rv x y ?_⟩⟩))
 refine⟨hg,b,vs,i+1,l,?_,hl,hr,hr'⟩;exact⟨_,Heap.get?_update_self _ ho (Obj.isFreed_of_fields (Obj.data_mapFields hdat _)),(Obj.cls_mapFields ..).trans hc,by
  rw[Obj.data_mapFields hdat]; simp[rawInt]⟩
end
end
section
theorem b1x:entryFor table "proto.unchain" = some Builtin.«proto.unchain»:=entryFor_of_tree (by kernel_rfl)
section
variable {C:Cfg} {A:d8q} {E:d8g→d8f→Prop} {s:d8f} {g:Heap}
theorem a7x{α:Type}{Q:α→d8f→Prop}(hk:HOK A g)(sg:Sub g s.heap)
 (h:∀h' e,Sub s.heap h'→(∃o,h'.get? e=some o∧o.cls=.type "StopIteration")→E (.ref e) { s with heap:=h' }) :
  d8i (model C.prog C.w) A (newExc (.type "StopIteration") [] >>= fun e=>(raiseNew e:Sem α)) Q E s:=by
 refine d8d ?_;refine d8d (wpAny_newObj_type ?_ (by size_fits))
 refine d8d (m:=firstArgMember _ _) (d8v (a:=Value.none) (by first|rfl|(simp only[firstArgMember]; rfl)) ?_)
 refine wpAny_newObj_type ?_ (by size_fits)
 dsimp only[raiseNew];refine d8d (wpAny_handled ?_);generalize hH:(s.heap.push { cls:=.type "tuple",dict:=none,data:=.seq ([]:List d8g).toArray })=H;have hH':Sub s.heap H:=hH▸a0e _;have hget:∀vs:Array d8g,(H.push { cls:=.type "StopIteration",data:=.fields vs }).get? H.objs.size=some { cls:=.type "StopIteration",data:=.fields vs }:=fun vs=>Heap.get?_push_size _ rfl
 rcases hk with hk|⟨x,o,vs,hx,ho,hd,hv⟩
 ·rw[hk]
  refine d8d (d8h (wpAny_throw (h _ _ (hH'.trans (a0e _)) ⟨_,hget _,rfl⟩)))
 ·rw[hx]
  have hne:(Value.ref x != Value.ref H.objs.size)=true:=by
   have:x≠H.objs.size:=Nat.ne_of_lt (Heap.lt_size (hH' _ _ (sg _ _ ho)))
   simp[this]
  have ho':=a0e (h:=H) { cls:=.type "StopIteration",data:=.fields (#[.ref s.heap.objs.size,.none,.none,.none,.bool false,.none]++ownMembersOf (.type "StopIteration") []) } _ _ (hH' _ _ (sg _ _ ho));show d8i _ _ (if (Value.ref x != Value.ref H.objs.size)=true then _ else _) _ _ _
  rw[if_pos hne];refine d8d (d8l (wpAny_runValue (codeAny_builtin b1x ?_)));unfold Builtin.«proto.unchain»;show d8i _ _ (field (.ref x) 2 >>= _) _ _ _;refine d8d (d8w ho' hd hv ?_);show d8i _ _ (ret .none) _ _ _;refine d8h ?_;show d8i _ _ (setField (.ref H.objs.size) 2 (.ref x) >>= _) _ _ _;refine d8d (wpAny_setField (hget _) rfl (by simp; exact a1x (.t (.k 2) (.p (.k 6) N0))) ?_)
  refine wpAny_throw (h _ _ (fun b o e=>?_) ⟨_,Heap.get?_update_self _ (hget _) rfl,rfl⟩);have hb:b≠H.objs.size:=Nat.ne_of_lt (Heap.lt_size (hH' _ _ e));exact(Heap.get?_update_ne _ _ _ _ hb).trans (a0e _ _ _ (hH' _ _ e))
theorem a6h{it l:Addr}{Q:Option d8g→d8f→Prop}(hk:HOK A g)(sg:Sub g s.heap)(hg:g.get? it=none)
 (hit:s.heap.IsListIter it l i) (hl:s.heap.IsList l items) (hx:items[i]?=none)
 (hQ:∀h',Heap.ExtBut it s.heap h'→Q none { s with heap:=h' }):d8i (model C.prog C.w) A (pyNext (.ref it)) Q E s:=by
 obtain⟨o,ho,hc,hd⟩:=id hit;obtain⟨ol,hol,_,nl,hdl⟩:=hl;unfold pyNext;refine d8d (wpAny_attempt (wpAny_callSpecial?_slot (name:=Str.ofString "__next__") hit.typeIs slot_listiter_next
  (wpAny_call_entry slot_listiter_next hit.typeIs entry_listiter_next ?_ (args_listiter_next _))))
 show d8i _ _ (field (.ref it) 0 >>= _) _ _ s;refine d8d (d8w ho hd (x:=.ref l) rfl ?_);show d8i _ _ (if (Value.ref l==Value.none)=true then _ else _) _ _ s
 show d8i _ _ (field (.ref it) 1 >>= _) _ _ s;refine d8d (d8w ho hd (x:=.int i 0) rfl ?_);show d8i _ _ (seqItems? (.ref l) >>= _) _ _ s;refine d8d (wpAny_seqItems hol hdl ?_);simp only[Int.toNat_natCast,hx];refine d8d (wpAny_rule (d8d (wpAny_setField ho hd (by simp) ?_)))
 have hs:Heap.SameBut it s.heap (s.heap.update it (Obj.mapFields fun vs=>vs.setIfInBounds 0 .none)):=Heap.SameBut.update ..;obtain⟨_,sg'⟩:=Step.one (tk:=s.toks) sg hg hs;refine a7x (A:=A.in1) hk sg' fun h' e hsub ⟨oe,hoe,hce⟩=>?_;refine d8d (wpAny_isInstance (T:="StopIteration") (b:=true) ⟨oe,hoe,hce⟩ isSubtype_stop ?_);exact d8h (hQ _ fun b o hb e=>hsub _ _ ((hs.2 b hb).trans e))
theorem a3e{it l:Addr}{Q:Option d8g→d8f→Prop}(hk:HOK A g)(sg:Sub g s.heap)(hg:g.get? it=none)
 (hit:s.heap.IsTupleIter it l i) (hl:s.heap.IsTuple l items) (hx:items[i]?=none)
 (hQ:∀h',Heap.ExtBut it s.heap h'→Q none { s with heap:=h' }):d8i (model C.prog C.w) A (pyNext (.ref it)) Q E s:=by
 obtain⟨o,ho,hc,hd⟩:=id hit;obtain⟨ol,hol,_,nl,hdl⟩:=hl;unfold pyNext;refine d8d (wpAny_attempt (wpAny_callSpecial?_slot (name:=Str.ofString "__next__") hit.typeIs F.slot_tuple_iterator_next
  (wpAny_call_entry F.slot_tuple_iterator_next hit.typeIs F.entry_tuple_iterator_next ?_ (F.args_tuple_iterator_next_1 _))))
 show d8i _ _ (field (.ref it) 0 >>= _) _ _ s;refine d8d (d8w ho hd (x:=.ref l) rfl ?_);show d8i _ _ (if (Value.ref l==Value.none)=true then _ else _) _ _ s
 show d8i _ _ (field (.ref it) 1 >>= _) _ _ s;refine d8d (d8w ho hd (x:=.int i 0) rfl ?_);show d8i _ _ (seqItems? (.ref l) >>= _) _ _ s;refine d8d (wpAny_seqItems hol hdl ?_);simp only[Int.toNat_natCast,hx];refine d8d (wpAny_rule (d8d (wpAny_setField ho hd (by simp) ?_)))
 have hs:Heap.SameBut it s.heap (s.heap.update it (Obj.mapFields fun vs=>vs.setIfInBounds 0 .none)):=Heap.SameBut.update ..;obtain⟨_,sg'⟩:=Step.one (tk:=s.toks) sg hg hs;refine a7x (A:=A.in1) hk sg' fun h' e hsub ⟨oe,hoe,hce⟩=>?_;refine d8d (wpAny_isInstance (T:="StopIteration") (b:=true) ⟨oe,hoe,hce⟩ isSubtype_stop ?_);exact d8h (hQ _ fun b o hb e=>hsub _ _ ((hs.2 b hb).trans e))
theorem b1j{e it l:Addr}{old:d8g}{Q:Option d8g→d8f→Prop}(hk:HOK A g)(sg:Sub g s.heap)(hg:g.get? it=none)
 (he:IsEnum s.heap e it i old) (hit:s.heap.IsListIter it l i) (hl:s.heap.IsList l items) (hx:items[i]?=none)
 (hQ:∀h',Heap.ExtBut it s.heap h'→Q none { s with heap:=h' }):d8i (model C.prog C.w) A (pyNext (.ref e)) Q E s:=by
 have hT:s.TypeIs (.ref e) "enumerate" :=⟨_,he,rfl⟩;obtain⟨o,ho,hc,hd⟩:=id hit;obtain⟨ol,hol,_,nl,hdl⟩:=hl;unfold pyNext;refine d8d (wpAny_attempt (wpAny_callSpecial?_slot (name:=Str.ofString "__next__") hT F.slot_enumerate_next
  (wpAny_call_entry F.slot_enumerate_next hT F.entry_enumerate_next ?_ (F.args_enumerate_next_1 _))))
 show d8i _ _ (field (.ref e) 2 >>= _) _ _ _;refine d8d (d8w he rfl (x:=.ref it) rfl ?_);refine d8d ?_;unfold Builtin.SmallTypes.nextOf;refine d8d (wpAny_callSpecial?_slot (name:=Str.ofString "__next__") hit.typeIs slot_listiter_next
  (wpAny_call_entry slot_listiter_next hit.typeIs entry_listiter_next ?_ (args_listiter_next _)))
 show d8i _ _ (field (.ref it) 0 >>= _) _ _ s;refine d8d (d8w ho hd (x:=.ref l) rfl ?_);show d8i _ _ (if (Value.ref l==Value.none)=true then _ else _) _ _ s
 show d8i _ _ (field (.ref it) 1 >>= _) _ _ s;refine d8d (d8w ho hd (x:=.int i 0) rfl ?_);show d8i _ _ (seqItems? (.ref l) >>= _) _ _ s;refine d8d (wpAny_seqItems hol hdl ?_);simp only[Int.toNat_natCast,hx];refine d8d (wpAny_rule (d8d (wpAny_setField ho hd (by simp) ?_)))
 have hs:Heap.SameBut it s.heap (s.heap.update it (Obj.mapFields fun vs=>vs.setIfInBounds 0 .none)):=Heap.SameBut.update ..;obtain⟨_,sg'⟩:=Step.one (tk:=s.toks) sg hg hs;refine a7x (A:=A.in1.in1) hk sg' fun h' e hsub ⟨oe,hoe,hce⟩=>?_;refine d8d (wpAny_isInstance (T:="StopIteration") (b:=true) ⟨oe,hoe,hce⟩ isSubtype_stop ?_);exact d8h (hQ _ fun b o hb e=>hsub _ _ ((hs.2 b hb).trans e))
theorem b3r{it l:Addr}{items:Array d8g}(hne:l≠it):∀(n i:Nat) (s:d8f) (Q:List d8g→d8f→Prop),s.heap.IsListIter it l i→s.heap.IsList l items→i+n≤items.size→
  (∀h',h'.IsListIter it l (i+n)→Heap.SameBut it s.heap h'→Q ((items.toList.drop i).take n) { s with heap:=h' })→d8i (model C.prog C.w) A (draw (.ref it) n) Q E s
 |0=>fun i s Q hit _ _ hQ=>by
  show d8i _ _ (pure []) Q E s;exact d8h (by simpa using hQ s.heap hit (Heap.SameBut.refl ..))
 |n+1=>fun i s Q hit ht hle hQ=>by
  have hlt:i<items.size:=by exact a1z (.t N0 N1) (.l (.p N0 (.p N2 O1)) N1) hle
  show d8i _ _ (pyNext (.ref it) >>= _) Q E s;refine d8d (wpAny_pyNext_list_item hit ht (x:=items[i]) (by simp[hlt]) fun h₁ hit₁ hs₁=>?_)
  refine d8d (d8l (b3r hne n (i+1) _ _ hit₁ (ht.extBut hs₁.extBut hne) (by exact a1z (.l (.p (.p N0 O1) N1) N2) (.l (.p N0 (.p N1 O1)) N2) hle) fun h₂ hit₂ hs₂=>d8h ?_))
  have hd:items.toList.drop i=items[i]::items.toList.drop (i+1):=by simp[List.drop_eq_getElem_cons,hlt]
  have:=hQ h₂ (by rw[show i+(n+1)=i+1+n by exact b5v (.e (.p N0 (.p N1 O1)) (.p (.p N0 O1) N1))]; exact hit₂) (hs₁.trans hs₂)
  rw[hd,List.take_succ_cons]at this
  exact this
theorem a7a{Q:List d8g→d8f→Prop}(hk:HOK A g)(sg:Sub g s.heap)(hv:RDH g s.heap v d)(hd:seqD d=some ds)
 (hQ:∀vs h',Sub s.heap h'→RDs g vs ds→Q vs { s with heap:=h' }):d8i (model C.prog C.w) A (unpackItems v ds.length none) Q E s:=by
 have hnew:∀b o,s.heap.get? b=some o→b≠s.heap.objs.size:=fun b o e=>Nat.ne_of_lt (Heap.lt_size e);have hgn:g.get? s.heap.objs.size=none:=by
  cases e:g.get? s.heap.objs.size with
  |none=>rfl
  |some o=>exact absurd (Heap.lt_size (sg _ _ e)) (Nat.lt_irrefl _)
 cases d with
 |tuple l=>
  simp only[seqD,Option.some.injEq]at hd; subst hd;obtain⟨t,vs,rfl,ht,r⟩:=RD.tupleE hv;have ht':=a0q sg ht;have hlen:vs.toArray.size=l.length:=by simpa using r.length
  have hlt:t≠s.heap.objs.size:=by obtain⟨o,ho,_⟩:=ht'; exact hnew _ _ ho
  unfold unpackItems;refine d8d ?_;unfold notIterableAtAll;refine d8d (wpAny_specialOf ht'.typeIs F.slot_tuple_iter.lookup ?_);refine d8h ?_;refine d8d (d8l (wpAny_pyIter_tuple ht' ?_));rw[←hlen];refine d8d (d8l (wpAny_draw_tuple hlt vs.toArray.size 0 _ _ ⟨_,Heap.get?_push_size _ rfl,rfl,rfl⟩ (ht'.push _) (by exact a1x (.l (.p (.k 0) N0) N0)) fun h₁ hit₁ hs₁=>?_))
  have hall:List.take vs.toArray.size (List.drop 0 vs.toArray.toList)=vs.toArray.toList:=by
   rw[List.drop_zero]; exact List.take_of_length_le (by simp)
  rw[hall];rw[if_neg (by simp)]
  have ht₁:h₁.IsTuple t vs.toArray:=(ht'.push _).extBut hs₁.extBut hlt;have sg₁:Sub g h₁:=fun b o e=>(hs₁.2 b (hnew b o (sg _ _ e))).trans (a0e _ _ _ (sg _ _ e));refine d8d (d8l (a3e hk sg₁ hgn hit₁ ht₁ (by simp) fun h₂ he₂=>?_))
  exact d8h (hQ _ h₂ (fun b o e=>he₂ b o (hnew b o e) (hs₁.extBut b o (hnew b o e) (a0e _ _ _ e))) (by simpa using r))
 |list l=>
  simp only[seqD,Option.some.injEq]at hd; subst hd;obtain⟨t,vs,rfl,ht',r⟩:=hv;have hlen:vs.toArray.size=l.length:=by simpa using r.length
  have hlt:t≠s.heap.objs.size:=by obtain⟨o,ho,_⟩:=ht'; exact hnew _ _ ho
  unfold unpackItems;refine d8d ?_;unfold notIterableAtAll;refine d8d (wpAny_specialOf ht'.typeIs slot_list_iter.lookup ?_);refine d8h ?_;refine d8d (d8l (wpAny_pyIter_list ht' ?_));rw[←hlen];refine d8d (d8l (b3r hlt vs.toArray.size 0 _ _ ⟨_,Heap.get?_push_size _ rfl,rfl,rfl⟩ (a0f (a0e _) ht') (by exact a1x (.l (.p (.k 0) N0) N0)) fun h₁ hit₁ hs₁=>?_))
  have hall:List.take vs.toArray.size (List.drop 0 vs.toArray.toList)=vs.toArray.toList:=by
   rw[List.drop_zero]; exact List.take_of_length_le (by simp)
  rw[hall];rw[if_neg (by simp)]
  have ht₁:h₁.IsList t vs.toArray:=(a0f (a0e _) ht').extBut hs₁.extBut hlt;have sg₁:Sub g h₁:=fun b o e=>(hs₁.2 b (hnew b o (sg _ _ e))).trans (a0e _ _ _ (sg _ _ e));refine d8d (d8l (a6h hk sg₁ hgn hit₁ ht₁ (by simp) fun h₂ he₂=>?_))
  exact d8h (hQ _ h₂ (fun b o e=>he₂ b o (hnew b o e) (hs₁.extBut b o (hnew b o e) (a0e _ _ _ e))) (by simpa using r))
 |_=>cases hd
end
end
section
structure IterOK(C:Cfg)(A:d8q)(target:Expr)(I:Addr)(ws:List Addr)(ds:List d8e)(IS:Nat→Heap→Heap→Prop):Prop where
 frame:∀i g h g' h',IS i g h→Sub g g'→(∀b∈ws,∀o,h.get? b=some o→h'.get? b=some o)→(∀b∈ws,g'.get? b=none)→IS i g' h'
 here:∀i g h,IS i g h→∀b∈ws,g.get? b=none∧∃o,h.get? b=some o∧b8l o
 item:∀i d (s:d8f) g (Q:d8g→d8f→Prop) (E:d8g→d8f→Prop),ds[i]?=some d→Sub g s.heap→IS i g s.heap→
  (∀v s' g',Step ws s g s' g'→Sub g' s'.heap→RD g' v d→IS (i+1) g' s'.heap→Q v s')→
  d8i (model C.prog C.w) A (pyNext (.ref I)) (fun r s₁=>match r with
   |some v=>d8i (model C.prog C.w) A (letOwnedTupleGo target (.ref I) v) (fun _ s₂=>Q v s₂) E s₁
   |none=>False) E s
 done:∀(s:d8f) g (Q:d8f→Prop) (E:d8g→d8f→Prop),Sub g s.heap→HOK A g→IS ds.length g s.heap→
  (∀s',Step ws s g s' g→Sub g s'.heap→Q s')→d8i (model C.prog C.w) A (pyNext (.ref I)) (fun r s₁=>match r with|none=>Q s₁|some _=>False) E s
 self:∀i (s:d8f) g (Q:d8g→d8f→Prop) (E:d8g→d8f→Prop),IS i g s.heap→Q (.ref I) s→d8i (model C.prog C.w) A (pyIter (.ref I)) Q E s
set_option backward.match.sparseCases false in
noncomputable def a0g(x:Expr):Bool:=isK 23 x||isK 25 x
section
variable {C:Cfg} {A:d8q} {E:d8g→d8f→Prop} {s:d8f} {g:Heap}
theorem a3t{I:Addr}{T:String}(ht:a0g target=true)(ho:s.heap.get? I=some o)(hc:o.cls=.type T)
 (hT:(["enumerate", "zip", "dict_itemiterator", "dict_reverseitemiterator", "odict_iterator", "itertools.zip_longest", "itertools.pairwise"].contains T)=false) (hQ:Q () s) :
  d8i (model C.prog C.w) A (letOwnedTupleGo target (.ref I) v) Q E s:=by
 rcases Bool.or_eq_true_iff.mp ht with h|h
 ·obtain⟨y,p,rfl⟩:=c1q h
  exact d8h hQ
 ·obtain⟨elts,x,pos,rfl⟩:=d5b h
  unfold letOwnedTupleGo;cases v with
  |ref a=>
   refine d8d (wpAny_load ho ?_);rw[hc];cases hd:o.data with
   |fields vs=>
    show d8i _ A (if (["enumerate", "zip", "dict_itemiterator", "dict_reverseitemiterator", "odict_iterator", "itertools.zip_longest", "itertools.pairwise"].contains T&&vs[0]? == some (rawInt a))=true then _ else _) Q E s
    rw[hT,Bool.false_and,if_neg (by simp)]
    exact d8h hQ
   |_=>exact d8h hQ
  |_=>exact d8h hQ
theorem a6p{I:Addr}{tk:Nat}(sg:Sub g s.heap)(hg:g.get? I=none)(hk:Heap.ExtBut I s.heap h'):Step [I] s g { s with heap:=h',toks:=tk } g∧Sub g h':=
 ⟨⟨⟨h',tk,rfl⟩,.refl g,fun b o hb e=>.of (hk b o (by simpa using hb) e),fun sg b o e=>hk b o (fun q=>by rw[q,hg]at e; cases e) (sg b o e),fun _ _ _ _ e=>e,id⟩,fun b o e=>hk b o (fun q=>by rw[q,hg]at e; cases e) (sg b o e)⟩
theorem c3b{l I:Addr}{g₀:Heap}(ht:a0g target=true)(hl:g₀.IsList l vs.toArray)(r:RDs g₀ vs ds) :
  IterOK C A target I [I] ds fun i g h=>Sub g₀ g∧g.get? I=none∧h.IsListIter I l i where
 frame:=fun i g h g' h' x s hk hg=>⟨x.1.trans s,hg I (.head _),x.2.2.at fun o e=>hk I (.head _) o e⟩
 here:=fun i g h x b hb=>by cases List.mem_singleton.mp hb; exact⟨x.2.1,x.2.2.imp fun o h=>⟨h.1,by intro es ep; rw[h.2.2]; simp⟩⟩
 item:=fun i d s g Q E hd sg x hQ=>by
  obtain⟨h1,h2,h3⟩:=x;obtain⟨v,hv,rv⟩:=r.get hd;refine wpAny_pyNext_list_item h3 (a0f (h1.trans sg) hl) (x:=v) (by simpa using hv) fun h' hit hs=>?_
  obtain⟨x,y⟩:=Step.one (tk:=s.toks) sg h2 hs;obtain⟨o,ho,hc,_⟩:=id hit;exact a3t ht ho hc (by decide) (hQ v _ g x y (rv.mono h1) ⟨h1,h2,hit⟩)
 done:=fun s g Q E sg hk x hQ=>by
  obtain⟨h1,h2,h3⟩:=x;refine a6h hk sg h2 h3 (a0f (h1.trans sg) hl) (by simp[←r.length]) fun h' he=>?_
  obtain⟨x,y⟩:=a6p (tk:=s.toks) sg h2 he;exact hQ _ x y
 self:=fun i s g Q E x h=>wpAny_pyIter_listiter x.2.2 h
theorem b8v{l I:Addr}{g₀:Heap}(ht:a0g target=true)(hl:g₀.IsTuple l vs.toArray)(r:RDs g₀ vs ds) :
  IterOK C A target I [I] ds fun i g h=>Sub g₀ g∧g.get? I=none∧h.IsTupleIter I l i where
 frame:=fun i g h g' h' x s hk hg=>⟨x.1.trans s,hg I (.head _),Exists.imp (fun o=>And.imp_left (hk I (.head _) o)) x.2.2⟩
 here:=fun i g h x b hb=>by cases List.mem_singleton.mp hb; exact⟨x.2.1,x.2.2.imp fun o h=>⟨h.1,by intro es ep; rw[h.2.2]; simp⟩⟩
 item:=fun i d s g Q E hd sg x hQ=>by
  obtain⟨h1,h2,h3⟩:=x;obtain⟨v,hv,rv⟩:=r.get hd;refine wpAny_pyNext_tuple_item h3 (a0q (h1.trans sg) hl) (x:=v) (by simpa using hv) fun h' hit hs=>?_
  obtain⟨x,y⟩:=Step.one (tk:=s.toks) sg h2 hs;obtain⟨o,ho,hc,_⟩:=id hit;exact a3t ht ho hc (by decide) (hQ v _ g x y (rv.mono h1) ⟨h1,h2,hit⟩)
 done:=fun s g Q E sg hk x hQ=>by
  obtain⟨h1,h2,h3⟩:=x;refine a3e hk sg h2 h3 (a0q (h1.trans sg) hl) (by simp[←r.length]) fun h' he=>?_
  obtain⟨x,y⟩:=a6p (tk:=s.toks) sg h2 he;exact hQ _ x y
 self:=fun i s g Q E x h=>wpAny_pyIter_tupleiter x.2.2 h
theorem b1a{I:Addr}{a c:Int}{n:Nat}(hh:A.handled=none)(ht:a0g target=true) :
  IterOK C A target I [I] ((List.range n).map fun k=>.int (a+(k:Nat)*c)) fun i g h=>g.get? I=none∧IsRangeIter h I (a+(i:Nat)*c) ((n:Int)-(i:Nat)) c where
 frame:=fun i g h g' h' x s hk hg=>⟨hg I (.head _),hk I (.head _) _ x.2⟩
 here:=fun i g h x b hb=>by cases List.mem_singleton.mp hb; exact⟨x.1,_,x.2,by intro es ep h; cases h⟩
 item:=fun i d s g Q E hd sg x hQ=>by
  obtain⟨h2,h3⟩:=x;have hi:i<n:=by have:=(List.getElem?_eq_some_iff.mp hd).1; simpa using this
  rw[List.getElem?_map,List.getElem?_range hi]at hd;simp only[Option.map_some,Option.some.injEq]at hd;subst hd;refine wpAny_pyNext_range_item h3 (by exact a1d (.t (.z 0) (.S (.c N0) (.c N1))) (.t N1 N0) hi) fun h' hit hs=>?_
  obtain⟨x,y⟩:=Step.one (tk:=s.toks+1) sg h2 hs;have e1:a+(i:Nat)*c+c=a+((i+1:Nat):Int)*c:=by rw[Int.natCast_add,Int.add_mul]; omega
  have e2:(n:Int)-(i:Nat)-1=(n:Int)-((i+1:Nat):Int):=by exact b5v (.e (.S (.S (.c N0) (.c N1)) (.z 1)) (.S (.c N0) (.c (.p N1 O1))))
  rw[e1,e2]at hit;exact a3t ht hit rfl (by decide) (hQ _ _ g x y (.int _ _) ⟨h2,hit⟩)
 done:=fun s g Q E sg hk x hQ=>by
  obtain⟨h2,h3⟩:=x;refine wpAny_pyNext_range_end hh h3 (by simp) fun h' he=>?_
  obtain⟨x,y⟩:=a6p (tk:=s.toks) sg h2 he;exact hQ _ x y
 self:=fun i s g Q E x h=>wpAny_pyIter_rangeiter x.2 h
theorem c5p{l I:Addr}{g₀:Heap}(hh:A.handled=none)(ht:a0g target=true)(hl:g₀.IsList l vs.toArray)(r:RDs g₀ vs ds) :
  IterOK C A target I [I] ds.reverse fun i g h=>Sub g₀ g∧g.get? I=none∧h.IsRevIter I l ((ds.length:Int)-1-(i:Nat)) where
 frame:=fun i g h g' h' x s hk hg=>⟨x.1.trans s,hg I (.head _),x.2.2.at fun o e=>hk I (.head _) o e⟩
 here:=fun i g h x b hb=>by cases List.mem_singleton.mp hb; exact⟨x.2.1,x.2.2.imp fun o h=>⟨h.1,by intro es ep; rw[h.2.2]; simp⟩⟩
 item:=fun i d s g Q E hd sg x hQ=>by
  obtain⟨h1,h2,h3⟩:=x;have hi:i<ds.length:=by have:=(List.getElem?_eq_some_iff.mp hd).1; simpa using this
  have hd':ds[ds.length-1-i]?=some d:=by rw[←hd,List.getElem?_reverse hi]
  obtain⟨v,hv,rv⟩:=r.get hd';have e0:(ds.length:Int)-1-(i:Nat)=((ds.length-1-i:Nat):Int):=by exact a1d (.e (.S (.S (.c N0) (.z 1)) (.c N1)) (.c (.s (.s N0 O1) N1))) (.t N1 N0) hi
  rw[e0]at h3;refine wpAny_pyNext_rev_item h3 (a0f (h1.trans sg) hl) (x:=v) (by simpa using hv) fun h' hit hs=>?_
  obtain⟨x,y⟩:=Step.one (tk:=s.toks) sg h2 hs;have e1:((ds.length-1-i:Nat):Int)-1=(ds.length:Int)-1-((i+1:Nat):Int):=by exact a1d (.e (.S (.c (.s (.s N0 O1) N1)) (.z 1)) (.S (.S (.c N0) (.z 1)) (.c (.p N1 O1)))) (.e (.S (.S (.c N0) (.z 1)) (.c N1)) (.c (.s (.s N0 O1) N1))) e0
  rw[e1]at hit;obtain⟨o,ho,hc,_⟩:=id hit;exact a3t ht ho hc (by decide) (hQ v _ g x y (rv.mono h1) ⟨h1,h2,hit⟩)
 done:=fun s g Q E sg hk x hQ=>by
  obtain⟨h1,h2,h3⟩:=x;have e0:(ds.length:Int)-1-((ds.reverse.length:Nat):Int)=-1:=by simp; exact a1x (.e (.S (.S (.c N0) (.z 1)) (.c N0)) (.z (Int.neg 1)))
  rw[e0]at h3;refine wpAny_pyNext_rev_end hh h3 fun h' he=>?_;obtain⟨x,y⟩:=a6p (tk:=s.toks) sg h2 he;exact hQ _ x y
 self:=fun i s g Q E x h=>wpAny_pyIter_revIter x.2.2 h
theorem c2r{l I it:Addr}{x1:Nat}{pos:Pos}{g₀:Heap}(hne:I≠it)(hl:g₀.IsList l vs.toArray)(r:RDs g₀ vs ds) :
  IterOK C A (.Tuple elts x1 pos) I [I,it] (b2b ds) fun i g h=>Sub g₀ g∧g.get? I=none∧g.get? it=none∧h.IsListIter it l i∧∃old,IsEnum h I it (i:Nat) old where
 frame:=fun i g h g' h' x s hk hg=>⟨x.1.trans s,hg I (.head _),hg it (.tail _ (.head _)),x.2.2.2.1.at fun o e=>hk it (.tail _ (.head _)) o e,x.2.2.2.2.imp fun old h4=>hk I (.head _) _ h4⟩
 here:=fun i g h x b hb=>by
  rcases List.mem_cons.mp hb with rfl|hb
  ·exact⟨x.2.1,x.2.2.2.2.elim fun _ h4=>⟨_,h4,by intro es ep h; cases h⟩⟩
  ·cases List.mem_singleton.mp hb; exact⟨x.2.2.1,x.2.2.2.1.imp fun o h=>⟨h.1,by intro es ep; rw[h.2.2]; simp⟩⟩
 item:=fun i d s g Q E hd sg x hQ=>by
  obtain⟨h1,h2,h2',h3,old,h4⟩:=x;have hi:i<ds.length:=by have:=(List.getElem?_eq_some_iff.mp hd).1; simpa[b2b]using this
  have hd2:ds[i]?=some (ds[i]'hi):=List.getElem?_eq_getElem hi;obtain⟨v,hv,rv⟩:=r.get hd2;have hdd:d=.tuple [.int (i:Int),ds[i]'hi]:=by
   unfold b2b at hd;rw[List.getElem?_zipWith,List.getElem?_range hi,hd2]at hd;simpa using hd.symm
  subst hdd;refine wpAny_pyNext_enum_item h4 h3 (a0f (h1.trans sg) hl) (x:=v) (by simpa using hv) hne fun h' he' hit hT hsz hk=>?_
  refine wpAny_letOwnedTupleGo_enum he' fun h'' he'' hs''=>?_;have hInew:s.heap.objs.size≠I:=Ne.symm (Nat.ne_of_lt (Heap.lt_size h4));have hTnone:s.heap.get? s.heap.objs.size=none:=a0d _;have hgT:g.get? s.heap.objs.size=none:=by
   cases e:g.get? s.heap.objs.size with
   |none=>rfl
   |some o=>rw[sg _ _ e]at hTnone; cases hTnone
  have hkk:∀b o,b≠I→b≠it→s.heap.get? b=some o→h''.get? b=some o:=fun b o n1 n2 e=>(hs''.2 b n1).trans (hk b o n1 n2 e);have hT':h''.get? s.heap.objs.size=some { cls:=.type "tuple",data:=.seq #[.int (i:Nat) s.toks,v] }:=(hs''.2 _ hInew).trans hT;have sg'':Sub g h'':=fun b o e=>hkk b o (fun q=>by rw[q,h2]at e; cases e) (fun q=>by rw[q,h2']at e; cases e) (sg b o e)
  obtain⟨g',f1,f2,f3,f4,f5⟩:=a7c sg'' s.heap.objs.size (fun o e hc=>by rw[hT']at e; cases e; simp at hc)
  have hst:Step [I,it] s g { s with heap:=h'',toks:=s.toks+1 } g':=⟨⟨h'',_,rfl⟩,f1,fun b o hb e=>by
    simp at hb; exact .of (hkk b o hb.1 hb.2 e),fun _=>f2,fun b o hb e eg=>(f4 b fun q=>by rw[q,hTnone]at e; cases e).trans eg,f5⟩
  have hit0:it≠s.heap.objs.size:=by obtain⟨o,ho,_⟩:=h3; exact Nat.ne_of_lt (Heap.lt_size ho)
  refine hQ _ _ g' hst f2 (RD.tuple (vs:=[.int (i:Nat) s.toks,v]) ⟨_,f3.trans hT',rfl,0,rfl⟩ (.cons (.int _ _) (.one ((rv.mono h1).mono f1)))) ⟨h1.trans f1,?_,?_,?_,v,?_⟩
  ·exact(f4 I (Ne.symm hInew)).trans h2
  ·exact(f4 it hit0).trans h2'
  ·obtain⟨o,ho,q⟩:=hit; exact⟨o,(hs''.2 it (Ne.symm hne)).trans ho,q⟩
  ·have e1:((i:Nat):Int)+1=((i+1:Nat):Int):=by exact a1x (.e (.P (.c N0) (.z 1)) (.c (.p N0 O1)))
   rw[←e1]; exact he''
 done:=fun s g Q E sg hk x hQ=>by
  obtain⟨h1,h2,h2',h3,old,h4⟩:=x;have hlen:(b2b ds).length=ds.length:=by simp[b2b]
  rw[hlen]at h3 h4;refine b1j hk sg h2' h4 h3 (a0f (h1.trans sg) hl) (by simp[←r.length]) fun h' he=>?_
  obtain⟨x,y⟩:=a6p (tk:=s.toks) sg h2' he;exact hQ _ (x.mono fun b hb=>by simp at hb; simp[hb]) y
 self:=fun i s g Q E x h=>x.2.2.2.2.elim fun _ h4=>wpAny_pyIter_enum h4 h
end
end
section
def d2x(C:Cfg)(A:d8q)(E:d8g→d8f→Prop)(g:Heap)(s:d8f)(target:Expr)(t:Sem d8g)(ds:List d8e):Prop:=
 ∀Q:d8g→d8f→Prop,(∀I ws IS s',IterOK C A target I ws ds IS→IS 0 g s'.heap→(∀b∈ws,s.heap.get? b=none)→Step [] s g s' g→Q (.ref I) s')→d8i (model C.prog C.w) A t Q E s
section
variable {C:Cfg} {A:d8q} {E:d8g→d8f→Prop} {s:d8f} {g:Heap} {target:Expr}
theorem neA{a b:Nat}(h:a<b∨b<a):a≠b:=by exact a1d (.n (.e N0 N1)) (.b 1 (.t N0 N1) (.t N1 N0)) h
theorem a3d(sg:Sub g s.heap){b:Addr}(h:s.heap.get? b=none):g.get? b=none:=by
 cases e:g.get? b with
 |none=>rfl
 |some o=>rw[sg _ _ e]at h; cases h
theorem a0s{b:Addr}(hb:h.objs.size≤b):h.get? b=none:=by
 cases e:h.get? b with
 |none=>rfl
 |some o=>exact absurd (Heap.lt_size e) (Nat.not_lt.mpr hb)
theorem d1z(ht:a0g target=true)(sg:Sub g s.heap)(hv:RD g v d)(hd:seqD d=some ds):d2x C A E g s target (pyIter v) ds:=fun Q h=>by
 cases d with
 |list l=>
  simp only[seqD,Option.some.injEq]at hd; subst hd;obtain⟨a,vs,rfl,hl,r⟩:=hv.listE;refine wpAny_pyIter_list (a0f sg hl) ?_;exact h _ _ _ _ (c3b ht hl r) ⟨.refl g,a3d sg (a0d _),_,Heap.get?_push_size _ rfl,rfl,rfl⟩ (fun b hb=>by simp at hb; subst hb; exact a0d _) (.ext (tk:=s.toks) (a0e _))
 |tuple l=>
  simp only[seqD,Option.some.injEq]at hd; subst hd;obtain⟨a,vs,rfl,hl,r⟩:=hv.tupleE;refine wpAny_pyIter_tuple (a0q sg hl) ?_;exact h _ _ _ _ (b8v ht hl r) ⟨.refl g,a3d sg (a0d _),_,Heap.get?_push_size _ rfl,rfl,rfl⟩ (fun b hb=>by simp at hb; subst hb; exact a0d _) (.ext (tk:=s.toks) (a0e _))
 |_=>cases hd
theorem a4n{r:Addr}{a b c:Int}{t u v:Tok}{n:Nat}{s₀:d8f}(hh:A.handled=none)(ht:a0g target=true)(sg:Sub g s.heap)(hr:IsRange s.heap r a b c t u v)
 (hsmall:Builtin.Range.small a b c=true) (hn:Builtin.Range.rangeSize a b c=(n:Int)) (x:Step [] s₀ g s g)
 (Q:d8g→d8f→Prop) (h:∀I ws IS s',IterOK C A target I ws ((List.range n).map fun k=>.int (a+(k:Nat)*c)) IS→IS 0 g s'.heap→(∀b∈ws,s₀.heap.get? b=none)→Step [] s₀ g s' g→Q (.ref I) s') :
  d8i (model C.prog C.w) A (pyIter (.ref r)) Q E s:=by
 refine wpAny_pyIter_range hr hsmall ?_;have hn0:s₀.heap.get? s.heap.objs.size=none:=by
  cases e:s₀.heap.get? s.heap.objs.size with
  |none=>rfl
  |some o=>exact((x.keep _ _ (by simp) e).none (a0d _)).elim
 refine h _ _ _ _ (b1a (a:=a) (c:=c) (n:=n) hh ht) ⟨a3d sg (a0d _),?_⟩ (fun b hb=>by simp at hb; subst hb; exact hn0) (x.tr (.ext (tk:=s.toks) (a0e _)))
 have:=Heap.get?_push_size s.heap (o:={ cls:=.type "range_iterator",data:=.fields #[rawInt a,rawInt (Builtin.Range.rangeSize a b c),rawInt c] }) rfl
 rw[hn]at this
 rw[hn];simpa using this
theorem c0f(a:Int)(n:Nat):(List.range n).map (fun k=>PyData.int (a+(k:Nat)*1))=b9b a n:=by
 unfold b9b;exact List.map_congr_left fun k _=>by simp
theorem c0k(n:Nat):(List.range n).map (fun k=>PyData.int ((n:Int)-1+(k:Nat)*(-1)))=a2j n:=by
 unfold a2j;exact List.map_congr_left fun k _=>by congr 1; exact b5v (.e (.P (.S (.c N0) (.z 1)) (.n 1 (Int.neg 1) (.c N1))) (.S (.S (.c N0) (.z 1)) (.c N1)))
theorem b9s{n:Int}{t:Tok}(hh:A.handled=none)(ht:a0g target=true)(sg:Sub g s.heap)(hn:n≤1000000)(Q:d8g→d8f→Prop)
 (h:∀I ws IS s',IterOK C A target I ws (b9b 0 n.toNat) IS→IS 0 g s'.heap→(∀b∈ws,s.heap.get? b=none)→Step [] s g s' g→Q (.ref I) s') (hlo:-1000000≤n) :
  d8i (model C.prog C.w) A (call (.type "range") [.int n t]) (fun v s₁=>d8i (model C.prog C.w) A (pyIter v) Q E s₁) E s:=by
 refine call_range_1 ?_;have hsz:Builtin.Range.rangeSize 0 n 1=((n.toNat:Nat):Int):=by rw[rangeSize_one]; split <;> (first|exact a2h (.e (.S Z0 (.z 0)) (.c (.u 0 Z0))) (.t (.z 0) Z0) ‹_›|exact a2h (.e (.z 0) (.c (.u 0 Z0))) (.n (.t (.z 0) Z0)) ‹_›|omega)
 refine a4n (n:=n.toNat) hh ht (sg.trans (a0e _)) (IsRange.new s.heap 0 n 1 s.toks t (s.toks+1)) (small_one (by exact a5f (.l (.z (- (2^62))) (.z 0))) (by exact a5f (.t (.z 0) (.z (Int.pow 2 62)))) (by exact a2h (.l (.z (- (2^62))) Z0) (.l (.z (Int.neg 1000000)) Z0) hlo) (by exact a2h (.t Z0 (.z (Int.pow 2 62))) (.l Z0 (.z 1000000)) hn)) hsz (.ext (a0e _)) Q fun I ws IS s' i1 i2 i3 i4=>?_
 rw[c0f]at i1;exact h I ws IS s' i1 i2 i3 i4
theorem c2e{a b:Int}{t u:Tok}(hh:A.handled=none)(ht:a0g target=true)(sg:Sub g s.heap)(ha:-1000000≤a∧a≤1000000)(hb:-1000000≤b∧b≤1000000)(Q:d8g→d8f→Prop)
 (h:∀I ws IS s',IterOK C A target I ws (b9b a (b-a).toNat) IS→IS 0 g s'.heap→(∀b∈ws,s.heap.get? b=none)→Step [] s g s' g→Q (.ref I) s') :
  d8i (model C.prog C.w) A (call (.type "range") [.int a t,.int b u]) (fun v s₁=>d8i (model C.prog C.w) A (pyIter v) Q E s₁) E s:=by
 refine call_range_2 ?_;have hsz:Builtin.Range.rangeSize a b 1=(((b-a).toNat:Nat):Int):=by rw[rangeSize_one]; split <;> (first|exact c7j (.e (.S Z0 Z1) (.c (.u 0 (.S Z0 Z1)))) (.t Z1 Z0) ‹_›|exact c7j (.e (.z 0) (.c (.u 0 (.S Z0 Z1)))) (.n (.t Z1 Z0)) ‹_›|omega)
 refine a4n (n:=(b-a).toNat) hh ht (sg.trans (a0e _)) (IsRange.new s.heap a b 1 t u s.toks) (small_one (by exact a2h (.l (.z (- (2^62))) Z0) (.a (.l (.z (Int.neg 1000000)) Z0) (.l Z0 (.z 1000000))) ha) (by exact a2h (.t Z0 (.z (Int.pow 2 62))) (.a (.l (.z (Int.neg 1000000)) Z0) (.l Z0 (.z 1000000))) ha) (by exact a2h (.l (.z (- (2^62))) Z0) (.a (.l (.z (Int.neg 1000000)) Z0) (.l Z0 (.z 1000000))) hb) (by exact a2h (.t Z0 (.z (Int.pow 2 62))) (.a (.l (.z (Int.neg 1000000)) Z0) (.l Z0 (.z 1000000))) hb)) hsz (.ext (a0e _)) Q fun I ws IS s' i1 i2 i3 i4=>?_
 rw[c0f]at i1;exact h I ws IS s' i1 i2 i3 i4
theorem b4p{n:Int}{t u v:Tok}(hh:A.handled=none)(ht:a0g target=true)(sg:Sub g s.heap)(hn:-1≤n∧n≤1000000)(Q:d8g→d8f→Prop)
 (h:∀I ws IS s',IterOK C A target I ws (a2j (n+1).toNat) IS→IS 0 g s'.heap→(∀b∈ws,s.heap.get? b=none)→Step [] s g s' g→Q (.ref I) s') :
  d8i (model C.prog C.w) A (call (.type "range") [.int n t,.int (-1) u,.int (-1) v]) (fun v s₁=>d8i (model C.prog C.w) A (pyIter v) Q E s₁) E s:=by
 refine call_range_3 (by decide) ?_ (.inl (PyProof.noPylong_small (by decide)))
 have hsz:Builtin.Range.rangeSize n (-1) (-1)=(((n+1).toNat:Nat):Int):=by
  unfold Builtin.Range.rangeSize;simp only[show ¬((-1:Int)>0) by decide,if_false]
  split
  ·rw[show(- -1:Int)=1 from rfl,Int.ediv_one]; exact a2h (.e (.P (.S (.S Z0 (.z (Int.neg 1))) (.z 1)) (.z 1)) (.c (.u 0 (.P Z0 (.z 1))))) (.a (.l (.z (Int.neg 1)) Z0) (.l Z0 (.z 1000000))) hn
  ·exact a2h (.e (.z 0) (.c (.u 0 (.P Z0 (.z 1))))) (.n (.t (.z (Int.neg 1)) Z0)) ‹_›
 have hsm:Builtin.Range.small n (-1) (-1)=true:=by
  unfold Builtin.Range.small;rw[hsz];simp only[Builtin.Range.rangeFitsLong,Bool.and_eq_true,Bool.or_eq_true,decide_eq_true_eq,beq_iff_eq,show ¬((-1:Int)>0) by decide,if_false]
  exact a2h (.a (.a (.a (.a (.a (.l (.z (- (2^63))) Z0) (.t Z0 (.z (Int.pow 2 63)))) (.a (.l (.z (- (2^63))) (.z (Int.neg 1))) (.t (.z (Int.neg 1)) (.z (Int.pow 2 63))))) (.a (.l (.z (- (2^63))) (.z (Int.neg 1))) (.t (.z (Int.neg 1)) (.z (Int.pow 2 63))))) (.a (.l (.z (- (2^63))) (.c (.u 0 (.P Z0 (.z 1))))) (.t (.c (.u 0 (.P Z0 (.z 1)))) (.z (Int.pow 2 63))))) (.b 1 (.e (.c (.u 0 (.P Z0 (.z 1)))) (.z 0)) (.a (.l (.z (- (2^63))) (.P (.z (Int.neg 1)) (.P (.z (Int.neg 1)) (.z 1)))) (.t (.P (.z (Int.neg 1)) (.P (.z (Int.neg 1)) (.z 1))) (.z (Int.pow 2 63)))))) (.a (.l (.z (Int.neg 1)) Z0) (.l Z0 (.z 1000000))) hn
 refine a4n (n:=(n+1).toNat) hh ht (sg.trans (a0e _)) (IsRange.new s.heap n (-1) (-1) t u v) hsm hsz (.ext (a0e _)) Q fun I ws IS s' i1 i2 i3 i4=>?_;have e:(List.range (n+1).toNat).map (fun k=>PyData.int (n+(k:Nat)*(-1)))=a2j (n+1).toNat:=by
  rw[←c0k];exact List.map_congr_left fun k _=>by congr 1; exact c8r (.e (.P Z0 (.n 1 (Int.neg 1) (.c N0))) (.P (.S (.c (.u 0 (.P Z0 (.z 1)))) (.z 1)) (.n 1 (Int.neg 1) (.c N0)))) (.a (.l (.z (Int.neg 1)) Z0) (.l Z0 (.z 1000000))) hn
 rw[e]at i1;exact h I ws IS s' i1 i2 i3 i4
theorem c8k{l:List d8e}{x1:Nat}{pos:Pos}(sg:Sub g s.heap)(hv:RD g v (.list l))(Q:d8g→d8f→Prop)
 (h:∀I ws IS s',IterOK C A (.Tuple elts x1 pos) I ws (b2b l) IS→IS 0 g s'.heap→(∀b∈ws,s.heap.get? b=none)→Step [] s g s' g→Q (.ref I) s') :
  d8i (model C.prog C.w) A (call (.type "enumerate") [v]) (fun v s₁=>d8i (model C.prog C.w) A (pyIter v) Q E s₁) E s:=by
 obtain⟨a,vs,rfl,hl,r⟩:=hv.listE;refine call_enumerate_list (a0f sg hl) fun h' he hit hsz hk=>wpAny_pyIter_enum he ?_;have n0:s.heap.get? s.heap.objs.size=none:=a0d _;have n1:s.heap.get? (s.heap.objs.size+1)=none:=a0s (Nat.le_succ _);refine h _ _ _ _ (c2r (Nat.ne_of_gt (Nat.lt_succ_self _)) hl r) ⟨.refl g,a3d sg n1,a3d sg n0,hit,.none,he⟩ (fun b hb=>?_) (.ext (tk:=s.toks) hk);simp at hb
 rcases hb with rfl|rfl
 ·exact n1
 ·exact n0
theorem d2z{l:List d8e}(hh:A.handled=none)(ht:a0g target=true)(sg:Sub g s.heap)(hv:RD g v (.list l))(Q:d8g→d8f→Prop)
 (h:∀I ws IS s',IterOK C A target I ws l.reverse IS→IS 0 g s'.heap→(∀b∈ws,s.heap.get? b=none)→Step [] s g s' g→Q (.ref I) s') :
  d8i (model C.prog C.w) A (call (.type "reversed") [v]) (fun v s₁=>d8i (model C.prog C.w) A (pyIter v) Q E s₁) E s:=by
 obtain⟨a,vs,rfl,hl,r⟩:=hv.listE;have hget:=Heap.get?_push_size s.heap (o:=revObj a ((vs.toArray.size:Int)-1)) rfl;refine call_reversed_list (a0f sg hl) (wpAny_pyIter_revIter (s:={ s with heap:=s.heap.push _ }) ⟨_,hget,rfl,rfl⟩ ?_)
 refine h _ _ _ _ (c5p hh ht hl r) ⟨.refl g,a3d sg (a0d _),_,hget,rfl,?_⟩ (fun b hb=>by simp at hb; subst hb; exact a0d _) (.ext (tk:=s.toks) (a0e _))
 have:=r.length
 simp[revObj,this]
theorem a8z:isSubtype (.type "range_iterator") (.type "reversed")=pure false:=by rw[isSubtype_type]; kernel_rfl
theorem a5t{r:Addr}{a b c:Int}{t u v:Tok}{n:Int}{Q:d8g→d8f→Prop}(hr:IsRange s.heap r a b c t u v)(hn:Builtin.Range.rangeSize a b c=n)
 (hs:(Builtin.Range.rangeFitsLong a&&Builtin.Range.rangeFitsLong b&&Builtin.Range.rangeFitsLong c&&Builtin.Range.rangeFitsLong (-c)&&Builtin.Range.rangeFitsLong (a-c)&&Builtin.Range.rangeFitsLong n)=true)
 (h:Q (.ref s.heap.objs.size) { s with heap:=s.heap.push { cls:=.type "range_iterator",data:=.fields #[rawInt (a+(n-1)*c),rawInt n,rawInt (-c)] } }) :
  d8i (model C.prog C.w) A (call (.builtin "range.__reversed__") [.ref r]) Q E s:=by
 have hT:s.TypeIs (.ref r) "range" :=⟨_,hr,rfl⟩;refine wpAny_call_entry F.slot_range_reversed hT F.entry_range_reversed ?_ (F.args_range_reversed_1 _);unfold Builtin.«range.__reversed__»;refine d8d (d8v (a:=Value.ref r) rfl ?_);refine d8d (m:=Builtin.Range.rangeFields (.ref r)) ?_;unfold Builtin.Range.rangeFields;refine d8d (d8w hr rfl (x:=.int a t) rfl ?_);refine d8d (d8v (a:=some a) rfl ?_);refine d8d (d8w hr rfl (x:=.int b u) rfl ?_);refine d8d (d8v (a:=some b) rfl ?_);refine d8d (d8w hr rfl (x:=.int c v) rfl ?_);refine d8d (d8v (a:=some c) rfl ?_);refine d8h ?_;dsimp only;rw[hn];simp only[hs,Bool.not_true,Bool.false_eq_true,if_false,if_true];unfold newFields;exact d8d (wpAny_newObj_type (d8h ⟨_,rfl,h⟩))
theorem a5j{r:Addr}{a b c:Int}{t u v:Tok}{n:Int}{Q₁:d8g→d8f→Prop}(hr:IsRange s.heap r a b c t u v)(hn:Builtin.Range.rangeSize a b c=n)
 (hs:(Builtin.Range.rangeFitsLong a&&Builtin.Range.rangeFitsLong b&&Builtin.Range.rangeFitsLong c&&Builtin.Range.rangeFitsLong (-c)&&Builtin.Range.rangeFitsLong (a-c)&&Builtin.Range.rangeFitsLong n)=true)
 (h:Q₁ (.ref s.heap.objs.size) { s with heap:=s.heap.push { cls:=.type "range_iterator",data:=.fields #[rawInt (a+(n-1)*c),rawInt n,rawInt (-c)] } }) :
  codeAny (model C.prog C.w) A (.call (.builtin "reversed.__new__") ⟨[.type "reversed",.ref r],[]⟩) (wants Q₁ E) s:=by
 have hT:s.TypeIs (.ref r) "range" :=⟨_,hr,rfl⟩;refine codeAny_of_tree ?_;show d8i _ A.in1 (do checkBuiltinCall "reversed.__new__" ⟨[.type "reversed",.ref r],[]⟩; again (.builtin "reversed.__new__" ⟨[.type "reversed",.ref r],[]⟩)) _ _ s
 refine d8d (d8v (F.newCall_reversed_1 _) (d8h ⟨plainId_quiet F.plain_reversed_new _,codeAny_builtin F.entry_reversed_new ?_⟩));rw[Around.under_plainId F.plain_reversed_new _];unfold Builtin.«reversed.__new__»;refine d8d (d8v (newClass_reversed _) ?_)
 try dsimp only
 refine d8d (d8v (a:=()) (by first|rfl|kernel_rfl) ?_)
 refine d8d (d8v (a:=()) (by first|rfl|kernel_rfl) ?_)
 try dsimp only
 refine d8d (wpAny_specialOf hT F.slot_range_reversed.lookup ?_)
 try dsimp only
 refine d8d (d8v (F.slot_range_reversed.bind _) ?_)
 try dsimp only
 first
 |rw[if_neg (show ¬((Value.builtin "range.__reversed__" == Value.none)=true) from Bool.false_ne_true)]
 |(show d8i _ _ (if (Value.builtin "range.__reversed__" == Value.none)=true then _ else _) _ _ _; rw[if_neg (show ¬((Value.builtin "range.__reversed__" == Value.none)=true) from Bool.false_ne_true)])
 refine d8d (wpAny_rule ?_);refine d8d (m:=runValue (.call (.builtin "range.__reversed__") ⟨[.ref r],[]⟩)) (show d8i _ _ (call (.builtin "range.__reversed__") [.ref r]) _ _ _ from a5t hr hn hs ?_)
 first
 |exact d8h h
 |exact d8d (d8h (d8h h))
theorem b5f{r:Addr}{n:Int}{t u v:Tok}{s₀:d8f}(hh:A.handled=none)(ht:a0g target=true)(sg:Sub g s.heap)(hr:IsRange s.heap r 0 n 1 t u v)(hn:0≤n∧n≤1000000)(x:Step [] s₀ g s g)(Q:d8g→d8f→Prop)
 (h:∀I ws IS s',IterOK C A target I ws (a2j n.toNat) IS→IS 0 g s'.heap→(∀b∈ws,s₀.heap.get? b=none)→Step [] s₀ g s' g→Q (.ref I) s') :
  d8i (model C.prog C.w) A (call (.type "reversed") [.ref r]) (fun v s₁=>d8i (model C.prog C.w) A (pyIter v) Q E s₁) E s:=by
 have hsz:Builtin.Range.rangeSize 0 n 1=n:=by rw[rangeSize_one]; split <;> (first|exact lc0 1 [] [_] (.e (.S Z0 (.z 0)) Z0)|exact lc2 1 [] [_] (.e (.z 0) Z0) (.a (.l (.z 0) Z0) (.l Z0 (.z 1000000))) (.n (.t (.z 0) Z0)) hn ‹_›|omega)
 have hget:=Heap.get?_push_size s.heap (o:={ cls:=.type "range_iterator",data:=.fields #[rawInt (0+(n-1)*1),rawInt n,rawInt (-1)] }) rfl;have hfin:d8i (model C.prog C.w) A (pyIter (.ref s.heap.objs.size)) Q E { s with heap:=s.heap.push { cls:=.type "range_iterator",data:=.fields #[rawInt (0+(n-1)*1),rawInt n,rawInt (-1)] } }:=by
  refine wpAny_pyIter_rangeiter (x:=0+(n-1)*1) (left:=n) (step:=-1) hget ?_;have hn0:s₀.heap.get? s.heap.objs.size=none:=by
   cases e:s₀.heap.get? s.heap.objs.size with
   |none=>rfl
   |some o=>exact((x.keep _ _ (by simp) e).none (a0d _)).elim
  have i1:=b1a (C:=C) (I:=s.heap.objs.size) (a:=(n.toNat:Int)-1) (c:=-1) (n:=n.toNat) hh ht;rw[c0k]at i1;refine h _ _ _ _ i1 ⟨a3d sg (a0d _),?_⟩ (fun b hb=>by simp at hb; subst hb; exact hn0) (x.tr (.ext (tk:=s.toks) (a0e _)))
  have e1:(0+(n-1)*1:Int)=(n.toNat:Int)-1+((0:Nat):Int) * -1:=by exact a2h (.e (.P (.z 0) (.n 1 1 (.S Z0 (.z 1)))) (.P (.S (.c (.u 0 Z0)) (.z 1)) (.n 1 (Int.neg 1) (.c (.k 0))))) (.a (.l (.z 0) Z0) (.l Z0 (.z 1000000))) hn
  have e2:n=(n.toNat:Int)-((0:Nat):Int):=by exact a2h (.e Z0 (.S (.c (.u 0 Z0)) (.c (.k 0)))) (.e (.P (.z 0) (.n 1 1 (.S Z0 (.z 1)))) (.P (.S (.c (.u 0 Z0)) (.z 1)) (.n 1 (Int.neg 1) (.c (.k 0))))) e1
  rw[e1]at hget;have hg2:rawInt n=rawInt ((n.toNat:Int)-((0:Nat):Int)):=congrArg rawInt e2;rw[hg2]at hget;rw[e1,hg2];exact hget
 refine callType_other (U:="range_iterator") (Q₁:=fun obj s₁=>obj=.ref s.heap.objs.size∧s₁={ s with heap:=s.heap.push { cls:=.type "range_iterator",data:=.fields #[rawInt (0+(n-1)*1),rawInt n,rawInt (-1)] } }) (by decide +kernel) F.create_reversed ⟨_,_,F.mro_reversed⟩ F.made_reversed a8z (F.typeCall_reversed_1 _) (a5j hr hsz ?_ ⟨rfl,rfl⟩) ?_
 ·simp only[Builtin.Range.rangeFitsLong,Bool.and_eq_true,decide_eq_true_eq]; exact a2h (.a (.a (.a (.a (.a (.a (.l (.z (- (2^63))) (.z 0)) (.t (.z 0) (.z (Int.pow 2 63)))) (.a (.l (.z (- (2^63))) Z0) (.t Z0 (.z (Int.pow 2 63))))) (.a (.l (.z (- (2^63))) (.z 1)) (.t (.z 1) (.z (Int.pow 2 63))))) (.a (.l (.z (- (2^63))) (.z (Int.neg 1))) (.t (.z (Int.neg 1)) (.z (Int.pow 2 63))))) (.a (.l (.z (- (2^63))) (.S (.z 0) (.z 1))) (.t (.S (.z 0) (.z 1)) (.z (Int.pow 2 63))))) (.a (.l (.z (- (2^63))) Z0) (.t Z0 (.z (Int.pow 2 63))))) (.a (.l (.z 0) Z0) (.l Z0 (.z 1000000))) hn
 ·rintro obj s₁ ⟨rfl,rfl⟩
  exact⟨⟨_,hget,rfl⟩,hfin⟩
end
end
section
section
variable {C:Cfg} {sc:SI} {env:Env} {g g' h h':Heap} {al:List Addr} {st:St} {A:d8q} {E:d8g→d8f→Prop} {s:d8f}
theorem b4v{l:List (Str×Nat)}(hn:(l.map (·.2)).Nodup){x y:Str}(hx:l.lookup x=some i)(hy:l.lookup y=some i):x=y:=by
 have h1:=d8k hx;have h2:=d8k hy;obtain⟨a,ha,e1⟩:=List.getElem_of_mem h1;obtain⟨b,hb,e2⟩:=List.getElem_of_mem h2;have e:(l.map (·.2))[a]'(by simpa using ha)=(l.map (·.2))[b]'(by simpa using hb):=by simp[e1,e2]
 have hab:=(List.getElem_inj (h₀:=by simpa using ha) (h₁:=by simpa using hb) hn).mp e
 subst hab;rw[e1]at e2;exact congrArg Prod.fst e2
theorem a3h{l:List (Str×Addr)}(hn:(l.map (·.2)).Nodup){x y:Str}{c d:Addr}(hx:l.lookup x=some c)(hy:l.lookup y=some d)(hxy:x≠y):c≠d:=fun e=>by
 subst e; exact hxy (b4v (l:=l) hn hx hy)
theorem c1b{st:St}{i j:Nat}{u:V}(h:j≠i):(st.set i u).get j=st.get j:=by
 unfold St.set St.get;simp only[List.getD_eq_getElem?_getD,List.getElem?_set];rw[if_neg (Ne.symm h)]
theorem a7h{st:St}{u:V}:(st.set i u).get i=u∨(st.set i u).get i=.undef:=by
 unfold St.set St.get;simp only[List.getD_eq_getElem?_getD,List.getElem?_set,if_true]
 by_cases hl:i<st.vars.length
 ·rw[if_pos hl]; exact .inl rfl
 ·rw[if_neg hl]; exact .inr rfl
structure SIOK(sc:SI):Prop where
 nd:(sc.ids.map (·.2)).Nodup
 kinds:∀x i,sc.ids.lookup x=some i→sc.names.lookup x=some .local∨sc.names.lookup x=some .cell∨sc.names.lookup x=some .free
theorem a0z{pos:Pos}{Q:d8g→d8f→Prop}(e:EnvOK sc env)(R:Rel C sc env g s.heap al st)(hi:sc.ids.lookup x=some i)(hu:st.get i ≠ .undef)
 (hd:(x==("__debug__" : Str))=false) (hc:(x==("__classdict__" : Str))=false) (h:∀v,InV C g al v (st.get i)→Q v s):d8i (model C.prog C.w) A (eval (.Name x pos) env) Q E s:=by
 rcases R.vars x i hi with h0|⟨v,hl,hv⟩
 ·exact absurd (h0 _ rfl) hu
 ·refine wpAny_Name ?_ hd
  rcases hl with⟨hk,m,hn,hm⟩|⟨hk,c,hcl,hcell⟩
  ·exact d8z e.kind hk hn hm (h v hv)
  ·rcases hk with hk|hk
   ·exact wpAny_loadName_cell e.kind hk hcl hcell (h v hv)
   ·exact wpAny_loadName_free e.kind hk hcl hcell (h v hv) hc
theorem a3i{u:V}(so:SIOK sc)(e:EnvOK sc env)(R:Rel C sc env g s.heap al st)(hi:sc.ids.lookup x=some i)(hk:sc.names.lookup x=some .local∨sc.names.lookup x=some .cell)
 (hv:InV C g al v u) (h:∀s' b,(b=env.locals∨(sc.names.lookup x=some .cell∧env.cells.lookup x=some b))→Step [b] s g s' g→Rel C sc env g s'.heap al (st.set i u)→Look env s'.heap x v→(∀y,y≠x→∀w,Look env s.heap y w→Look env s'.heap y w)→Q () s'):d8i (model C.prog C.w) A (storeName env x v) Q E s:=by
 have sep:∀{b:Addr} {h':Heap} {tk:Nat},b∈a4w env→g.get? b=none→Heap.SameBut b s.heap h'→
   (∃m,h'.Ns env.locals m)→(∀y,sc.names.lookup y=some .cell∨sc.names.lookup y=some .free→∃c v,env.cells.lookup y=some c∧h'.IsCell c v)→
   (Look env h' x v)→(∀y,y≠x→∀w,Look env s.heap y w→Look env h' y w)→(∃o,h'.get? b=some o)→
   Step [b] s g { s with heap:=h',toks:=tk } g∧Rel C sc env g h' al (st.set i u)∧Look env h' x v∧(∀y,y≠x→∀w,Look env s.heap y w→Look env h' y w):=by
  intro b h' tk hb hbg hs hns hcell hx hy hal;have hkb:∀c o,c≠b→s.heap.get? c=some o→h'.get? c=some o:=fun c o hc e=>(hs.2 c hc).trans e;have hgb:∀c o,g.get? c=some o→c≠b:=fun c o e q=>by rw[q,hbg]at e; cases e
  refine⟨⟨⟨h',tk,rfl⟩,.refl g,fun c o hc e=>.of (hkb c o (by simpa using hc) e),fun sg c o e=>hkb c o (hgb c o e) (sg c o e),fun _ _ _ _ e=>e,id⟩,?_,hx,hy⟩
  exact{
   sub:=fun c o e=>hkb c o (hgb c o e) (R.sub c o e)
   amb:=R.amb
   nd:=R.nd
   tabs:=fun P hP=>by
    obtain⟨h1,o,ho,hk⟩:=R.tabs P hP;exact⟨h1,o,hkb P o (fun q=>R.pta b hb (q▸hP)) ho,hk⟩
   ns:=hns
   cell:=hcell
   vars:=fun y j hj=>by
    by_cases hyx:y=x
    ·subst hyx
     rw[hi]at hj; cases hj
     rcases a7h (st:=st) (i:=i) (u:=u)with e|e
     ·exact .inr ⟨v,hx,by rw[e]; exact hv⟩
     ·exact .inl fun w hw=>by rw[e]at hw; exact hw.symm
    ·have hji:j≠i:=fun q=>hyx (b4v so.nd hj (q▸hi))
     rw[c1b hji]
     rcases R.vars y j hj with h0|⟨w,hl,hw⟩
     ·exact .inl h0
     ·exact .inr ⟨w,hy y hyx w hl,hw⟩
   olen:=R.olen
   own:=fun k o e=>by
    obtain⟨a,ha,q⟩:=R.own k o e;have hab:a≠b:=fun q'=>R.pal b hb (q'▸List.mem_of_getElem? ha);exact⟨a,ha,q.keep (.refl g) (fun ob e=>.of (hkb a ob hab e)) id⟩
   alnd:=R.alnd
   pnd:=R.pnd
   pgl:=R.pgl
   pgc:=R.pgc
   plt:=fun c hc=>by
    by_cases hcb:c=b
    ·subst hcb; exact hal
    ·obtain⟨o,ho⟩:=R.plt c hc; exact⟨o,hkb c o hcb ho⟩
   pal:=R.pal
   pta:=R.pta
   ata:=R.ata
   base:=R.base }
 have hnd:=List.nodup_cons.mp R.pnd;have cmem:∀{y c},env.cells.lookup y=some c→c∈env.cells.map (·.2):=fun hy=>List.mem_map.mpr ⟨_,d8k hy,rfl⟩
 rcases hk with hk|hk
 ·obtain⟨m,hm⟩:=R.ns
  have hkx:env.kindOf x=some .local:=by rw[e.kindOf,hk]
  refine wpAny_storeName_local hkx hm (fun h' hn hs=>?_) (by rw[e.kind]; rfl)
  obtain⟨a,b,c1,c2⟩:=sep (b:=env.locals) (tk:=s.toks+1) (.head _) R.pgl hs ⟨_,hn⟩
   (fun y hy=>by
    obtain⟨c,w,hc,o,ho,hd⟩:=R.cell y hy;exact⟨c,w,hc,o,(hs.2 c fun q=>hnd.1 (q▸cmem hc)).trans ho,hd⟩)
   (.inl ⟨hkx,_,hn,by simp⟩)
   (fun y hy w hl=>by
    rcases hl with⟨h1,m',hn',hm'⟩|⟨h1,c,hc,o,ho,hd⟩
    ·refine .inl ⟨h1,_,hn,?_⟩
     rw[if_neg hy]; exact(Heap.Ns.agree hm hn' y).trans hm'
    ·exact .inr ⟨h1,c,hc,o,(hs.2 c fun q=>hnd.1 (q▸cmem hc)).trans ho,hd⟩)
   (hn.imp fun _ h=>h.elim fun _ h=>h.elim fun _ h=>h.1)
  exact h _ _ (.inl rfl) a b c1 c2
 ·obtain⟨c,w,hc,hcell⟩:=R.cell x (.inl hk)
  have hkx:env.kindOf x=some .cell:=by rw[e.kindOf,hk]
  refine wpAny_storeName_cell e.kind hkx hc hcell fun h' hv' hs=>?_;have hcm:=cmem hc;have hLc:env.locals≠c:=fun q=>hnd.1 (q▸hcm);obtain⟨a,b,c1,c2⟩:=sep (b:=c) (tk:=s.toks) (List.mem_cons_of_mem _ hcm) (R.pgc x c hkx hc) hs
   (R.ns.imp fun _ hm=>hm.sameBut hs hLc)
   (fun y hy=>by
    obtain⟨d,w,hd,hw⟩:=R.cell y hy
    by_cases hyx:y=x
    ·subst hyx; rw[hc]at hd; cases hd; exact⟨c,some v,hc,hv'⟩
    ·exact⟨d,w,hd,hw.sameBut hs (Ne.symm (a3h hnd.2 hc hd (Ne.symm hyx)))⟩)
   (.inr ⟨.inl hkx,c,hc,hv'⟩)
   (fun y hy w hl=>by
    rcases hl with⟨h1,m',hn',hm'⟩|⟨h1,d,hd,hw⟩
    ·exact .inl ⟨h1,m',hn'.sameBut hs hLc,hm'⟩
    ·exact .inr ⟨h1,d,hd,hw.sameBut hs (Ne.symm (a3h hnd.2 hc hd (Ne.symm hy)))⟩)
   (hv'.imp fun _=>And.left)
  exact h _ _ (.inr ⟨hk,hc⟩) a b c1 c2
end
end
section
structure BRel(C:Cfg)(g h:Heap)(al:List Addr)(ow:List OV):Prop where
 sub:Sub g h
 amb:C.Amb g
 nd:ND g
 tabs:C.Tabs g h
 olen:al.length=ow.length
 own:∀(k:Nat) (o:OV),ow[k]?=some o→∃a,al[k]?=some a∧OwnOK g h a o
 alnd:al.Nodup
 ata:∀b∈al,b∉C.TA
 base:C.base <+: al
def FrOK(C:Cfg)(A:d8q)(env:Env)(g h:Heap)(al:List Addr):Prop:=∃fs,(A.frames=some fs∧∃e0 r,fs=e0::r∧e0.frame=env.frame)∧∀e∈fs,e.scope.kind ≠ .module∧∃L,e.frame=some L ∧
 (L=env.locals∨(g.get? L=none∧L∉al∧L∉C.TA∧L∉a4w env∧∃o es ep,h.get? L=some o∧o.data=.dict es ep))
theorem FrOK.step{C:Cfg}{g g':Heap}{s s':d8f}{al:List Addr}(f:FrOK C A env g s.heap al)(x:Step W s g s' g')
 (hW:∀b∈W,b∈a4w env∨b∈al∨b∈C.TA∨∀o,s.heap.get? b=some o→b8l o):FrOK C A env g' s'.heap al:=by
 obtain⟨fs,h1,h2⟩:=f;refine⟨fs,h1,fun e he=>?_⟩;obtain⟨h3,L,h4,h5⟩:=h2 e he;refine⟨h3,L,h4,h5.imp id fun h=>?_⟩;obtain⟨a1,a2,a3,a4,o,es,ep,a5,a6⟩:=h;have hm:L∉W:=fun hm=>by
  rcases hW L hm with h|h|h|h
  ·exact a4 h
  ·exact a2 h
  ·exact a3 h
  ·exact h o a5 es ep a6
 obtain⟨sl,e1,_⟩:=x.keep L o hm a5;exact⟨x.fresh L o hm a5 a1,a2,a3,a4,_,es,ep,e1,a6⟩
def FrB(C:Cfg)(A:d8q)(g h:Heap)(al:List Addr):Prop:=∃fs,A.frames=some fs∧∀e∈fs,e.scope.kind ≠ .module∧∃L,e.frame=some L ∧
 g.get? L=none∧L∉al∧L∉C.TA∧∃o es ep,h.get? L=some o∧o.data=.dict es ep
theorem FrB.deep{C:Cfg}{g h h1:Heap}{al:List Addr}(f:FrB C A g h al)(hk:env.scope.kind=.function)(hf:env.frame=some L)(hl:L=env.locals)(sb:∀b o,h.get? b=some o→h1.get? b=some o)(hp:∀b∈a4w env,g.get? b=none→h.get? b=none):FrOK C (A.deeper env) env g h1 al:=by
 obtain⟨fs,f1,f2⟩:=f;refine⟨env::fs,⟨by show A.frames.map _=_; rw[f1]; rfl,_,_,rfl,rfl⟩,fun e he=>?_⟩
 rcases List.mem_cons.mp he with rfl|he
 ·exact⟨by rw[hk]; simp,L,hf,.inl hl⟩
 ·obtain⟨k1,L,k2,k3,k4,k5,o',es,ep,k6,k7⟩:=f2 e he
  exact⟨k1,L,k2,.inr ⟨k3,k4,k5,fun hm=>(by rw[hp L hm k3]at k6; cases k6),o',es,ep,sb _ _ k6,k7⟩⟩
theorem FrOK.b{C:Cfg}{sc:SI}{g h:Heap}{al:List Addr}{st:St}(f:FrOK C A env g h al)(R:Rel C sc env g h al st):FrB C A g h al:=by
 obtain⟨fs,h1,h2⟩:=f;refine⟨fs,h1.1,fun e he=>?_⟩;obtain⟨h3,L,h4,h5⟩:=h2 e he;refine⟨h3,L,h4,?_⟩
 rcases h5 with rfl|⟨a1,a2,a3,_,a5⟩
 ·obtain⟨m,o,es,ep,ho,hd,_⟩:=R.ns
  exact⟨R.pgl,R.pal _ (.head _),R.pta _ (.head _),o,es,ep,ho,hd⟩
 ·exact⟨a1,a2,a3,a5⟩
structure Here(C:Cfg)(sc:SI)(hz:Bool)(n:Nat)(A:d8q)(env:Env)(g:Heap)(s:d8f)(al:List Addr)(st:St):Prop where
 ok:AOK A n st.hz g
 hz:hz=true→st.hz=true
 eok:EnvOK sc env
 rel:Rel C sc env g s.heap al st
 fr:FrOK C A env g s.heap al
structure Aft(C:Cfg)(sc:SI)(env:Env)(al:List Addr)(g:Heap)(s:d8f)(st:St)(g':Heap)(s':d8f)(st':St):Prop where
 vars:st'.vars=st.vars
 hz:st'.hz=st.hz
 rel:Rel C sc env g' s'.heap al st'
 step:Step (al++C.TA) s g s' g'
noncomputable def InVs(C:Cfg)(g:Heap)(al:List Addr):List d8g→List V→Prop
 |[],[]=>True
 |v::vs,u::us=>InV C g al v u∧InVs C g al vs us
 |_,_=>False
structure Ck where
 fname:Nat→Option Str
 gi:List (Str×Int)
 gs:List (Str×Str)
 fcl:Nat→Bool:=fun _=>false
noncomputable def bnames:List Str:=["len", "sum", "min", "max", "abs", "divmod", "isinstance", "int", "range", "enumerate", "zip", "reversed", "next", "iter", "str", "StopIteration", "ZeroDivisionError"]
noncomputable def d8c(x:Str):Option d8g:=bootBuiltins x
structure Good(C:Cfg)(k:Ck):Prop where
 gi:∀x i,k.gi.lookup x=some i→∃t,C.mg x=some (.int i t)
 gs:∀x i,k.gs.lookup x=some i→∃t,C.mg x=some (.str i t)
 fn:∀f x,k.fname f=some x→C.mg x=some (C.fnv f)
 fo:∀f x,k.fname f=some x→∃a o fd,C.fnv f=.ref a∧o.data=.func fd∧∀g,C.Amb g→g.get? a=some o
 bn:∀x∈bnames,C.mg x=none
 fc:∀f,k.fcl f=true→∃a o fd,C.fnv f=.ref a∧o.data=.func fd∧∀g,C.Amb g→g.get? a=some o
def a4c(C:Cfg)(Γ:Ctx)(n:Nat):Prop:=∀(f:Nat) (A:d8q) (g:Heap) (s:d8f) (al:List Addr) (ow:List OV) (hz:Bool) (ps:List d8g) (ks:List Str) (kvs:List d8g) (us:List V)
 (Eh:d8g→d8f→Prop) (Q:V→List OV→Prop) (Q':d8g→d8f→Prop),AOK A n hz g→BRel C g s.heap al ow→FrB C A g s.heap al→ks.length=kvs.length→InVs C g al (ps++kvs) us→Γ f hz ks us ow Q→
 (∀v u ow' s' g',BRel C g' s'.heap al ow'→Step (al++C.TA) s g s' g'→InV C g' al v u→Q u ow'→Q' v s')→
 d8i (model C.prog C.w) A (call (C.fnv f) ps (ks.zip kvs)) Q' Eh s
section
variable {C:Cfg} {sc:SI} {env:Env} {g g' g'' h h':Heap} {al:List Addr} {st st' st'':St} {s s' s'':d8f} {hz:Bool} {n:Nat} {A:d8q} {Eh:d8g→d8f→Prop}
theorem InVs.mono:∀{vs:List d8g} {us:List V},Sub g g'→InVs C g al vs us→InVs C g' al vs us
 |[],[]=>fun _ _=>trivial
 |_::_,_::_=>fun s h=>⟨h.1.mono s,InVs.mono s h.2⟩
 |[],_::_=>fun _ h=>h.elim
 |_::_,[]=>fun _ h=>h.elim
theorem InVs.len:∀{vs:List d8g} {us:List V},InVs C g al vs us→vs.length=us.length
 |[],[]=>fun _=>rfl
 |_::_,_::_=>fun h=>by simp[InVs.len h.2]
 |[],_::_=>fun h=>h.elim
 |_::_,[]=>fun h=>h.elim
theorem InVs.append:∀{vs ws:List d8g} {us xs:List V},InVs C g al vs us→InVs C g al ws xs→InVs C g al (vs++ws) (us++xs)
 |[],_,[],_,_,k=>k
 |_::_,_,_::_,_,h,k=>⟨h.1,InVs.append h.2 k⟩
 |[],_,_::_,_,h,_=>h.elim
 |_::_,_,[],_,h,_=>h.elim
theorem Rel.b(R:Rel C sc env g h al st):BRel C g h al st.own:=⟨R.sub,R.amb,R.nd,R.tabs,R.olen,R.own,R.alnd,R.ata,R.base⟩
theorem Rel.back{ow:List OV}(R:Rel C sc env g s.heap al st)(x:Step W s g s' g')(hW:∀b∈W,b∈al∨b∈C.TA∨s.heap.get? b=none)(B:BRel C g' s'.heap al ow) :
  Rel C sc env g' s'.heap al { st with own:=ow }:=by
 have out:∀b o,b∉al++C.TA→s.heap.get? b=some o→b∉W:=fun b o hb e hm=>by
  simp only[List.mem_append,not_or]at hb
  rcases hW b hm with h|h|h
  ·exact hb.1 h
  ·exact hb.2 h
  ·rw[h]at e; cases e
 refine R.up x.sub B.nd B.sub B.tabs (fun b o hb e=>x.keep b o (out b o hb e) e) (fun b hb hg=>?_) B.olen B.own;obtain⟨o,ho⟩:=R.plt b hb;exact x.fresh b o (out b o (by simp only[List.mem_append,not_or]; exact⟨R.pal b hb,R.pta b hb⟩) ho) ho hg
theorem Aft.refl(R:Rel C sc env g s.heap al st):Aft C sc env al g s st g s st:=⟨rfl,rfl,R,.refl⟩
theorem Aft.trans(x:Aft C sc env al g s st g' s' st')(y:Aft C sc env al g' s' st' g'' s'' st''):Aft C sc env al g s st g'' s'' st'':=
 ⟨y.vars.trans x.vars,y.hz.trans x.hz,y.rel,x.step.tr y.step⟩
theorem Here.go(H:Here C sc hz n A env g s al st)(x:Aft C sc env al g s st g' s' st'):Here C sc hz n A env g' s' al st':=
 ⟨x.hz.symm▸H.ok.mono x.step.sub,fun e=>x.hz.trans (H.hz e),H.eok,x.rel,H.fr.step x.step fun b hb=>(List.mem_append.mp hb).elim (fun h=>.inr (.inl h)) fun h=>.inr (.inr (.inl h))⟩
theorem Here.hh(H:Here C sc hz n A env g s al st)(e:hz=true):A.handled=none:=H.ok.none (H.hz e)
theorem Here.to(H:Here C sc hz n A env g s al st){t:Sem d8g}(ht:To C A Eh g s t d)(k:∀v s' g',Aft C sc env al g s st g' s' st→RD g' v d→Q' v s') :
  d8i (model C.prog C.w) A t Q' Eh s:=ht Q' fun v s' g' x sb r=>k v s' g' ⟨rfl,rfl,H.rel.step x sb,x.nil⟩ r
theorem Here.stay(H:Here C sc hz n A env g s al st)(s':d8f)(x:Step [] s g s' g)(sb:Sub g s'.heap):Aft C sc env al g s st g s' st:=⟨rfl,rfl,H.rel.step x sb,x.nil⟩
end
def SE(C:Cfg)(Γ:Ctx)(sc:SI)(n:Nat)(hz:Bool)(e:E)(x:Expr):Prop:=
 ∀(A:d8q) (env:Env) (g:Heap) (s:d8f) (al:List Addr) (st:St) (Eh:d8g→d8f→Prop) (Q:V→St→Prop) (Q':d8g→d8f→Prop),Here C sc hz n A env g s al st→wpE Γ e st Q→
  (∀v u st' s' g',Aft C sc env al g s st g' s' st'→InV C g' al v u→Q u st'→Q' v s')→d8i (model C.prog C.w) A (eval x env) Q' Eh s
def ST(C:Cfg)(Γ:Ctx)(sc:SI)(n:Nat)(hz:Bool)(e:E)(x:Expr):Prop:=
 ∀(A:d8q) (env:Env) (g:Heap) (s:d8f) (al:List Addr) (st:St) (Eh:d8g→d8f→Prop) (Q:Bool→St→Prop) (Q':Bool→d8f→Prop),Here C sc hz n A env g s al st→wpT Γ e st Q→
  (∀b st' s' g',Aft C sc env al g s st g' s' st'→Q b st'→Q' b s')→d8i (model C.prog C.w) A (PySem.isTrue x env (eval x env)) Q' Eh s
def SO(C:Cfg)(Γ:Ctx)(sc:SI)(n:Nat)(hz:Bool)(e:O)(x:Option Expr):Prop:=
 ∀(A:d8q) (env:Env) (g:Heap) (s:d8f) (al:List Addr) (st:St) (Eh:d8g→d8f→Prop) (Q:Option Int→St→Prop) (Q':d8g→d8f→Prop),Here C sc hz n A env g s al st→wpO Γ e st Q→
  (∀v u st' s' g',Aft C sc env al g s st g' s' st'→PartV v u→Q u st'→Q' v s')→d8i (model C.prog C.w) A (evalPart x env) Q' Eh s
def SEs(C:Cfg)(Γ:Ctx)(sc:SI)(n:Nat)(hz:Bool)(e:Es)(xs:List Expr):Prop:=
 ∀(A:d8q) (env:Env) (g:Heap) (s:d8f) (al:List Addr) (st:St) (Eh:d8g→d8f→Prop) (pos:Pos) (acc:List d8e) (Q:List d8e→St→Prop) (Q':List d8g→d8f→Prop),Here C sc hz n A env g s al st→wpEs Γ e st acc Q→
  (∀vs us st' s' g',Aft C sc env al g s st g' s' st'→RDs g' vs us→vs.length=xs.length→Q (acc++us) st'→Q' vs s')→d8i (model C.prog C.w) A (spliced (d8x pos (d8s xs env))) Q' Eh s
def SAs(C:Cfg)(Γ:Ctx)(sc:SI)(n:Nat)(hz:Bool)(e:Es)(xs:List Expr):Prop:=
 ∀(A:d8q) (env:Env) (g:Heap) (s:d8f) (al:List Addr) (st:St) (Eh:d8g→d8f→Prop) (pos:Pos) (acc:List V) (Q:List V→St→Prop) (Q':List d8g→d8f→Prop),Here C sc hz n A env g s al st→wpAs Γ e st acc Q→
  (∀vs us st' s' g',Aft C sc env al g s st g' s' st'→InVs C g' al vs us→Q (acc++us) st'→Q' vs s')→d8i (model C.prog C.w) A (spliced (d8x pos (d8s xs env))) Q' Eh s
def SRs(C:Cfg)(Γ:Ctx)(sc:SI)(n:Nat)(hz:Bool)(e:Es)(xs:List Expr):Prop:=
 ∀(A:d8q) (env:Env) (g:Heap) (s:d8f) (al:List Addr) (st:St) (Eh:d8g→d8f→Prop) (pos:Pos) (acc:List V) (Q:List V→St→Prop) (Q':List d8g→d8f→Prop),Here C sc hz n A env g s al st→wpRs Γ e st acc Q→
  (∀vs us st' s' g',Aft C sc env al g s st g' s' st'→InVs C g' al vs us→vs.length=xs.length→Q (acc++us) st'→Q' vs s')→d8i (model C.prog C.w) A (spliced (d8x pos (d8s xs env))) Q' Eh s
def SKs(C:Cfg)(Γ:Ctx)(sc:SI)(n:Nat)(hz:Bool)(ks:List Str)(e:Es)(xs:List Keyword):Prop:=
 ∀(A:d8q) (env:Env) (g:Heap) (s:d8f) (al:List Addr) (st:St) (Eh:d8g→d8f→Prop) (pos:Pos) (acc:List V) (Q:List V→St→Prop) (Q':List d8g→d8f→Prop),Here C sc hz n A env g s al st→wpRs Γ e st acc Q→
  (∀vs us st' s' g',Aft C sc env al g s st g' s' st'→InVs C g' al vs us→vs.length=ks.length→Q (acc++us) st'→Q' vs s')→d8i (model C.prog C.w) A (evalAll ((backToKw pos (keywordEach xs env)).map (·.2))) Q' Eh s
section
variable {C:Cfg} {Γ:Ctx} {sc:SI} {n:Nat} {hz:Bool} {k:Ck}
theorem b7g{i:Int}{x1:Nat}{pos:Pos}:SE C Γ sc n hz (.int i) (.Constant (.int i) x1 pos):=fun A env g s al st Eh Q Q' H hw kk=>by
 refine wpAny_Constant_int ?_;exact kk _ (.dat (.int i)) st _ g (H.stay _ Step.toks H.rel.sub) (RD.int i _) hw
theorem c7q{i:Str}{x1:Nat}{pos:Pos}:SE C Γ sc n hz (.str i) (.Constant (.str i) x1 pos):=fun A env g s al st Eh Q Q' H hw kk=>by
 refine wpAny_Constant_str ?_;exact kk _ (.dat (.str i)) st _ g (H.stay _ Step.toks H.rel.sub) (RD.str i _) hw
theorem d0l{b:Bool}{x1:Nat}{pos:Pos}:SE C Γ sc n hz (.bool b) (.Constant (.bool b) x1 pos):=fun A env g s al st Eh Q Q' H hw kk=>
 wpAny_Constant_bool (kk _ (.dat (.bool b)) st _ g (Aft.refl H.rel) (RD.bool b) hw)
theorem c8z{x1:Nat}{pos:Pos}:SE C Γ sc n hz .none (.Constant .none x1 pos):=fun A env g s al st Eh Q Q' H hw kk=>
 wpAny_Constant_none (kk _ (.dat .none) st _ g (Aft.refl H.rel) RD.none hw)
theorem d1k{st:St}{Q:V→St→Prop}(h:match st.get i with|.undef=>False|v=>Q v st):st.get i ≠ .undef∧Q (st.get i) st:=by
 cases e:st.get i <;> rw[e]at h <;> first|exact h.elim|exact⟨by simp,h⟩
theorem c6u {pos:Pos} (hi:sc.ids.lookup x=some i) (hd:(x==("__debug__" : Str))=false) (hc:(x==("__classdict__" : Str))=false) :
  SE C Γ sc n hz (.var i) (.Name x pos):=fun A env g s al st Eh Q Q' H hw kk=>by
 obtain⟨h1,h2⟩:=d1k hw;exact a0z H.eok H.rel hi h1 hd hc fun v hv=>kk _ _ st _ g (Aft.refl H.rel) hv h2
theorem a1f{s:d8f}{al:List Addr}{st:St}{pos:Pos}(H:Here C sc hz n A env g s al st)
 (hk:sc.names.lookup x=some .globalImplicit) (hd:(x==("__debug__" : Str))=false) (hv:C.mg x=some v) (h:Q' v s):d8i (model C.prog C.w) A (eval (.Name x pos) env) Q' Eh s:=by
 refine Name_function_global H.eok.kind (by rw[H.eok.kindOf]; exact hk) ?_ hd
 exact loadGlobal_global (by rw[H.eok.globals]; exact(H.rel.amb.T.keeps H.rel.sub).g) hv h
theorem a2g{s:d8f}{al:List Addr}{st:St}{pos:Pos}(G:Good C k)(H:Here C sc hz n A env g s al st)
 (hk:sc.names.lookup x=some .globalImplicit) (hd:(x==("__debug__" : Str))=false) (hb:x∈bnames) (hv:bootBuiltins x=some v) (h:Q' v s):d8i (model C.prog C.w) A (eval (.Name x pos) env) Q' Eh s:=by
 refine Name_function_global H.eok.kind (by rw[H.eok.kindOf]; exact hk) ?_ hd
 have T:=H.rel.amb.T.keeps H.rel.sub;refine loadGlobal_builtin (by rw[H.eok.globals]; exact T.g) (G.bn x hb) (by rw[H.eok.builtins]; exact T.b) ?_ h
 rw[T.builtins x (by rintro rfl; revert hb; decide)]; exact hv
theorem c9u {i:Int} {pos:Pos} (G:Good C k) (hi:k.gi.lookup x=some i) (hk:sc.names.lookup x=some .globalImplicit) (hd:(x==("__debug__" : Str))=false) :
  SE C Γ sc n hz (.gint x i) (.Name x pos):=fun A env g s al st Eh Q Q' H hw kk=>by
 obtain⟨t,ht⟩:=G.gi x i hi;exact a1f H hk hd ht (kk _ (.dat (.int i)) st _ g (Aft.refl H.rel) (RD.int i t) hw)
theorem c8w {i:Str} {pos:Pos} (G:Good C k) (hi:k.gs.lookup x=some i) (hk:sc.names.lookup x=some .globalImplicit) (hd:(x==("__debug__" : Str))=false) :
  SE C Γ sc n hz (.gstr x i) (.Name x pos):=fun A env g s al st Eh Q Q' H hw kk=>by
 obtain⟨t,ht⟩:=G.gs x i hi;exact a1f H hk hd ht (kk _ (.dat (.str i)) st _ g (Aft.refl H.rel) (RD.str i t) hw)
theorem d1v {pos:Pos} (G:Good C k) (hi:k.fname f=some x) (hk:sc.names.lookup x=some .globalImplicit) (hd:(x==("__debug__" : Str))=false) :
  SE C Γ sc n hz (.gfn f) (.Name x pos):=fun A env g s al st Eh Q Q' H hw kk=>
 a1f H hk hd (G.fn f x hi) (kk _ (.fn f) st _ g (Aft.refl H.rel) rfl hw)
theorem c6t{o:Op2}{a b:E}{x y:Expr}{pos:Pos}(ha:SE C Γ sc n hz a x)(hb:SE C Γ sc n hz b y):SE C Γ sc n hz (.bin o a b) (.BinOp x (c4f o) y pos):=fun A env g s al st Eh Q Q' H hw kk=>by
 refine wpAny_BinOp (ha A env g s al st Eh _ _ H hw fun va ua st1 s1 g1 a1 i1 hw1=>hb A env g1 s1 al st1 Eh _ _ (H.go a1) hw1 fun vb ub st2 s2 g2 a2 i2 hw2=>?_)
 split at hw2
 ·rename_i x y ex ey
  obtain⟨d,hq,ht⟩:=b8t (C:=C) (A:=A) (E:=Eh) a2.rel.sub (a2.rel.dat? (i1.mono a2.step.sub) ex) (a2.rel.dat? i2 ey) hw2;exact((H.go a1).go a2).to ht fun v s' g' a3 r=>kk v (.dat _) _ _ _ (a1.trans (a2.trans a3)) r hq
 ·exact hw2.elim
theorem a8y{d:Option d8e}{Q:Bool→Prop}(h:truthV d Q):∃x,d=some x∧a6g x Q:=by
 cases d with
 |none=>exact h.elim
 |some x=>exact⟨x,rfl,h⟩
theorem d3x{a:E}{x:Expr}{pos:Pos}(ha:SE C Γ sc n hz a x):SE C Γ sc n hz (.not a) (.UnaryOp .Not x pos):=fun A env g s al st Eh Q Q' H hw kk=>by
 refine wpAny_UnaryOp (ha A env g s al st Eh _ _ H hw fun va ua st1 s1 g1 a1 i1 hw1=>?_);obtain⟨d,e,ht⟩:=a8y hw1;obtain⟨b,hq,ht⟩:=c1d (C:=C) (A:=A) (E:=Eh) a1.rel.sub (a1.rel.dat? i1 e) ht;exact(H.go a1).to ht fun v s' g' a3 r=>kk v (.dat _) _ _ _ (a1.trans a3) r hq
theorem c2w{a:E}{x:Expr}{pos:Pos}(ha:SE C Γ sc n hz a x):SE C Γ sc n hz (.neg a) (.UnaryOp .USub x pos):=fun A env g s al st Eh Q Q' H hw kk=>by
 refine wpAny_UnaryOp (ha A env g s al st Eh _ _ H hw fun va ua st1 s1 g1 a1 i1 hw1=>?_)
 split at hw1
 ·rename_i i e
  exact(H.go a1).to (c2b (C:=C) (A:=A) (E:=Eh) a1.rel.sub (a1.rel.dat? i1 e)) fun v s' g' a3 r=>kk v (.dat _) _ _ _ (a1.trans a3) r hw1
 ·exact hw1.elim
theorem d3j{a:E}{x:Expr}{pos:Pos}(ha:SE C Γ sc n hz a x):SE C Γ sc n hz (.inv a) (.UnaryOp .Invert x pos):=fun A env g s al st Eh Q Q' H hw kk=>by
 refine wpAny_UnaryOp (ha A env g s al st Eh _ _ H hw fun va ua st1 s1 g1 a1 i1 hw1=>?_)
 split at hw1
 ·rename_i i e
  exact(H.go a1).to (c2i (C:=C) (A:=A) (E:=Eh) a1.rel.sub (a1.rel.dat? i1 e)) fun v s' g' a3 r=>kk v (.dat _) _ _ _ (a1.trans a3) r hw1
 ·exact hw1.elim
theorem b7f{s:d8f}{al:List Addr}{st:St}{u:V}{Q:Bool→Prop}{Q':Bool→d8f→Prop}(H:Here C sc hz n A env g s al st)(hv:InV C g al v u)
 (h:truthV (st.dat? u) Q) (kk:∀b s',Aft C sc env al g s st g s' st→Q b→Q' b s'):d8i (model C.prog C.w) A (truthy v) Q' Eh s:=by
 obtain⟨d,e,ht⟩:=a8y h;obtain⟨b,hq,ht⟩:=a5l (C:=C) (A:=A) (E:=Eh) (H.rel.dat? hv e) ht;exact ht _ fun t=>kk b _ (H.stay _ Step.toks H.rel.sub) hq
theorem d4z{a b:E}{x y:Expr}{pos:Pos}(ha:SE C Γ sc n hz a x)(hb:SE C Γ sc n hz b y):SE C Γ sc n hz (.or a b) (.BoolOp .Or [x,y] pos):=fun A env g s al st Eh Q Q' H hw kk=>by
 refine BoolOp_or (ha A env g s al st Eh _ _ H hw fun va ua st1 s1 g1 a1 i1 hw1=>b7f (H.go a1) i1 hw1 fun t s2 a2 hw2=>?_);cases t with
 |false=>exact BoolOp_one (hb A env _ _ al _ Eh _ _ ((H.go a1).go a2) hw2 fun v u st' s' g' a3 i3 hq=>kk v u st' s' g' (a1.trans (a2.trans a3)) i3 hq)
 |true=>exact kk _ _ _ _ _ (a1.trans a2) i1 hw2
theorem d2o{o:Cmp}{a b:E}{x y:Expr}{pos:Pos}(ha:SE C Γ sc n hz a x)(hb:SE C Γ sc n hz b y)(hm:behindInMarks (a9x o) y=false):SE C Γ sc n hz (.cmp o a b) (.Compare x [a9x o] [y] pos):=fun A env g s al st Eh Q Q' H hw kk=>by
 refine wpAny_Compare1 (ha A env g s al st Eh _ _ H hw fun va ua st1 s1 g1 a1 i1 hw1=>hb A env g1 s1 al st1 Eh _ _ (H.go a1) hw1 fun vb ub st2 s2 g2 a2 i2 hw2=>?_) hm
 split at hw2
 ·rename_i x y ex ey
  obtain⟨d,hq,ht⟩:=a6w (C:=C) (A:=A) (E:=Eh) ((H.go a1).go a2).ok a2.rel.sub (a2.rel.dat? (i1.mono a2.step.sub) ex) (a2.rel.dat? i2 ey) hw2;exact((H.go a1).go a2).to ht fun v s' g' a3 r=>kk v (.dat _) _ _ _ (a1.trans (a2.trans a3)) r hq
 ·exact hw2.elim
theorem d2h{c a b:E}{z x y:Expr}{pos:Pos}(hc:ST C Γ sc n hz c z)(ha:SE C Γ sc n hz a x)(hb:SE C Γ sc n hz b y):SE C Γ sc n hz (.ite c a b) (.IfExp z x y pos):=fun A env g s al st Eh Q Q' H hw kk=>by
 refine wpAny_IfExp (hc A env g s al st Eh _ _ H hw fun t st1 s1 g1 a1 hw1=>?_);cases t with
 |true=>exact ha A env _ _ al _ Eh _ _ (H.go a1) hw1 fun v u st' s' g' a3 i3 hq=>kk v u st' s' g' (a1.trans a3) i3 hq
 |false=>exact hb A env _ _ al _ Eh _ _ (H.go a1) hw1 fun v u st' s' g' a3 i3 hq=>kk v u st' s' g' (a1.trans a3) i3 hq
theorem c7e{a i:E}{x y:Expr}{pos:Pos}(ha:SE C Γ sc n hz a x)(hi:SE C Γ sc n hz i y):SE C Γ sc n hz (.idx a i) (.Subscript x y pos):=fun A env g s al st Eh Q Q' H hw kk=>by
 refine Subscript_ (ha A env g s al st Eh _ _ H hw fun va ua st1 s1 g1 a1 i1 hw1=>hi A env g1 s1 al st1 Eh _ _ (H.go a1) hw1 fun vb ub st2 s2 g2 a2 i2 hw2=>?_);obtain⟨d,hq,ht⟩:=c3d (C:=C) (A:=A) (E:=Eh) (value:=x) (slice:=y) a2.rel.sub (i1.mono a2.step.sub) (fun d e=>a2.rel.dat? (i1.mono a2.step.sub) e) (fun d e=>a2.rel.dat? i2 e) hw2;exact((H.go a1).go a2).to ht fun v s' g' a3 r=>kk v (.dat _) _ _ _ (a1.trans (a2.trans a3)) r hq
theorem c9v:SO C Γ sc n hz .none none:=fun A env g s al st Eh Q Q' H hw kk=>wpAny_evalPart_none (kk _ none st _ g (Aft.refl H.rel) rfl hw)
theorem c8i{a:E}{x:Expr}(ha:SE C Γ sc n hz a x):SO C Γ sc n hz (.some a) (some x):=fun A env g s al st Eh Q Q' H hw kk=>by
 refine wpAny_evalPart_some (ha A env g s al st Eh _ _ H hw fun va ua st1 s1 g1 a1 i1 hw1=>?_)
 split at hw1
 ·rename_i i e
  obtain⟨t,ht⟩:=RD.intE (a1.rel.dat? i1 e);exact kk _ (some i) st1 _ _ a1 ⟨t,ht⟩ hw1
 ·exact hw1.elim
theorem d6r{a:E}{lo hi:O}{x:Expr}{y z:Option Expr}{p pos:Pos}(ha:SE C Γ sc n hz a x)(hl:SO C Γ sc n hz lo y)(hh:SO C Γ sc n hz hi z):SE C Γ sc n hz (.sl a lo hi) (.Subscript x (.Slice y z none p) pos):=fun A env g s al st Eh Q Q' H hw kk=>by
 refine Subscript_ (ha A env g s al st Eh _ _ H hw fun va ua st1 s1 g1 a1 i1 hw1=>wpAny_Slice (hl A env g1 s1 al st1 Eh _ _ (H.go a1) hw1 fun vb ub st2 s2 g2 a2 p2 hw2=>
  hh A env g2 s2 al st2 Eh _ _ ((H.go a1).go a2) hw2 fun vc uc st3 s3 g3 a3 p3 hw3=>wpAny_evalPart_none ?_))
 split at hw3
 ·rename_i d e
  have iv:=(i1.mono a2.step.sub).mono a3.step.sub;obtain⟨r,hq,ht⟩:=c5k (C:=C) (A:=A) (E:=Eh) (value:=x) (slice:=.Slice y z none p) a3.rel.sub (a3.rel.dat? iv e) p2 p3 hw3;refine ht _ fun v s' g' x4 sb r=>?_;exact kk v (.dat _) _ _ _ (a1.trans (a2.trans (a3.trans ⟨rfl,rfl,a3.rel.step x4 sb,x4.nil⟩))) r hq
 ·exact hw3.elim
theorem c9c:SEs C Γ sc n hz .nil []:=fun A env g s al st Eh pos acc Q Q' H hw kk=>spliced_nil (kk _ [] st _ g (Aft.refl H.rel) RDs.nil rfl ((List.append_nil acc).symm▸hw))
theorem c8l:SAs C Γ sc n hz .nil []:=fun A env g s al st Eh pos acc Q Q' H hw kk=>spliced_nil (kk [] [] st _ g (Aft.refl H.rel) trivial ((List.append_nil acc).symm▸hw))
theorem d0r:SRs C Γ sc n hz .nil []:=fun A env g s al st Eh pos acc Q Q' H hw kk=>spliced_nil (kk [] [] st _ g (Aft.refl H.rel) trivial rfl ((List.append_nil acc).symm▸hw))
theorem d0d:SKs C Γ sc n hz [] .nil []:=fun A env g s al st Eh pos acc Q Q' H hw kk=>kwAll_nil (kk [] [] st _ g (Aft.refl H.rel) trivial rfl ((List.append_nil acc).symm▸hw))
set_option backward.match.sparseCases false in
noncomputable def a0k:Expr→Bool|.Starred ..=>false|_=>true
theorem a0h{x:Expr}{xs:List Expr}(h:a0k x=true):d8s (x::xs) env=(false,eval x env)::d8s xs env:=by
 cases x <;> first|rfl|cases h
theorem a3l{st:St}{u:V}{Q:d8e→St→Prop}(h:keepV st u Q):keepV st u fun d st'=>st'.hz=st.hz∧Q d st':=by
 cases u with
 |own k=>
  dsimp only[keepV]at h ⊢;cases e:st.own[k]? with
  |none=>rw[e]at h; exact h.elim
  |some o=>rw[e]at h; cases o <;> first|exact⟨rfl,h⟩|exact h.elim
 |dat d=>exact⟨rfl,h⟩
 |_=>exact h
theorem d4a{st:St}{u:V}{Q:V→St→Prop}(h:argV st u Q):argV st u fun d st'=>st'.hz=st.hz∧Q d st':=by
 cases u with
 |own k=>
  dsimp only[argV]at h ⊢;cases e:st.own[k]? with
  |none=>rw[e]at h; exact h.elim
  |some o=>rw[e]at h; cases o <;> first|exact⟨rfl,h⟩|exact h.elim
 |undef=>exact h.elim
 |twin _=>exact h.elim
 |_=>exact⟨rfl,h⟩
theorem c4o{e:E}{es:Es}{x:Expr}{xs:List Expr}(hx:a0k x=true)(ha:SE C Γ sc n hz e x)(hb:SEs C Γ sc n hz es xs):SEs C Γ sc n hz (.cons e es) (x::xs):=fun A env g s al st Eh pos acc Q Q' H hw kk=>by
 refine spliced_more (ha A env g s al st Eh _ _ H hw fun va ua st1 s1 g1 a1 i1 hw1=>?_) (a0h hx);obtain⟨d,st2,g2,e2,⟨z2,hw2⟩,r2,x2,R2⟩:=a1.rel.keepV i1 (a3l hw1);have a2:Aft C sc env al g1 s1 st1 g2 s1 st2:=⟨e2,z2,R2,x2⟩;refine hb A env g2 s1 al st2 Eh pos _ _ _ ((H.go a1).go a2) hw2 fun vs us st3 s3 g3 a3 r3 hl hq=>?_;exact kk _ (d::us) st3 s3 g3 (a1.trans (a2.trans a3)) (.cons (r2.mono a3.step.sub) r3) (by simp[hl]) (by simpa using hq)
theorem c4b{e:E}{es:Es}{x:Expr}{xs:List Expr}(hx:a0k x=true)(ha:SE C Γ sc n hz e x)(hb:SAs C Γ sc n hz es xs):SAs C Γ sc n hz (.cons e es) (x::xs):=fun A env g s al st Eh pos acc Q Q' H hw kk=>by
 refine spliced_more (ha A env g s al st Eh _ _ H hw fun va ua st1 s1 g1 a1 i1 hw1=>?_) (a0h hx);obtain⟨d,st2,g2,e2,⟨z2,hw2⟩,r2,x2,R2⟩:=a1.rel.argV i1 (d4a hw1);have a2:Aft C sc env al g1 s1 st1 g2 s1 st2:=⟨e2,z2,R2,x2⟩;refine hb A env g2 s1 al st2 Eh pos _ _ _ ((H.go a1).go a2) hw2 fun vs us st3 s3 g3 a3 r3 hq=>?_;exact kk _ (d::us) st3 s3 g3 (a1.trans (a2.trans a3)) ⟨r2.mono a3.step.sub,r3⟩ (by simpa using hq)
theorem c5o{e:E}{es:Es}{x:Expr}{xs:List Expr}(hx:a0k x=true)(ha:SE C Γ sc n hz e x)(hb:SRs C Γ sc n hz es xs):SRs C Γ sc n hz (.cons e es) (x::xs):=fun A env g s al st Eh pos acc Q Q' H hw kk=>by
 refine spliced_more (ha A env g s al st Eh _ _ H hw fun va ua st1 s1 g1 a1 i1 hw1=>?_) (a0h hx);refine hb A env g1 s1 al st1 Eh pos _ _ _ (H.go a1) hw1 fun vs us st3 s3 g3 a3 r3 hl hq=>?_;exact kk _ (ua::us) st3 s3 g3 (a1.trans a3) ⟨i1.mono a3.step.sub,r3⟩ (by simp[hl]) (by simpa using hq)
theorem c5x{e:E}{es:Es}{y:Str}{x:Expr}{p:Pos}{xs:List Keyword}(ha:SE C Γ sc n hz e x)(hb:SKs C Γ sc n hz ks es xs):SKs C Γ sc n hz (y::ks) (.cons e es) (⟨some y,x,p⟩::xs):=fun A env g s al st Eh pos acc Q Q' H hw kk=>by
 refine kwAll_cons (ha A env g s al st Eh _ _ H hw fun va ua st1 s1 g1 a1 i1 hw1=>?_);refine hb A env g1 s1 al st1 Eh pos _ _ _ (H.go a1) hw1 fun vs us st3 s3 g3 a3 r3 hl hq=>?_;exact kk _ (ua::us) st3 s3 g3 (a1.trans a3) ⟨i1.mono a3.step.sub,r3⟩ (by simp[hl]) (by simpa using hq)
theorem c8b{es:Es}{xs:List Expr}{pos:Pos}(h:SEs C Γ sc n hz es xs)(hl:xs.length≤1000):SE C Γ sc n hz (.list es) (.List xs pos):=fun A env g s al st Eh Q Q' H hw kk=>by
 refine List_ (h A env g s al st Eh pos _ _ _ H hw fun vs us st1 s1 g1 a1 r1 hlen hq=>?_);have hq:Q (.dat (.list us)) st1:=by simpa using hq
 refine wpAny_newList ?_ (by rw[hlen]; exact Nat.le_trans hl (by decide))
 have hp:(s1.heap.push { cls:=.type "list",data:=.seq vs.toArray }).get? s1.heap.objs.size=some { cls:=.type "list",data:=.seq vs.toArray }:=Heap.get?_push_size _ rfl;have ha:=a0d s1.heap;obtain⟨g2,x1,x2,x3⟩:=Step.grow (tk:=s1.toks) a1.rel.sub (a0e _) ha (fun o e _=>by rw[hp]at e; cases e; rfl)
 refine kk _ (.dat _) st1 _ g2 (a1.trans ⟨rfl,rfl,a1.rel.step x1 x2,x1.nil⟩) (RD.list ⟨_,x3.trans hp,rfl,0,rfl⟩ (r1.mono x1.sub)) hq
theorem d2a{es:Es}{xs:List Expr}{k1:Nat}{pos:Pos}(h:SEs C Γ sc n hz es xs)(hl:xs.length≤1000):SE C Γ sc n hz (.tup es) (.Tuple xs k1 pos):=fun A env g s al st Eh Q Q' H hw kk=>by
 refine Tuple_ (h A env g s al st Eh pos _ _ _ H hw fun vs us st1 s1 g1 a1 r1 hlen hq=>?_);have hq:Q (.dat (.tuple us)) st1:=by simpa using hq
 refine wpAny_newTuple ?_ (by rw[hlen]; exact Nat.le_trans hl (by decide))
 have hp:(s1.heap.push { cls:=.type "tuple",data:=.seq vs.toArray }).get? s1.heap.objs.size=some { cls:=.type "tuple",data:=.seq vs.toArray }:=Heap.get?_push_size _ rfl;have ha:=a0d s1.heap;obtain⟨g2,x1,x2,x3⟩:=Step.grow (tk:=s1.toks) a1.rel.sub (a0e _) ha (fun o e hc=>by rw[hp]at e; cases e; simp at hc)
 refine kk _ (.dat _) st1 _ g2 (a1.trans ⟨rfl,rfl,a1.rel.step x1 x2,x1.nil⟩) (RD.tuple ⟨_,x3.trans hp,rfl,0,rfl⟩ (r1.mono x1.sub)) hq
end
end
section
section
variable {C:Cfg} {Γ:Ctx} {sc:SI} {n:Nat} {hz:Bool} {k:Ck}
theorem d3v{a:E}{x:Expr}{pos:Pos}(ha:ST C Γ sc n hz a x):ST C Γ sc n hz (.not a) (.UnaryOp .Not x pos):=fun A env g s al st Eh Q Q' H hw kk=>
 isTrue_not (ha A env g s al st Eh _ _ H hw fun b st' s' g' a1 hq=>kk _ st' s' g' a1 hq)
theorem d6l{a b:E}{x y:Expr}{pos:Pos}(ha:ST C Γ sc n hz a x)(hb:ST C Γ sc n hz b y):ST C Γ sc n hz (.or a b) (.BoolOp .Or [x,y] pos):=fun A env g s al st Eh Q Q' H hw kk=>by
 refine isTrue_or (ha A env g s al st Eh _ _ H hw fun t st1 s1 g1 a1 hw1=>?_);cases t with
 |false=>
  refine isTrue_or (hb A env _ _ al _ Eh _ _ (H.go a1) hw1 fun u st' s' g' a3 hq=>?_);cases u with
  |false=>exact isTrue_or_nil (kk false st' s' g' (a1.trans a3) hq)
  |true=>exact kk true st' s' g' (a1.trans a3) hq
 |true=>exact kk _ _ _ _ a1 hw1
theorem a3y{s:d8f}{b:Bool}{Q':Bool→d8f→Prop}(hv:RD g v (.bool b))(h:∀t,Q' b { s with toks:=t }):d8i (model C.prog C.w) A (truthy v) Q' Eh s:=by
 obtain rfl:=hv.boolE;obtain⟨c,hc,ht⟩:=a5l (C:=C) (A:=A) (E:=Eh) (s:=s) (g:=g) (v:=.bool b) (d:=.bool b) (Q:=fun c=>c=b) hv rfl;subst hc;exact ht _ h
theorem d1t{o:Cmp}{a b:E}{x y:Expr}{pos:Pos}(ha:SE C Γ sc n hz a x)(hb:SE C Γ sc n hz b y)(hm:behindInMarks (a9x o) y=false):ST C Γ sc n hz (.cmp o a b) (.Compare x [a9x o] [y] pos):=fun A env g s al st Eh Q Q' H hw kk=>by
 refine wpAny_isTrue_Compare1 (ha A env g s al st Eh _ _ H hw fun va ua st1 s1 g1 a1 i1 hw1=>hb A env g1 s1 al st1 Eh _ _ (H.go a1) hw1 fun vb ub st2 s2 g2 a2 i2 hw2=>?_) hm
 split at hw2
 ·rename_i x y ex ey
  obtain⟨d,hq,ht⟩:=a6w (C:=C) (A:=A) (E:=Eh) ((H.go a1).go a2).ok a2.rel.sub (a2.rel.dat? (i1.mono a2.step.sub) ex) (a2.rel.dat? i2 ey) hw2;exact((H.go a1).go a2).to ht fun v s' g' a3 r=>a3y r fun t=>kk d _ _ g' (a1.trans (a2.trans (a3.trans (Aft.trans (Aft.refl a3.rel) ⟨rfl,rfl,a3.rel.step (s':={ s' with toks:=t }) Step.toks a3.rel.sub,Step.toks.nil⟩)))) hq
 ·exact hw2.elim
set_option backward.match.sparseCases false in
noncomputable def c6x:Expr→Bool
 |.Name ..=>true|.Call ..=>true|.Subscript ..=>true|.BinOp ..=>true|_=>false
theorem c0h{x:Expr}{whole:Sem d8g}(h:c6x x=true):PySem.isTrue x env whole=(do let v ←whole; standAt x.pos; holding [v] (truthy v)):=by
 cases x <;> first|rfl|cases h
theorem a6o{a:E}{x:Expr}(hx:c6x x=true)(ha:SE C Γ sc n hz a x)(he:∀st Q,wpT Γ a st Q→wpE Γ a st fun v st=>truthV (st.dat? v) fun b=>Q b st):ST C Γ sc n hz a x:=fun A env g s al st Eh Q Q' H hw kk=>
 isTrue_plain (ha A env g s al st Eh _ _ H (he _ _ hw) fun va ua st1 s1 g1 a1 i1 hw1=>b7f (H.go a1) i1 hw1 fun t s2 a2 hw2=>kk t _ _ _ (a1.trans a2) hw2) (c0h hx)
theorem d0g{st:St}{Q:Bool→St→Prop}(h:wpT Γ (.var i) st Q):wpE Γ (.var i) st fun v st=>truthV (st.dat? v) fun b=>Q b st:=by
 have h:truthV (st.dat? (st.get i)) fun b=>Q b st:=h;show match st.get i with|.undef=>False|v=>truthV (st.dat? v) fun b=>Q b st
 cases e:st.get i with
 |undef=>rw[e]at h; exact h
 |_=>rw[e]at h; exact h
theorem c5m{as:Es}{st:St}{Q:Bool→St→Prop}(h:wpT Γ (.call f as) st Q):wpE Γ (.call f as) st fun v st=>truthV (st.dat? v) fun b=>Q b st:=h
theorem c9m{a i:E}{st:St}{Q:Bool→St→Prop}(h:wpT Γ (.idx a i) st Q):wpE Γ (.idx a i) st fun v st=>truthV (st.dat? v) fun b=>Q b st:=h
theorem d3y{m:M}{a:E}{as:Es}{st:St}{Q:Bool→St→Prop}(h:wpT Γ (.me m a as) st Q):wpE Γ (.me m a as) st fun v st=>truthV (st.dat? v) fun b=>Q b st:=h
theorem c7s{o:Op2}{a b:E}{st:St}{Q:Bool→St→Prop}(h:wpT Γ (.bin o a b) st Q):wpE Γ (.bin o a b) st fun v st=>truthV (st.dat? v) fun b=>Q b st:=h
theorem a8f{g g':Heap}{s s':d8f}{al:List Addr}{st:St}{ow:List OV}(R:Rel C sc env g s.heap al st)(B:BRel C g' s'.heap al ow)(x:Step (al++C.TA) s g s' g'):Aft C sc env al g s st g' s' { st with own:=ow }:=
 ⟨rfl,rfl,R.back x (fun b hb=>(List.mem_append.mp hb).elim .inl fun h=>.inr (.inl h)) B,x⟩
theorem a5g{pos:Pos}{a:Addr}{xs:List Expr}{s:d8f}(hd:o.data=.func fd)(hx:∃x r,xs=x::r∧a0k x=true)
 (h:d8i (model C.prog C.w) A (spliced (d8x pos (d8s xs env))) (fun vs s₁=>s₁.heap.get? a=some o∧d8i (model C.prog C.w) A (call (.ref a) vs) Q' Eh s₁) Eh s) :
  d8i (model C.prog C.w) A (callWith pos (.ref a) [] (d8x pos (d8s xs env)) []) Q' Eh s:=by
 obtain⟨x,r,rfl,hu⟩:=hx;exact callWith_def hd h (a0h hu)
theorem b9f {p pos:Pos} {es:Es} {xs:List Expr} (G:Good C k) (Γok:a4c C Γ n) (hf:k.fname f=some x) (hk:sc.names.lookup x=some .globalImplicit) (hd:(x==("__debug__" : Str))=false)
 (hx:∃x r,xs=x::r∧a0k x=true) (hs:SAs C Γ sc n hz es xs):SE C Γ sc n hz (.call f es) (.Call (.Name x p) xs [] pos):=fun A env g s al st Eh Q Q' H hw kk=>by
 obtain⟨a,o,fd,ea,hfd,ho⟩:=G.fo f x hf;refine d8u (a1f H hk hd (ea▸G.fn f x hf) (a5g hfd hx ?_));refine hs A env g s al st Eh pos [] _ _ H hw fun vs us st1 s1 g1 a1 i1 hw1=>⟨a1.rel.sub _ _ (ho _ a1.rel.amb),?_⟩;have i1':InVs C g1 al (vs++[]) us:=by simpa using i1
 have c:=Γok f A g1 s1 al st1.own st1.hz vs [] [] ([]++us) Eh _ Q' (H.go a1).ok a1.rel.b ((H.go a1).fr.b a1.rel) rfl (by simpa using i1) hw1 fun v u ow' s' g' B x3 iv hq=>?_
 ·rw[ea]at c; exact c
 ·exact kk v u _ s' g' (a1.trans (a8f a1.rel B x3)) iv hq.2
theorem c5t {i f:Nat} {p pos:Pos} {es:Es} {xs:List Expr} (G:Good C k) (Γok:a4c C Γ n) (hf:k.fcl f=true) (hi:sc.ids.lookup x=some i) (hd:(x==("__debug__" : Str))=false) (hc:(x==("__classdict__" : Str))=false)
 (hx:∃x r,xs=x::r∧a0k x=true) (hs:SAs C Γ sc n hz es xs):SE C Γ sc n hz (.callV i f es) (.Call (.Name x p) xs [] pos):=fun A env g s al st Eh Q Q' H hw kk=>by
 obtain⟨a,o,fd,ea,hfd,ho⟩:=G.fc f hf;dsimp only[wpE]at hw
 split at hw
 ·rename_i f' ef
  obtain⟨rfl,hw⟩:=hw;refine d8u (a0z H.eok H.rel hi (by rw[ef]; simp) hd hc fun v hv=>?_)
  rw[ef]at hv;have hv:v=C.fnv f':=hv;subst hv;rw[ea];refine a5g hfd hx ?_;refine hs A env g s al st Eh pos [] _ _ H hw fun vs us st1 s1 g1 a1 i1 hw1=>⟨a1.rel.sub _ _ (ho _ a1.rel.amb),?_⟩;have c:=Γok f' A g1 s1 al st1.own st1.hz vs [] [] ([]++us) Eh _ Q' (H.go a1).ok a1.rel.b ((H.go a1).fr.b a1.rel) rfl (by simpa using i1) hw1 fun v u ow' s' g' B x3 iv hq=>?_
  ·rw[ea]at c; exact c
  ·exact kk v u _ s' g' (a1.trans (a8f a1.rel B x3)) iv hq.2
 ·exact hw.elim
theorem b5p{pos:Pos}{a:Addr}{xs:List Expr}{kws:List Keyword}{s:d8f}(hd:o.data=.func fd)(hx:∃x r,xs=x::r∧a0k x=true)
 (hks:kws.map (·.arg)=ks.map some)
 (h:d8i (model C.prog C.w) A (spliced (d8x pos (d8s xs env))) (fun vs s₁=>d8i (model C.prog C.w) A (evalAll ((backToKw pos (keywordEach kws env)).map (·.2))) (fun ws s₂=>s₂.heap.get? a=some o∧d8i (model C.prog C.w) A (call (.ref a) vs (ks.zip ws)) Q' Eh s₂) Eh s₁) Eh s) :
  d8i (model C.prog C.w) A (callWith pos (.ref a) [] (d8x pos (d8s xs env)) (backToKw pos (keywordEach kws env))) Q' Eh s:=by
 obtain⟨x,r,rfl,hu⟩:=hx;have e1:∀kws:List Keyword,∀ks:List Str,kws.map (·.arg)=ks.map some→(backToKw pos (keywordEach kws env)).map (·.1)=ks.map some:=by
  intro kws
  induction kws with
  |nil=>intro ks h; simpa[backToKw,arm_keywordEach_nil]using h
  |cons q r ih=>
   intro ks h;obtain⟨nm,val,p⟩:=q;cases ks with
   |nil=>simp at h
   |cons y ys=>
    simp only[List.map_cons,List.cons.injEq]at h;rw[arm_keywordEach_cons]
    have:=ih ys h.2
    simp only[backToKw,List.map_cons,List.map_map]at this ⊢;rw[h.1];exact congrArg _ this
 have e2:=e1 kws ks hks;have e3:(backToKw pos (keywordEach kws env)).filterMap (·.1)=ks:=by
  have:(backToKw pos (keywordEach kws env)).filterMap (·.1)=((backToKw pos (keywordEach kws env)).map (·.1)).filterMap id:=by rw[List.filterMap_map]; rfl
  rw[this,e2,List.filterMap_map];simp
 have e4:((backToKw pos (keywordEach kws env)).all fun x=>x.1.isSome)=true:=by
  have:((backToKw pos (keywordEach kws env)).all fun x=>x.1.isSome)=((backToKw pos (keywordEach kws env)).map (·.1)).all Option.isSome:=by rw[List.all_map]; rfl
  rw[this,e2];simp
 have e5:d8x pos (d8s (x::r) env)=(false,eval x env)::d8x pos (d8s r env):=by rw[a0h hu]; rfl
 refine callWith_def_kw hd ?_;rw[e5]at h ⊢;refine evalArgs_kw e4 ?_;rw[e3];exact h
end
end
section
section
variable {C:Cfg} {Γ:Ctx} {sc:SI} {n:Nat} {hz:Bool} {k:Ck}
noncomputable def b7z:B→Str
 |.len=>"len" |.sum=>"sum" |.min=>"min" |.max=>"max" |.max2=>"max" |.abs=>"abs" |.divmod=>"divmod" |.isint=>"isinstance"
theorem b3j(b:B):b7z b∈bnames:=by cases b <;> decide
theorem b0q(b:B):bootBuiltins (b7z b)=some (d6p b):=by cases b <;> rfl
theorem c7x(b:B):∃id,d6p b=.builtin id:=by cases b <;> exact⟨_,rfl⟩
theorem b1q{env:Env}{g h:Heap}{al:List Addr}{st:St}(R:Rel C sc env g h al st):∀{vs:List d8g} {us:List V} {ds:List d8e},InVs C g al vs us→st.datAll us=some ds→RDHs g h vs ds
 |[],[],_,_,e=>by cases e; exact .nil
 |v::vs,u::us,ds,i,e=>by
  dsimp only[St.datAll]at e;cases e1:st.dat? u with
  |none=>rw[e1]at e; exact nomatch e
  |some d=>
   rw[e1]at e;cases e2:st.datAll us with
   |none=>rw[e2]at e; exact nomatch e
   |some ds'=>
    rw[e2]at e;exact Option.some.inj e ▸ .cons (R.dat? i.1 e1) (b1q R i.2 e2)
 |[],_::_,_,i,_=>i.elim
 |_::_,[],_,i,_=>i.elim
theorem a2u{pos:Pos}{id:String}{xs:List Expr}{s:d8f}(hx:(xs.all a0k)=true)(hne:xs≠[])
 (h:d8i (model C.prog C.w) A (spliced (d8x pos (d8s xs env))) (fun vs s₁=>d8i (model C.prog C.w) A (call (.builtin id) vs) Q' Eh s₁) Eh s) :
  d8i (model C.prog C.w) A (callWith pos (.builtin id) [] (d8x pos (d8s xs env)) []) Q' Eh s:=by
 have e1:∀xs:List Expr,(xs.all a0k)=true→((d8x pos (d8s xs env)).any (·.1))=false:=by
  intro xs
  induction xs with
  |nil=>intro _; rfl
  |cons x r ih=>
   intro h;simp only[List.all_cons,Bool.and_eq_true]at h;rw[a0h h.1];show(false||(d8x pos (d8s r env)).any (·.1))=false
   rw[ih h.2]; rfl
 refine callWith_builtin (e1 xs hx) ?_;obtain⟨x,r,rfl⟩:=List.exists_cons_of_ne_nil hne;simp only[List.all_cons,Bool.and_eq_true]at hx;have e5:d8x pos (d8s (x::r) env)=(false,eval x env)::d8x pos (d8s r env):=by rw[a0h hx.1]; rfl
 rw[e5]at h ⊢;exact evalArgs_plain h
theorem a8h{pos:Pos}{id:String}{xs:List Expr}{s:d8f}(hx:(xs.all a0k)=true)(hne:xs≠[])
 (h:d8i (model C.prog C.w) A (spliced (d8x pos (d8s xs env))) (fun vs s₁=>d8i (model C.prog C.w) A (call (.type id) vs) Q' Eh s₁) Eh s) :
  d8i (model C.prog C.w) A (callWith pos (.type id) [] (d8x pos (d8s xs env)) []) Q' Eh s:=by
 have e1:∀xs:List Expr,(xs.all a0k)=true→((d8x pos (d8s xs env)).any (·.1))=false:=by
  intro xs
  induction xs with
  |nil=>intro _; rfl
  |cons x r ih=>
   intro h;simp only[List.all_cons,Bool.and_eq_true]at h;rw[a0h h.1];show(false||(d8x pos (d8s r env)).any (·.1))=false
   rw[ih h.2]; rfl
 refine PySem.callWith_type (e1 xs hx) ?_;obtain⟨x,r,rfl⟩:=List.exists_cons_of_ne_nil hne;simp only[List.all_cons,Bool.and_eq_true]at hx;have e5:d8x pos (d8s (x::r) env)=(false,eval x env)::d8x pos (d8s r env):=by rw[a0h hx.1]; rfl
 rw[e5]at h ⊢;exact evalArgs_plain h
theorem d5o{b:B}{p pos:Pos}{es:Es}{xs:List Expr}(G:Good C k)(hb:biX b=[])(hz1:hz=true)(hk:sc.names.lookup (b7z b)=some .globalImplicit)(hx:(xs.all a0k)=true)(hne:xs≠[])
 (hs:SRs C Γ sc n hz es xs):SE C Γ sc n hz (.bi b es) (.Call (.Name (b7z b) p) xs [] pos):=fun A env g s al st Eh Q Q' H hw kk=>by
 obtain⟨id,eid⟩:=c7x b;refine d8u (a2g G H hk (by cases b <;> decide) (b3j b) (b0q b) ?_)
 rw[eid];refine a2u hx hne (hs A env g s al st Eh pos [] _ _ H hw fun vs us st1 s1 g1 a1 i1 hl hw1=>?_)
 split at hw1
 ·rename_i ds e
  have e:st1.datAll us=some ds:=by simpa using e
  obtain⟨d,hq,ht⟩:=b7q (C:=C) (A:=A) (E:=Eh) ((H.go a1).hh hz1) a1.rel.sub (b1q a1.rel i1 e) hw1;rw[eid,hb,List.append_nil]at ht;exact(H.go a1).to ht fun v s' g' a3 r=>kk v (.dat _) _ _ _ (a1.trans a3) r hq
 ·exact hw1.elim
theorem c6o{g h:Heap}{al:List Addr}{st:St}(R:Rel C sc env g h al st){u:V}(i:InV C g al v u)(e:st.dat? u=some d):NoD h v:=by
 intro a ea;subst ea;have hg:∀d:d8e,RD g (.ref a) d→∃o,h.get? a=some o∧(o.cls=.type "list" →o.dict=none):=fun d r=>by
  obtain⟨as,r⟩:=r;cases r with
  |list ho hc hd _=>exact⟨_,R.sub _ _ ho,fun h=>R.nd a _ ho h ⟨_,_,hd⟩⟩
  |tuple ho hc hd _=>exact⟨_,R.sub _ _ ho,fun h=>R.nd a _ ho h ⟨_,_,hd⟩⟩
  |dict ho hc=>exact⟨_,R.sub _ _ ho,fun h=>by rw[hc]at h; simp at h⟩
 cases u with
 |dat d'=>exact hg _ i
 |own j=>
  obtain⟨a',ha',e'⟩:=i;cases e';dsimp only[St.dat?]at e;cases hl:st.own[j]? with
  |none=>rw[hl]at e; exact nomatch e
  |some o=>
   rw[hl]at e;cases o with
   |lst l=>
    obtain⟨b,hb,_,vs,⟨m,hp⟩,_⟩:=R.own j _ hl;rw[ha']at hb; cases hb;exact⟨_,hp,fun _=>rfl⟩
   |froz l=>
    obtain⟨b,hb,r⟩:=R.own j _ hl;rw[ha']at hb; cases hb;have e:=Option.some.inj e;subst e;exact hg _ r
   |_=>exact nomatch e
 |_=>cases e
set_option backward.match.sparseCases false in
noncomputable def a5v:Expr→Bool
 |.Name ..=>true|.Constant ..=>true|.Subscript ..=>true|.BinOp ..=>true|.Call (.Attribute ..) _ _ _=>true|_=>false
theorem a1e{o:Expr}(h:a5v o=true):attributeBase o nm env (eval o env)=eval o env:=by
 cases o with
 |Call f a kws p=>
  cases f with
  |Attribute v nm2 p2=>rfl
  |_=>cases h
 |_=>first|rfl|cases h
theorem few{pos:Pos}{xs:List Expr}(hx:(xs.all a0k)=true)(hl:xs.length≤20) :
  ((d8x pos (d8s xs env)).all (fun x=>!x.1)&&(backToKw pos (keywordEach [] env)).all (fun x=>x.1.isSome)&&decide (xs.length+([]:List Keyword).length+(if ([]:List Keyword).isEmpty then 0 else 1)<30))=true:=by
 have e1:∀xs:List Expr,(xs.all a0k)=true→((d8x pos (d8s xs env)).all fun x=>!x.1)=true:=by
  intro xs
  induction xs with
  |nil=>intro _; rfl
  |cons x r ih=>
   intro h;simp only[List.all_cons,Bool.and_eq_true]at h;rw[a0h h.1];show(true&&(d8x pos (d8s r env)).all fun x=>!x.1)=true;rw[ih h.2]; rfl
 rw[e1 xs hx]
 have:xs.length<30:=by omega
 simp[backToKw,arm_keywordEach_nil,this]
theorem a1o{pos:Pos}{id:String}{first:List d8g}{xs:List Expr}{s:d8f}(hx:(xs.all a0k)=true)
 (h:d8i (model C.prog C.w) A (spliced (d8x pos (d8s xs env))) (fun vs s₁=>d8i (model C.prog C.w) A (call (.builtin id) (first++vs)) Q' Eh s₁) Eh s) :
  d8i (model C.prog C.w) A (callWith pos (.builtin id) first (d8x pos (d8s xs env)) []) Q' Eh s:=by
 cases xs with
 |nil=>
  refine callWith_method0 ?_;have h:=h
  have:∀Q:List d8g→d8f→Prop,d8i (model C.prog C.w) A (spliced (d8x pos (d8s [] env))) Q Eh s→Q [] s∨True:=fun _ _=>.inr trivial
  have e:spliced (d8x pos (d8s [] env))=(pure []:Sem (List d8g)):=rfl;rw[e]at h;have h2:=d8d (f:=fun vs=>call (.builtin id) (first++vs)) h;have e2:((pure []:Sem (List d8g)) >>= fun vs=>call (.builtin id) (first++vs))=call (.builtin id) first:=by
   show call (.builtin id) (first++[])=_;rw[List.append_nil]
  rw[e2]at h2;exact h2
 |cons x r=>
  simp only[List.all_cons,Bool.and_eq_true]at hx;have e1:∀xs:List Expr,(xs.all a0k)=true→((d8x pos (d8s xs env)).any (·.1))=false:=by
   intro xs
   induction xs with
   |nil=>intro _; rfl
   |cons x r ih=>
    intro h;simp only[List.all_cons,Bool.and_eq_true]at h;rw[a0h h.1];show(false||(d8x pos (d8s r env)).any (·.1))=false
    rw[ih h.2]; rfl
  exact callWith_method1 h (a0h hx.1) (e1 r hx.2)
theorem d4d{m:M}{a:E}{x:Expr}{es:Es}{xs:List Expr}{ap pos:Pos}(hnm:(meN m:Str)=nm)(hsup:a5v x=true)(hln:(ap.endLine==pos.line)=true)(hx:(xs.all a0k)=true)(hl:xs.length≤20)
 (ha:SE C Γ sc n hz a x) (hs:SRs C Γ sc n hz es xs):SE C Γ sc n hz (.me m a es) (.Call (.Attribute x nm ap) xs [] pos):=fun A env g s al st Eh Q Q' H hw kk=>by
 subst hnm;obtain⟨f1,f2,f3⟩:=b6w m;refine wpAny_Call_method_lateS (a1e hsup) (few hx hl) hln (ha A env g s al st Eh _ _ H hw fun va ua st1 s1 g1 a1 i1 hw1=>?_);obtain⟨hok,hw1⟩:=hw1;have hrec:∃d,st1.dat? ua=some d:=by
  cases e:st1.dat? ua with
  |none=>rw[e]at hok; exact hok.elim
  |some d=>exact⟨d,rfl⟩
 obtain⟨d,ed⟩:=hrec;obtain⟨t1,t2⟩:=c1t (a1.rel.dat? i1 ed) (c6o a1.rel i1 ed) (ed▸hok);refine⟨meT m,meI m,f1,f2,f3,t1,t2,a1o hx (hs A env g1 s1 al st1 Eh pos [] _ _ (H.go a1) hw1 fun vs us st2 s2 g2 a2 i2 hl2 hw2=>?_)⟩
 split at hw2
 ·rename_i d ds e1 e2
  obtain⟨r,hq,ht⟩:=c5j (C:=C) (A:=A) (E:=Eh) ((H.go a1).go a2).ok a2.rel.sub (a2.rel.dat? (i1.mono a2.step.sub) e1) (b1q a2.rel i2 e2) hw2;exact((H.go a1).go a2).to ht fun v s' g' a3 r=>kk v (.dat _) _ _ _ (a1.trans (a2.trans a3)) r hq
 ·exact hw2.elim
theorem c0u{s:d8f}{t:Tok}(hx:x.length≤d8y)(hs:(Builtin.Str.spaceWords x (x.length+1)).length≤d8y)(h1:(Builtin.Str.spaceWords x (x.length+1)==[(0,x.length)])=false) :
  ToF C A Eh g s (call (.builtin "str.split") [.str x t]) ((PySem.wordsOf x).map .str):=fun Q h=>by
 have fin:∀(xs:List (Str×Tok)) tk,xs.map (·.1)=PySem.wordsOf x→Q (.ref s.heap.objs.size) { s with heap:=s.heap.push { cls:=.type "list",data:=.seq (strValues xs).toArray },toks:=tk }:=fun xs tk e=>
  h _ (strValues xs) _ tk (a0e _) (a0d _) ⟨0,Heap.get?_push_size _ rfl⟩ (e▸RDs.strs xs)
 refine call_meets F.slot_str_split (typeIs_str _ _ _) F.entry_str_split (F.args_str_split_1 _) (meets_str_split_space x t hx hs) ?_;rw[h1];rw[strsFrom_eq];exact fin _ _ (numbered_texts _ _)
theorem c5v {x nm:Str} {ws:List Str} {ap pos:Pos} (hnm:("split" : Str)=nm) (hsup:a5v y=true) (hln:(ap.endLine==pos.line)=true) (hx:x.length≤d8y) (hs:(Builtin.Str.spaceWords x (x.length+1)).length≤d8y) (h1:(Builtin.Str.spaceWords x (x.length+1)==[(0,x.length)])=false)
 (hw:PySem.wordsOf x=ws) (ha:SE C Γ sc n hz (.str x) y):SE C Γ sc n hz (.words x ws) (.Call (.Attribute y nm ap) [] [] pos):=fun A env g s al st Eh Q Q' H hw' kk=>by
 subst hw;refine wpAny_Call_method_lateS (a1e hsup) (few rfl (by decide)) hln (ha A env g s al st Eh (fun v st'=>v=.dat (.str x)∧Q (.dat (.list ((PySem.wordsOf x).map .str))) st') _ H ⟨rfl,hw'⟩ fun va ua st1 s1 g1 a1 i1 hw1=>?_)
 obtain⟨rfl,hw1⟩:=hw1;subst hnm;obtain⟨t,rfl⟩:=RD.strE i1;refine⟨"str", "str.split",F.plainAttrs_str,F.slot_str_split,F.type_str_split,typeIs_str _ _ _,(fun _ e=>nomatch e),a1o rfl (spliced_nil ?_)⟩;exact(H.go a1).to (ToF.to a1.rel.sub (c0u hx hs h1)) fun v s' g' a3 r=>kk v (.dat _) _ _ _ (a1.trans a3) r hw1
theorem a5c{g h:Heap}{al:List Addr}{st:St}(R:Rel C sc env g h al st){o:OV}(i:InV C g al v (.own j))(e:st.own[j]?=some o):∃a,v=.ref a∧al[j]?=some a∧OwnOK g h a o:=by
 obtain⟨a,ha,rfl⟩:=i;obtain⟨b,hb,q⟩:=R.own j o e;rw[ha]at hb; cases hb;exact⟨a,rfl,ha,q⟩
theorem a3q{s s':d8f}{al:List Addr}{st:St}{a:Addr}{o:OV}(R:Rel C sc env g s.heap al st)(x:Step [a] s g s' g)(sb:Sub g s'.heap)(ha:al[j]?=some a)(q:OwnOK g s'.heap a o) :
  Aft C sc env al g s st g s' (st.setOwn j o):=
 ⟨rfl,rfl,R.turn x sb ha (by simp) q,x.mono fun b hb=>by simp at hb; subst hb; exact List.mem_append_left _ (List.mem_of_getElem? ha)⟩
theorem b2h {a:Addr} {l:List d8e} {s:d8f} (q:OwnOK g s.heap a (.lst l)):s.TypeIs (.ref a) "list" ∧ ∀b,Value.ref a=.ref b→∃o,s.heap.get? b=some o∧o.dict=none:=by
 obtain⟨_,vs,⟨m,hp⟩,_⟩:=q;have hl:s.heap.IsList a vs.toArray:=⟨_,hp,rfl,m,rfl⟩;exact⟨hl.typeIs,fun b e=>by cases e; exact⟨_,hp,rfl⟩⟩
theorem d1f {e:E} {p ap pos:Pos} (hi:sc.ids.lookup x=some i) (hd:(x==("__debug__" : Str))=false) (hc:(x==("__classdict__" : Str))=false) (hln:(ap.endLine==pos.line)=true) (hy:a0k y=true)
 (h:SE C Γ sc n hz e y):SE C Γ sc n hz (.pop i e) (.Call (.Attribute (.Name x p) "pop" ap) [y] [] pos):=fun A env g s al st Eh Q Q' H hw kk=>by
 dsimp only[wpE]at hw
 split at hw
 ·rename_i j ej
  obtain⟨⟨l,hl⟩,hw⟩:=hw;refine wpAny_Call_method_lateS (a1e (o:=.Name x p) rfl) (few (by show(a0k y&&true)=true; rw[hy]; rfl) (by simp)) hln (a0z H.eok H.rel hi (by rw[ej]; simp) hd hc fun v hv=>?_)
  rw[ej]at hv;obtain⟨a,rfl,ha,q⟩:=a5c H.rel hv hl;obtain⟨t1,t2⟩:=b2h q;refine⟨"list", "list.pop",F.plainAttrs_list,F.slot_list_pop,F.type_list_pop,t1,t2,a1o (by show(a0k y&&true)=true; rw[hy]; rfl) (spliced_more (h A env g s al st Eh _ _ H hw fun va ua st1 s1 g1 a1 i1 hw1=>spliced_nil ?_) (a0h hy))⟩
  split at hw1
  ·rename_i jj l1 e1 e2
   obtain⟨h1,h2,hw1⟩:=hw1
   split at hw1
   ·rename_i m em
    split at hw1
    ·rename_i d ed
     obtain⟨b,hb,q1⟩:=a1.rel.own j _ e2;rw[ha]at hb; cases hb;obtain⟨t,rfl⟩:=RD.intE (a1.rel.dat? i1 e1);refine c6e a1.rel.sub q1 h1 h2 em ed _ fun v s' r x sb q2=>?_;exact kk v (.dat d) _ s' g1 (a1.trans (a3q a1.rel x sb ha q2)) r hw1
    ·exact hw1.elim
   ·exact hw1.elim
  ·exact hw1.elim
 ·exact hw.elim
theorem c8q {p p2 pos:Pos} (G:Good C k) (hk:sc.names.lookup ("next" : Str)=some .globalImplicit) (hi:sc.ids.lookup x=some i) (hd:(x==("__debug__" : Str))=false) (hc:(x==("__classdict__" : Str))=false) :
  SE C Γ sc n hz (.next i) (.Call (.Name "next" p) [.Name x p2] [] pos):=fun A env g s al st Eh Q Q' H hw kk=>by
 dsimp only[wpE]at hw
 split at hw
 ·rename_i j ej
  split at hw
  ·rename_i d r hl
   refine d8u (a2g G H hk (by decide) (by decide) (v:=.builtin "next") rfl ?_)
   refine a2u rfl (by simp) (spliced_more (a0z H.eok H.rel hi (by rw[ej]; simp) hd hc fun v hv=>spliced_nil ?_) rfl)
   rw[ej]at hv;obtain⟨a,rfl,ha,q⟩:=a5c H.rel hv hl;refine c0t H.rel.sub q _ fun v s' r x sb q2=>?_;exact kk v (.dat d) _ s' g (a3q H.rel x sb ha q2) r hw
  ·exact hw.elim
 ·exact hw.elim
end
end
section
noncomputable def wr(sc:SI)(env:Env):List Addr:=env.locals::sc.own.filterMap fun x=>env.cells.lookup x
section
variable {C:Cfg} {Γ:Ctx} {sc:SI} {n:Nat} {hz:Bool} {k:Ck}
theorem c3o{g h:Heap}{al:List Addr}{st:St}(R:Rel C sc env g h al st){b:Addr}(hb:b∈al++C.TA):∃o,h.get? b=some o:=by
 rcases List.mem_append.mp hb with h1|h1
 ·exact R.alh b h1
 ·obtain⟨_,o,ho,_⟩:=R.tabs b h1; exact⟨o,ho⟩
theorem a0w{g g':Heap}{s s':d8f}{al:List Addr}{st st':St}(x:Aft C sc env al g s st g' s' st'){b:Addr}(hb:s'.heap.get? b=none):s.heap.get? b=none:=by
 cases e:s.heap.get? b with
 |none=>rfl
 |some o=>
  by_cases hm:b∈al++C.TA
  ·obtain⟨o',ho'⟩:=c3o x.rel hm; rw[ho']at hb; cases hb
  ·exact((x.step.keep b o hm e).none hb).elim
def SIt(C:Cfg)(Γ:Ctx)(sc:SI)(n:Nat)(hz:Bool)(target:Expr)(it:I)(x:Expr):Prop:=
 ∀(A:d8q) (env:Env) (g:Heap) (s:d8f) (al:List Addr) (st:St) (Eh:d8g→d8f→Prop) (Q:List d8e→St→Prop) (Q':d8g→d8f→Prop),Here C sc hz n A env g s al st→wpI Γ it st Q→
  (∀I ws IS ds st' s' g',Aft C sc env al g s st g' s' st'→IterOK C A target I ws ds IS→IS 0 g' s'.heap→(∀b∈ws,s.heap.get? b=none)→Q ds st'→Q' (.ref I) s')→
  d8i (model C.prog C.w) A (eval x env) (fun v s₁=>d8i (model C.prog C.w) A (pyIter v) Q' Eh s₁) Eh s
theorem c5s{e:E}{x:Expr}(ht:a0g target=true)(h:SE C Γ sc n hz e x):SIt C Γ sc n hz target (.over e) x:=fun A env g s al st Eh Q Q' H hw kk=>by
 refine h A env g s al st Eh _ _ H hw fun va ua st1 s1 g1 a1 i1 hw1=>?_;obtain⟨d,st2,g2,e2,⟨z2,hw2⟩,r2,x2,R2⟩:=a1.rel.keepV i1 (a3l hw1);have a2:Aft C sc env al g1 s1 st1 g2 s1 st2:=⟨e2,z2,R2,x2⟩
 split at hw2
 ·rename_i l hl
  refine d1z ht R2.sub r2 hl _ fun I ws IS s' i j f x=>?_;have sb:Sub g2 s'.heap:=x.low R2.sub;exact kk I ws IS l st2 s' g2 (a1.trans (a2.trans ⟨rfl,rfl,R2.step x sb,x.nil⟩)) i j (fun b hb=>a0w (a1.trans a2) (f b hb)) hw2
 ·exact hw2.elim
theorem a2t {s:d8f} {al:List Addr} {st:St} {id:String} {xs:List Expr} {p pos:Pos} (G:Good C k) (H:Here C sc hz n A env g s al st) (hd:(nm==("__debug__" : Str))=false) (hm:nm∈bnames) (hv:bootBuiltins nm=some (.type id))
 (hk:sc.names.lookup nm=some .globalImplicit) (hx:(xs.all a0k)=true) (hne:xs≠[])
 (h:d8i (model C.prog C.w) A (spliced (d8x pos (d8s xs env))) (fun vs s₁=>d8i (model C.prog C.w) A (call (.type id) vs) Q' Eh s₁) Eh s) :
  d8i (model C.prog C.w) A (eval (.Call (.Name nm p) xs [] pos) env) Q' Eh s:=
 d8u (a2g G H hk hd hm hv (a8h hx hne h))
theorem a6v{g g1:Heap}{s s1:d8f}{al:List Addr}{st st1:St}{Q:List d8e→St→Prop}(a1:Aft C sc env al g s st g1 s1 st1)(hq:Q ds st1)
 (kk:∀I ws IS ds st' s' g',Aft C sc env al g s st g' s' st'→IterOK C A target I ws ds IS→IS 0 g' s'.heap→(∀b∈ws,s.heap.get? b=none)→Q ds st'→Q' (.ref I) s')
 (I:Addr) (ws:List Addr) (IS:Nat→Heap→Heap→Prop) (s':d8f) (i:IterOK C A target I ws ds IS) (j:IS 0 g1 s'.heap) (f:∀b∈ws,s1.heap.get? b=none) (x:Step [] s1 g1 s' g1):Q' (.ref I) s':=by
 have sb:Sub g1 s'.heap:=x.low a1.rel.sub;exact kk I ws IS _ st1 s' g1 (a1.trans ⟨rfl,rfl,a1.rel.step x sb,x.nil⟩) i j (fun b hb=>a0w a1 (f b hb)) hq
theorem un1{x:Expr}(h:a0k x=true):([x].all a0k)=true:=by show(a0k x&&true)=true; rw[h]; rfl
theorem un2{x y:Expr}(h:a0k x=true)(h2:a0k y=true):([x,y].all a0k)=true:=by show(a0k x&&(a0k y&&true))=true; rw[h,h2]; rfl
theorem un3{x y z:Expr}(h:a0k x=true)(h2:a0k y=true)(h3:a0k z=true):([x,y,z].all a0k)=true:=by show(a0k x&&(a0k y&&(a0k z&&true)))=true; rw[h,h2,h3]; rfl
theorem c0s {e:E} {x:Expr} {p pos:Pos} (G:Good C k) (hz1:hz=true) (ht:a0g target=true) (hk:sc.names.lookup ("range" : Str)=some .globalImplicit) (hx:a0k x=true) (h:SE C Γ sc n hz e x) :
  SIt C Γ sc n hz target (.range e) (.Call (.Name "range" p) [x] [] pos):=fun A env g s al st Eh Q Q' H hw kk=>by
 refine a2t G H (by decide) (by decide) rfl hk (un1 hx) (by simp) (spliced_more (h A env g s al st Eh _ _ H hw fun va ua st1 s1 g1 a1 i1 hw1=>spliced_nil ?_) (a0h hx))
 split at hw1
 ·rename_i m em
  obtain⟨⟨h0,h1⟩,hw1⟩:=hw1;obtain⟨t,rfl⟩:=RD.intE (a1.rel.dat? i1 em);exact b9s ((H.go a1).hh hz1) ht a1.rel.sub h1 Q' (a6v a1 hw1 kk) h0
 ·exact hw1.elim
theorem b8a {e f:E} {x y:Expr} {p pos:Pos} (G:Good C k) (hz1:hz=true) (ht:a0g target=true) (hk:sc.names.lookup ("range" : Str)=some .globalImplicit) (hx:a0k x=true) (hy:a0k y=true)
 (h:SE C Γ sc n hz e x) (h':SE C Γ sc n hz f y):SIt C Γ sc n hz target (.range2 e f) (.Call (.Name "range" p) [x,y] [] pos):=fun A env g s al st Eh Q Q' H hw kk=>by
 refine a2t G H (by decide) (by decide) rfl hk (un2 hx hy) (by simp) (spliced_more (h A env g s al st Eh _ _ H hw fun va ua st1 s1 g1 a1 i1 hw1=>
  spliced_more (h' A env g1 s1 al st1 Eh _ _ (H.go a1) hw1 fun vb ub st2 s2 g2 a2 i2 hw2=>spliced_nil ?_) (a0h hy)) (a0h hx))
 split at hw2
 ·rename_i m1 m2 e1 e2
  obtain⟨⟨h0,h1,h2,h3⟩,hw2⟩:=hw2;obtain⟨t,rfl⟩:=RD.intE (a2.rel.dat? (i1.mono a2.step.sub) e1);obtain⟨u,rfl⟩:=RD.intE (a2.rel.dat? i2 e2);exact c2e (((H.go a1).go a2).hh hz1) ht a2.rel.sub ⟨h0,h1⟩ ⟨h2,h3⟩ Q' (a6v (a1.trans a2) hw2 kk)
 ·exact hw2.elim
theorem b1h {e:E} {x:Expr} {x1 x2:Nat} {p p1 p2 p3 p4 pos:Pos} (G:Good C k) (hz1:hz=true) (ht:a0g target=true) (hk:sc.names.lookup ("range" : Str)=some .globalImplicit) (hx:a0k x=true)
 (h:SE C Γ sc n hz e x):SIt C Γ sc n hz target (.rangeDown e) (.Call (.Name "range" p) [x,.UnaryOp .USub (.Constant (.int 1) x1 p1) p2,.UnaryOp .USub (.Constant (.int 1) x2 p3) p4] [] pos):=fun A env g s al st Eh Q Q' H hw kk=>by
 have m1:∀{x1:Nat} {p1 p2:Pos},SE C Γ sc n hz (.neg (.int 1)) (.UnaryOp .USub (.Constant (.int 1) x1 p1) p2):=c2w b7g;refine a2t G H (by decide) (by decide) rfl hk (un3 hx rfl rfl) (by simp) (spliced_more (h A env g s al st Eh _ _ H hw fun va ua st1 s1 g1 a1 i1 hw1=>
  spliced_more (m1 A env g1 s1 al st1 Eh (fun v st'=>v=.dat (.int (-1))∧st'=st1) _ (H.go a1) ⟨rfl,rfl⟩ fun vb ub st2 s2 g2 a2 i2 hw2=>
  spliced_more (m1 A env g2 s2 al st2 Eh (fun v st'=>v=.dat (.int (-1))∧st'=st2) _ ((H.go a1).go a2) ⟨rfl,rfl⟩ fun vc uc st3 s3 g3 a3 i3 hw3=>spliced_nil ?_) rfl) rfl) (a0h hx))
 obtain⟨rfl,rfl⟩:=hw2;obtain⟨rfl,rfl⟩:=hw3
 split at hw1
 ·rename_i m em
  obtain⟨h0,hw1⟩:=hw1;obtain⟨t,rfl⟩:=RD.intE (a1.rel.dat? i1 em);obtain⟨u,rfl⟩:=RD.intE i2;obtain⟨v,rfl⟩:=RD.intE i3;exact b4p ((((H.go a1).go a2).go a3).hh hz1) ht a3.rel.sub h0 Q' (a6v (a1.trans (a2.trans a3)) hw1 kk)
 ·exact hw1.elim
theorem c3y {e:E} {x:Expr} {x1:Nat} {tp p pos:Pos} (G:Good C k) (hk:sc.names.lookup ("enumerate" : Str)=some .globalImplicit) (hx:a0k x=true) (h:SE C Γ sc n hz e x) :
  SIt C Γ sc n hz (.Tuple elts x1 tp) (.enum e) (.Call (.Name "enumerate" p) [x] [] pos):=fun A env g s al st Eh Q Q' H hw kk=>by
 refine a2t G H (by decide) (by decide) rfl hk (un1 hx) (by simp) (spliced_more (h A env g s al st Eh _ _ H hw fun va ua st1 s1 g1 a1 i1 hw1=>spliced_nil ?_) (a0h hx))
 obtain⟨d,st2,g2,e2,⟨z2,hw2⟩,r2,x2,R2⟩:=a1.rel.keepV i1 (a3l hw1);have a2:Aft C sc env al g1 s1 st1 g2 s1 st2:=⟨e2,z2,R2,x2⟩
 split at hw2
 ·exact c8k R2.sub r2 Q' (a6v (a1.trans a2) hw2.2 kk)
 ·exact hw2.elim
theorem c8a {e:E} {x:Expr} {p pos:Pos} (G:Good C k) (hz1:hz=true) (ht:a0g target=true) (hk:sc.names.lookup ("reversed" : Str)=some .globalImplicit) (hx:a0k x=true) (h:SE C Γ sc n hz e x) :
  SIt C Γ sc n hz target (.rev e) (.Call (.Name "reversed" p) [x] [] pos):=fun A env g s al st Eh Q Q' H hw kk=>by
 refine a2t G H (by decide) (by decide) rfl hk (un1 hx) (by simp) (spliced_more (h A env g s al st Eh _ _ H hw fun va ua st1 s1 g1 a1 i1 hw1=>spliced_nil ?_) (a0h hx))
 obtain⟨d,st2,g2,e2,⟨z2,hw2⟩,r2,x2,R2⟩:=a1.rel.keepV i1 (a3l hw1);have a2:Aft C sc env al g1 s1 st1 g2 s1 st2:=⟨e2,z2,R2,x2⟩
 split at hw2
 ·exact d2z (((H.go a1).go a2).hh hz1) ht R2.sub r2 Q' (a6v (a1.trans a2) hw2 kk)
 ·exact hw2.elim
theorem b3o {e:E} {x:Expr} {p p2 pos pos2:Pos} (G:Good C k) (hz1:hz=true) (ht:a0g target=true) (hk:sc.names.lookup ("reversed" : Str)=some .globalImplicit) (hk2:sc.names.lookup ("range" : Str)=some .globalImplicit) (hx:a0k x=true) (h:SE C Γ sc n hz e x) :
  SIt C Γ sc n hz target (.revRange e) (.Call (.Name "reversed" p) [.Call (.Name "range" p2) [x] [] pos2] [] pos):=fun A env g s al st Eh Q Q' H hw kk=>by
 refine a2t G H (by decide) (by decide) rfl hk rfl (by simp) (spliced_more (a2t G H (by decide) (by decide) rfl hk2 (un1 hx) (by simp) (spliced_more (h A env g s al st Eh _ _ H hw fun va ua st1 s1 g1 a1 i1 hw1=>spliced_nil ?_) (a0h hx))) rfl)
 split at hw1
 ·rename_i m em
  obtain⟨h0,hw1⟩:=hw1;obtain⟨t,rfl⟩:=RD.intE (a1.rel.dat? i1 em);refine call_range_1 (spliced_nil ?_);exact b5f (s₀:=s1) ((H.go a1).hh hz1) ht (a1.rel.sub.trans (a0e _)) (IsRange.new s1.heap 0 m 1 s1.toks t (s1.toks+1)) h0 (.ext (a0e _)) Q' (a6v a1 hw1 kk)
 ·exact hw1.elim
end
end
section
section
variable {C:Cfg} {Γ:Ctx} {sc:SI} {n:Nat} {hz:Bool} {k:Ck}
noncomputable def a5w(sc:SI)(x:Str)(i:Nat):Bool:=
 sc.ids.lookup x==some i&&(sc.names.lookup x==some .local||(sc.names.lookup x==some .cell&&sc.own.contains x))
theorem a3k(h:a5w sc x i=true):sc.ids.lookup x=some i:=by
 simp only[a5w,Bool.and_eq_true,beq_iff_eq]at h; exact h.1
theorem a4q(h:a5w sc x i=true):sc.names.lookup x=some .local∨(sc.names.lookup x=some .cell∧x∈sc.own):=by
 simp only[a5w,Bool.and_eq_true,beq_iff_eq,Bool.or_eq_true,List.contains_eq_mem,decide_eq_true_eq]at h; exact h.2
theorem a5q{b:Addr}(h:a5w sc x i=true)(hb:b=env.locals∨(sc.names.lookup x=some .cell∧env.cells.lookup x=some b)):b∈wr sc env:=by
 rcases hb with rfl|⟨h1,h2⟩
 ·exact .head _
 ·rcases a4q h with h3|⟨_,h3⟩
  ·rw[h1]at h3; cases h3
  ·exact List.mem_cons_of_mem _ (List.mem_filterMap.mpr ⟨x,h3,h2⟩)
theorem a2b{b:Addr}(h:b∈wr sc env):b∈a4w env:=by
 rcases List.mem_cons.mp h with rfl|h
 ·exact .head _
 ·obtain⟨x,_,hx⟩:=List.mem_filterMap.mp h
  exact List.mem_cons_of_mem _ (List.mem_map.mpr ⟨_,d8k hx,rfl⟩)
theorem a5b{s:d8f}{al:List Addr}{st:St}{u:V}(so:SIOK sc)(H:Here C sc hz n A env g s al st)(hx:a5w sc x i=true)(hv:InV C g al v u)
 (h:∀s',Step (wr sc env) s g s' g→Here C sc hz n A env g s' al (st.set i u)→Q () s'):d8i (model C.prog C.w) A (storeName env x v) Q Eh s:=by
 refine a3i so H.eok H.rel (a3k hx) ((a4q hx).imp id fun h=>h.1) hv fun s' b hb x' R _ _=>?_;exact h s' (x'.mono fun c hc=>by simp at hc; subst hc; exact a5q hx hb) ⟨H.ok,H.hz,H.eok,R,H.fr.step x' fun c hc=>.inl (by simp at hc; subst hc; exact a2b (a5q hx hb))⟩
noncomputable def d5r(st:St)(l:List (Nat×d8e)):St:=l.foldl (fun st p=>st.set p.1 (.dat p.2)) st
noncomputable def a9e(sc:SI):List Nat→List Expr→Bool
 |[],[]=>true
 |i::is,x::xs=>isK 23 x&&(a5w sc (xN x) i&&a9e sc is xs)
 |_,_=>false
theorem b5w(so:SIOK sc){al:List Addr}(is:List Nat):∀{xs:List Expr} {vs:List d8g} {ds:List d8e} {g:Heap} {s:d8f} {st:St} {Q:Unit→d8f→Prop},
  a9e sc is xs=true→Here C sc hz n A env g s al st→RDs g vs ds→is.length=ds.length→
  (∀s',Step (wr sc env) s g s' g→Here C sc hz n A env g s' al (d5r st (is.zip ds))→Q () s')→d8i (model C.prog C.w) A (assignInOrder ((assignEach xs env).map (·.2)) vs) Q Eh s:=by
 induction is with
 |nil=>
  intro xs vs ds g s st Q hc H r hl h;cases xs with
  |nil=>
   cases ds with
   |nil=>exact assignInOrder_nil (h s .refl H)
   |cons _ _=>cases hl
  |cons x r=>cases hc
 |cons i is ih=>
  intro xs vs ds g s st Q hc H r hl h;cases xs with
  |nil=>cases hc
  |cons x xs=>
   obtain⟨x,p,rfl⟩:=c1q (a0b hc);have hc:=a0a hc;cases ds with
   |nil=>cases hl
   |cons d ds=>
    have hlen:=r.length;cases vs with
    |nil=>cases hlen
    |cons v vs=>
     obtain⟨d',r',e,r1,r2⟩:=r.cases;cases e;show d8i _ _ (assignInOrder (assign (.Name x p) env::(assignEach xs env).map (·.2)) (v::vs)) Q Eh s;refine assignInOrder_cons (wpAny_assign_Name (a5b (u:=.dat d) so H (a0b hc) r1 fun s' x' H'=>?_));refine ih (a0a hc) H' r2 (by simpa using hl) fun s2 x2 H2=>h s2 (x'.tr x2) H2
noncomputable def ckT(sc:SI):T→Expr→Bool
 |.one i,x=>isK 23 x&&a5w sc (xN x) i
 |.tup is,x=>isK 25 x&&a9e sc is (xs x)
theorem b0i{α:Type}{a:α}{l:List (Bool×α)}(h:l.findIdx? (·.1)=none):((false,a)::l).findIdx? (·.1)=none:=by
 rw[List.findIdx?_cons,h]; rfl
theorem a9u{is:List Nat}{xs:List Expr}(env:Env)(h:a9e sc is xs=true):(assignEach xs env).length=is.length∧(assignEach xs env).findIdx? (·.1)=none:=by
 induction is generalizing xs with
 |nil=>cases xs with
  |nil=>exact⟨rfl,rfl⟩
  |cons x r=>cases h
 |cons i is ih=>cases xs with
  |nil=>cases h
  |cons x r=>
   obtain⟨y,p,rfl⟩:=c1q (a0b h);obtain⟨h1,h2⟩:=ih (a0a (a0a h));exact⟨congrArg (· + 1) h1,b0i h2⟩
theorem b0j{s:d8f}{al:List Addr}{st:St}{t:T}{x:Expr}{K:St→Prop}(so:SIOK sc)(H:Here C sc hz n A env g s al st)(hx:ckT sc t x=true)
 (hv:RD g v d) (hb:bindT t d st K) (h:∀s' st',st'.hz=st.hz→Step (wr sc env) s g s' g→Here C sc hz n A env g s' al st'→K st'→Q () s'):d8i (model C.prog C.w) A (assign x env v) Q Eh s:=by
 cases t with
 |one i=>
  have h2:=a0a hx;obtain⟨y,p,rfl⟩:=c1q (a0b hx);have hb:K (st.set i (.dat d)):=hb;exact wpAny_assign_Name (a5b (u:=.dat d) so H h2 hv fun s' x' H'=>h s' _ (by rfl) x' H' hb)
 |tup is=>
  ·have h2:=a0a hx
   obtain⟨xs,k1,p,rfl⟩:=d5b (a0b hx);have hx:a9e sc is xs=true:=h2;obtain⟨l1,l2⟩:=a9u env hx;have key:∀ds:List d8e,seqD d=some ds→is.length=ds.length→K ((is.zip ds).foldl (fun st p=>st.set p.1 (.dat p.2)) st)→d8i (model C.prog C.w) A (assign (.Tuple xs k1 p) env v) Q Eh s:=fun ds hs hl hk=>by
    rw[arm_assign_Tuple];refine d8d (d8r ?_);unfold unpack;rw[l1,l2,hl];refine d8d (d8l (a7a H.ok.handled H.rel.sub (.of H.rel.sub hv) hs fun vs h' sb r=>?_));have x1:Step [] s g { s with heap:=h' } g:=Step.ext (tk:=s.toks) sb
    have a1:=H.stay { s with heap:=h' } x1 (H.rel.sub.trans sb)
    refine b5w so is hx (H.go a1) r hl fun s2 x2 H2=>h s2 _ ?_ ((x1.nil).tr x2) H2 hk
    have:∀(l:List (Nat×d8e)) (st:St),(l.foldl (fun st p=>st.set p.1 (.dat p.2)) st).hz=st.hz:=by
     intro l; induction l with
     |nil=>intro st; rfl
     |cons p r ih=>intro st; exact(ih _).trans rfl
    exact this _ _
   cases d with
   |tuple ds=>exact key ds rfl hb.1 hb.2
   |list ds=>exact key ds rfl hb.1 hb.2
   |_=>exact hb.elim
end
end
section
section
variable {C:Cfg} {Γ:Ctx} {sc:SI} {n:Nat} {hz:Bool} {k:Ck}
theorem BRel.move{g g':Heap}{s s':d8f}{al:List Addr}{ow:List OV}(B:BRel C g s.heap al ow)(x:Step W s g s' g')(sb:Sub g' s'.heap)(hW:∀b∈W,b∉al∧b∉C.TA):BRel C g' s'.heap al ow where
 sub:=sb
 amb:=B.amb.mono x.sub
 nd:=x.nd B.nd
 tabs:=fun P hP=>by
  obtain⟨h1,o,ho,hc,r⟩:=B.tabs P hP;have hm:P∉W:=fun hm=>(hW P hm).2 hP;exact⟨x.fresh P o hm ho h1,o,(x.keep P o hm ho).exact hc,hc,C.tabMono _ _ _ _ x.sub r⟩
 olen:=B.olen
 own:=fun j o e=>by
  obtain⟨a,ha,q⟩:=B.own j o e;have hm:a∉W:=fun hm=>(hW a hm).1 (List.mem_of_getElem? ha);obtain⟨ob,hob⟩:=q.alive B.sub;exact⟨a,ha,q.keep x.sub (fun ob=>x.keep a ob hm) (x.fresh a ob hm hob)⟩
 alnd:=B.alnd
 ata:=B.ata
 base:=B.base
theorem Rel.move{g g':Heap}{s s':d8f}{al:List Addr}{st:St}(R:Rel C sc env g s.heap al st)(x:Step W s g s' g')(sb:Sub g' s'.heap)(hW:∀b∈W,b∉al∧b∉C.TA∧b∉a4w env):Rel C sc env g' s'.heap al st:=by
 have B:=R.b.move x sb fun b hb=>⟨(hW b hb).1,(hW b hb).2.1⟩;have kp:∀b∈a4w env,b∉W:=fun b hb hm=>(hW b hm).2.2 hb;have cm:∀{y:Str} {c:Addr},env.cells.lookup y=some c→c∈a4w env:=fun hy=>List.mem_cons_of_mem _ (List.mem_map.mpr ⟨_,d8k hy,rfl⟩);exact{
  sub:=sb,amb:=B.amb,nd:=B.nd,tabs:=B.tabs
  ns:=R.ns.imp fun m hm=>KeptIn.ns hm fun o e=>x.keep _ o (kp _ (.head _)) e
  cell:=fun y hy=>by
   obtain⟨c,v,hc,hcell⟩:=R.cell y hy;exact⟨c,v,hc,KeptIn.cell hcell fun o ho=>x.keep c o (kp c (cm hc)) ho⟩
  vars:=fun y i hi=>by
   rcases R.vars y i hi with h0|⟨v,hl,hv⟩
   ·exact .inl h0
   ·exact .inr ⟨v,hl.mono (fun o e=>x.keep _ o (kp _ (.head _)) e) (fun c o hc e=>x.keep c o (kp c (cm hc)) e),hv.mono x.sub⟩
  olen:=B.olen,own:=B.own,alnd:=B.alnd,pnd:=R.pnd
  pgl:=by
   obtain⟨o,ho⟩:=R.plt _ (.head _);exact x.fresh _ o (kp _ (.head _)) ho R.pgl
  pgc:=fun y c hk hc=>by
   obtain⟨o,ho⟩:=R.plt c (cm hc);exact x.fresh c o (kp c (cm hc)) ho (R.pgc y c hk hc)
  plt:=fun b hb=>(R.plt b hb).elim fun o ho=>(x.keep b o (kp b hb) ho).alive
  pal:=R.pal,pta:=R.pta,ata:=R.ata,base:=R.base }
theorem a2z{g g':Heap}{s s':d8f}{D:Addr}{o:OV}(q:OwnOK g s.heap D o)(sb:Sub g s.heap)(x:Step W s g s' g')(hD:D∉W):OwnOK g' s'.heap D o:=by
 obtain⟨ob,hob⟩:=q.alive sb;exact q.keep x.sub (fun ob=>x.keep D ob hD) (x.fresh D ob hD hob)
theorem c3q{g h:Heap}{D:Addr}{l:List d8e}(q:OwnOK g h D (.lst l))(ho:h.get? D=some o):b8l o:=by
 obtain⟨_,vs,⟨m,hp⟩,_⟩:=q;rw[hp]at ho; cases ho;intro es ep h; cases h
structure DSep(C:Cfg)(env:Env)(al:List Addr)(D:Addr):Prop where
 al:D∉al
 ta:D∉C.TA
 pr:D∉a4w env
structure GAft(C:Cfg)(sc:SI)(hz:Bool)(n:Nat)(A:d8q)(env:Env)(al:List Addr)(D:Addr)(g:Heap)(s:d8f)(st:St)(g':Heap)(s':d8f)(st':St)(acc:List d8e):Prop where
 sthz:st'.hz=st.hz
 here:Here C sc hz n A env g' s' al st'
 step:Step (D::(wr sc env++(al++C.TA))) s g s' g'
 dok:OwnOK g' s'.heap D (.lst acc)
theorem GAft.of{g g':Heap}{s s':d8f}{al:List Addr}{st st':St}{D:Addr}(H:Here C sc hz n A env g s al st)(d:DSep C env al D)(q:OwnOK g s.heap D (.lst acc))(a:Aft C sc env al g s st g' s' st') :
  GAft C sc hz n A env al D g s st g' s' st' acc:=
 ⟨a.hz,H.go a,a.step.mono fun b hb=>List.mem_cons_of_mem _ (List.mem_append_right _ hb),a2z q H.rel.sub a.step fun hm=>(List.mem_append.mp hm).elim d.al d.ta⟩
theorem GAft.trans{g g' g'':Heap}{s s' s'':d8f}{al:List Addr}{st st' st'':St}{D:Addr}{acc acc':List d8e}(x:GAft C sc hz n A env al D g s st g' s' st' acc)(y:GAft C sc hz n A env al D g' s' st' g'' s'' st'' acc') :
  GAft C sc hz n A env al D g s st g'' s'' st'' acc':=⟨y.sthz.trans x.sthz,y.here,x.step.tr y.step,y.dok⟩
def d7j(C:Cfg)(A:d8q)(E:d8g→d8f→Prop)(elt:Expr)(gens:List d8n)(scope:Scope)(pos:Pos)(nxt:Option Expr)(d:Nat)(env:Env)(D:Addr)(Q:d8f→Prop)(s:d8f):Prop:=match nxt with
 |none=>d8i (model C.prog C.w) A (eval elt env) (fun x s₁=>d8i (model C.prog C.w) A (call (.builtin "list.append") [.ref D,x]) (fun _ s₂=>Q s₂) E s₁) E s
 |some it=>d8i (model C.prog C.w) A (eval it env) (fun x s₁=>d8i (model C.prog C.w) A (pyIter x) (fun i s₂=>codeAny (model C.prog C.w) A (.compStart (.ListComp elt gens scope pos) d i (.ref D) env) (fun r s'=>match r with
  |.ok _=>Q s'
  |.error x=>cameBackBy (model C.prog C.w) A env E x s') s₂) E s₁) E s
def c6g(C:Cfg)(Γ:Ctx)(sc:SI)(n:Nat)(hz:Bool)(gg:G)(elt:Expr)(gens:List d8n)(scope:Scope)(pos:Pos)(nxt:Option Expr)(dd:Nat):Prop:=
 ∀(A:d8q) (env:Env) (g:Heap) (s:d8f) (al:List Addr) (st:St) (Eh:d8g→d8f→Prop) (D:Addr) (acc:List d8e) (K:List d8e→St→Prop) (Q:d8f→Prop),Here C sc hz n A env g s al st→DSep C env al D→OwnOK g s.heap D (.lst acc)→
  wpG Γ gg st acc K→(∀s' g' st' acc',GAft C sc hz n A env al D g s st g' s' st' acc'→K acc' st'→Q s')→d7j C A Eh elt gens scope pos nxt dd env D Q s
theorem d1l{e:E}{x:Expr}{pos:Pos}{dd:Nat}(h:SE C Γ sc n hz e x):c6g C Γ sc n hz (.elt e) x gens scope pos none dd:=fun A env g s al st Eh D acc K Q H d q hw kk=>by
 refine h A env g s al st Eh _ _ H hw fun v u st1 s1 g1 a1 i1 hw1=>?_;obtain⟨dd,st2,g2,e2,⟨z2,hw2⟩,r2,x2,R2⟩:=a1.rel.keepV i1 (a3l hw1);have a2:Aft C sc env al g1 s1 st1 g2 s1 st2:=⟨e2,z2,R2,x2⟩;have b2:=GAft.of H d q (a1.trans a2);refine a8l R2.sub b2.dok r2 hw2.1 _ fun s3 x3 sb q3=>?_;refine kk s3 g2 st2 _ (b2.trans ⟨rfl,⟨b2.here.ok,b2.here.hz,b2.here.eok,R2.move x3 sb fun b hb=>by simp at hb; subst hb; exact⟨d.al,d.ta,d.pr⟩,b2.here.fr.step x3 fun b hb=>.inr (.inr (.inr fun o ho=>by simp at hb; subst hb; exact c3q b2.dok ho))⟩,x3.mono fun b hb=>by simp at hb; subst hb; exact .head _,q3⟩) hw2.2
def d0v(C:Cfg)(sc:SI)(n:Nat)(hz:Bool)(tw:St→(Bool→St→Prop)→Prop)(ifs:List Expr):Prop:=
 ∀(A:d8q) (env:Env) (g:Heap) (s:d8f) (al:List Addr) (st:St) (Eh:d8g→d8f→Prop) (Q:Bool→St→Prop) (Q':Bool→d8f→Prop),Here C sc hz n A env g s al st→tw st Q→
  (∀b st' s' g',Aft C sc env al g s st g' s' st'→Q b st'→Q' b s')→
  d8i (model C.prog C.w) A (forIn ifs true fun c r=>if r=true then do let ok ←PySem.isTrue c env (eval c env); pure (ForInStep.yield ok)else pure (ForInStep.yield r)) Q' Eh s
theorem a9d:d0v C sc n hz (fun st Q=>Q true st) []:=fun A env g s al st Eh Q Q' H hw kk=>wpAny_tests_nil (kk _ st s g (Aft.refl H.rel) hw)
theorem b2p{c:E}{x:Expr}(h:ST C Γ sc n hz c x):d0v C sc n hz (fun st Q=>wpT Γ c st Q) [x]:=fun A env g s al st Eh Q Q' H hw kk=>
 wpAny_tests_one (h A env g s al st Eh Q Q' H hw kk)
def b5q(gens:List d8n)(d:Nat)(nxt:Option Expr):Prop:=match nxt with
 |none=>gens[d]?=none
 |some i2=>∃t2 f2,gens[d]?=some ⟨t2,i2,f2,0⟩∧∀env x,foldedSetIterable i2 env x=pure x
def b6y(C:Cfg)(A:d8q)(E:d8g→d8f→Prop)(target:Expr)(it:d8g)(P:d8f→Prop)(T:d8g→d8f→Prop):Option d8g→d8f→Prop
 |none,s₁=>P s₁
 |some v,s₁=>d8i (model C.prog C.w) A (letOwnedTupleGo target it v) (fun _ s₂=>T v s₂) E s₁
theorem c1i{E:d8g→d8f→Prop}{s:d8f}{elt target iter:Expr}{pos:Pos}{D:Addr}{d:Nat}{Q:Fin→d8f→Prop}(P:d8f→Prop)(T:d8g→d8f→Prop)(hg:gens[d]?=some ⟨target,iter,ifs,0⟩)
 (hn:b5q gens (d+1) nxt)
 (h:d8i (model C.prog C.w) A (pyNext it) (b6y C A E target it P T) E s) (hP:∀s₁,P s₁→Q (.done .next) s₁)
 (hT:∀v s₂,T v s₂→d8i (model C.prog C.w) A (assign target env v) (fun _ s₃=>
 d8i (model C.prog C.w) A (forIn ifs true fun c r=>if r=true then do let ok ←PySem.isTrue c env (eval c env); pure (ForInStep.yield ok)else pure (ForInStep.yield r)) (fun ok s₄=>
 if ok=true then d7j C A E elt gens scope pos nxt (d+1) env D (fun s₅=>Q (.again (.compLoop (.ListComp elt gens scope pos) d it (.ref D) env)) s₅) s₄
 else Q (.again (.compLoop (.ListComp elt gens scope pos) d it (.ref D) env)) s₄) E s₃) E s₂) :
  d8i (model C.prog C.w) A (compTurn (.ListComp elt gens scope pos) d it (.ref D) env) Q E s:=by
 unfold compTurn;have h0:((0:Int) != 0)=false:=rfl;dsimp only;generalize gens[d]?=og at hg ⊢;subst hg;dsimp only;refine d8d (d8r (d8d (d8p h (fun r s₁ h₁=>?_) fun _ _ h'=>h')));cases r with
 |none=>exact d8h (hP _ h₁)
 |some v=>
  refine d8d (d8p h₁ (fun _ s₂ h₂=>d8d (d8p (hT _ _ h₂) (fun _ s₃ h₃=>d8d (d8p h₃ (fun ok s₄ h₄=>?_) fun _ _ h'=>h')) fun _ _ h'=>h')) fun _ _ h'=>h');cases ok with
  |false=>exact d8h h₄
  |true=>
   cases nxt with
   |none=>
    have hn:gens[d+1]?=none:=hn;simp only[hn,if_true];exact d8d (d8d (d8p h₄ (fun x s₅ h₅=>d8d (d8p h₅ (fun _ s₆ h₆=>d8h (d8h h₆)) fun _ _ h'=>h')) fun _ _ h'=>h'))
   |some i2=>
    obtain⟨t2,f2,hn,hf⟩:=hn;simp only[hn,if_true,h0,Bool.false_eq_true,if_false];refine d8d (d8p h₄ (fun x s₅ h₅=>d8d (d8r (d8d (d8v (hf env x) (d8d (d8l (d8p h₅ (fun i s₆ h₆=>?_) fun _ _ h'=>h'))))))) fun _ _ h'=>h');exact d8d (wpAny_runOwn (codeAny_mono h₆ fun r s' hr=>by
     cases r with
     |ok f=>exact d8h hr
     |error e=>exact hr))
end
end
section
section
variable {C:Cfg} {Γ:Ctx} {sc:SI} {n:Nat} {hz:Bool} {k:Ck}
theorem a3p{I:Addr}{ws W:List Addr}{IS:Nat→Heap→Heap→Prop}{g g':Heap}{s s':d8f}(hit:IterOK C A target I ws ds IS)(j:IS i g s.heap)(x:Step W s g s' g')(hW:∀b∈ws,b∉W):IS i g' s'.heap:=
 hit.frame i g _ g' _ j x.sub (fun b hb o e=>(x.keep b o (hW b hb) e).exact (by obtain⟨_,o',ho',hc⟩:=hit.here i g _ j b hb; rw[e]at ho'; cases ho'; exact hc)) fun b hb=>have h:=hit.here i g _ j b hb; h.2.elim fun o k=>x.fresh b o (hW b hb) k.1 h.1
theorem b1i{I:Addr}{ws:List Addr}{IS:Nat→Heap→Heap→Prop}{g h:Heap}{b:Addr}(hit:IterOK C A target I ws ds IS)(j:IS i g h)(hb:b∈ws)(ho:h.get? b=some o):b8l o:=by
 obtain⟨_,o',ho',hn⟩:=hit.here i g h j b hb;rw[ho]at ho'; cases ho';exact hn
theorem b1n{s:d8f}{elt target iter:Expr}{pos:Pos}{it acc:d8g}{d:Nat}(hg:gens[d]?=some ⟨target,iter,ifs,0⟩)
 (h0:codeAny (model C.prog C.w) A (.compLoop (.ListComp elt gens scope pos) d it acc env) R s)
 (h:d8i (model C.prog C.w) A (pyIter it) (fun it' s'=>codeAny (model C.prog C.w) A (.compLoop (.ListComp elt gens scope pos) d it' acc env) R s')
 (notedBy (model C.prog C.w) A env fun x s'=>R (.error x) s') s) :
  codeAny (model C.prog C.w) A (.compStart (.ListComp elt gens scope pos) d it acc env) R s:=by
 refine codeAny_of_tree ?_;show d8i _ _ ((compStart (.ListComp elt gens scope pos) d it acc env).onRaise (fun x=>do noteFrame x env; standAt theWindowsPlace)) _ _ s
 refine wpAny_notedAt ?_;unfold compStart;have h00:((0:Int) != 0)=false:=rfl;dsimp only[clausesOf];simp only[hg,Option.elim_some,h00,Bool.false_eq_true,if_false];show d8i _ _ (ask >>= _) _ _ s;refine d8d (wpAny_askSetting (wpAny_ite ?_));split
 ·first
   |exact d8d (d8h (d8h (And.intro rfl h0)))
   |exact d8h (And.intro rfl h0)
 ·first
   |exact d8d (wpAny_rule (d8d (d8r (d8d (d8p h (fun it' s' h'=>d8h (And.intro rfl h')) fun _ _ x=>x)))))
   |(refine d8d (wpAny_rule ?_); show d8i _ _ (standAt iter.pos >>= _) _ _ s; exact d8d (d8r (d8d (d8p h (fun it' s' h'=>d8h (And.intro rfl h')) fun _ _ x=>x))))
def b5r(Γ:Ctx)(t:T)(tw:St→(Bool→St→Prop)→Prop)(gg:G):d8e→St→List d8e→(List d8e→St→Prop)→Prop:=
 fun d st acc K=>bindT t d st fun st=>tw st fun b st=>if b=true then wpG Γ gg st acc K else K acc st
inductive LI(C:Cfg)(sc:SI)(hz:Bool)(n:Nat)(A:d8q)(env:Env)(N:Nat)(al W:List Addr)(D:Addr)(s:d8f)(g:Heap)(z:Bool)(IS:Nat→Heap→Heap→Prop)(P:Nat→St→List d8e→Prop)(m:Nat)(s':d8f):Prop
 |mk:∀g' st' acc' i,i+m=N→st'.hz=z→Here C sc hz n A env g' s' al st'→OwnOK g' s'.heap D (.lst acc')→IS i g' s'.heap→Step W s g s' g'→P i st' acc'→LI C sc hz n A env N al W D s g z IS P m s'
theorem c0z{t:T}{target iter elt:Expr}{pos:Pos}{d:Nat}{tw:St→(Bool→St→Prop)→Prop}{gg:G}(so:SIOK sc)(ht:ckT sc t target=true)(hg:gens[d]?=some ⟨target,iter,ifs,0⟩)
 (hn:b5q gens (d+1) nxt)
 (htst:d0v C sc n hz tw ifs) (hin:c6g C Γ sc n hz gg elt gens scope pos nxt (d+1))
 (A:d8q) (env:Env) (g:Heap) (s:d8f) (al:List Addr) (st:St) (D:Addr) (acc:List d8e) (I:Addr) (ws:List Addr) (IS:Nat→Heap→Heap→Prop) (ds:List d8e) (K:List d8e→St→Prop) (R:Result→d8f→Prop)
 (H:Here C sc hz n A env g s al st) (dp:DSep C env al D) (q:OwnOK g s.heap D (.lst acc)) (hit:IterOK C A target I ws ds IS) (his:IS 0 g s.heap) (hws:∀b∈ws,b∉al∧b∉C.TA∧b∉a4w env∧b≠D)
 (hw:a1q (b5r Γ t tw gg) ds st acc K)
 (kk:∀s' g' st' acc',st'.hz=st.hz→Here C sc hz n A env g' s' al st'→Step (ws++D::(wr sc env++(al++C.TA))) s g s' g'→OwnOK g' s'.heap D (.lst acc')→K acc' st'→R (.ok .next) s') :
  codeAny (model C.prog C.w) A (.compStart (.ListComp elt gens scope pos) d (.ref I) (.ref D) env) R s:=by
 have wsAT:∀b∈ws,b∉al++C.TA:=fun b hb hm=>(List.mem_append.mp hm).elim (hws b hb).1 (hws b hb).2.1;have wsWr:∀b∈ws,b∉wr sc env:=fun b hb hm=>(hws b hb).2.2.1 (a2b hm);have wsG:∀b∈ws,b∉D::(wr sc env++(al++C.TA)):=fun b hb hm=>by
  rcases List.mem_cons.mp hm with h|h
  ·exact(hws b hb).2.2.2 h
  ·exact(List.mem_append.mp h).elim (wsWr b hb) (wsAT b hb)
 have dws:D∉ws:=fun hm=>(hws D hm).2.2.2 rfl;have dwr:D∉wr sc env:=fun hm=>dp.pr (a2b hm);have dat:D∉al++C.TA:=fun hm=>(List.mem_append.mp hm).elim dp.al dp.ta;have i1:∀b∈ws,b∈ws++D::(wr sc env++(al++C.TA)):=fun b hb=>List.mem_append_left _ hb;have i2:∀b∈D::(wr sc env++(al++C.TA)),b∈ws++D::(wr sc env++(al++C.TA)):=fun b hb=>List.mem_append_right _ hb;have i3:∀b∈wr sc env,b∈ws++D::(wr sc env++(al++C.TA)):=fun b hb=>i2 b (List.mem_cons_of_mem _ (List.mem_append_left _ hb));have i4:∀b∈al++C.TA,b∈ws++D::(wr sc env++(al++C.TA)):=fun b hb=>i2 b (List.mem_cons_of_mem _ (List.mem_append_right _ hb));have loop:codeAny (model C.prog C.w) A (.compLoop (.ListComp elt gens scope pos) d (.ref I) (.ref D) env) R s:=by
  refine codeAny_loop rfl (LI C sc hz n A env ds.length al (ws++D::(wr sc env++(al++C.TA))) D s g st.hz IS fun i st' acc'=>a1q (b5r Γ t tw gg) (ds.drop i) st' acc' K)
   (fun m s1 hI=>?_) ds.length ⟨g,st,acc,0,by exact a1x (.e (.p (.k 0) N0) N0),rfl,H,q,his,.refl,hw⟩
  obtain⟨g1,st1,acc1,i,hi,z1,H1,q1,is1,x1,hw1⟩:=hI;show d8i _ A ((compTurn (.ListComp elt gens scope pos) d (.ref I) (.ref D) env).onRaise (fun x=>do noteFrame x env; theTreesLotGoes x)) _ _ s1
  refine wpAny_noted ?_
  by_cases hlt:i<ds.length
  ·have e0:ds[i]?=some ds[i]:=List.getElem?_eq_getElem hlt
   rw[List.drop_eq_getElem_cons hlt]at hw1;have hw1:bindT t ds[i] st1 fun st=>tw st fun b st=>if b=true then wpG Γ gg st acc1 (fun acc st=>a1q (b5r Γ t tw gg) (ds.drop (i+1)) st acc K)else a1q (b5r Γ t tw gg) (ds.drop (i+1)) st acc1 K:=hw1
   refine c1i (fun _=>False) (fun v s2=>∃g2,Step ws s1 g1 s2 g2∧Sub g2 s2.heap∧RD g2 v ds[i]∧IS (i+1) g2 s2.heap) hg hn ?_ (fun _ f=>f.elim) fun v s2 h2=>?_
   ·refine d8p (hit.item i ds[i] s1 g1 (fun v s2=>∃g2,Step ws s1 g1 s2 g2∧Sub g2 s2.heap∧RD g2 v ds[i]∧IS (i+1) g2 s2.heap) _ e0 H1.rel.sub is1 fun v s2 g2 x2 sb2 r2 is2=>⟨g2,x2,sb2,r2,is2⟩) (fun r s2 h2=>?_) fun _ _ e=>e
    cases r with
    |none=>exact h2.elim
    |some v=>exact h2
   obtain⟨g2,x2,sb2,r2,is2⟩:=h2;have H2:Here C sc hz n A env g2 s2 al st1:=⟨H1.ok.mono x2.sub,H1.hz,H1.eok,H1.rel.move x2 sb2 fun b hb=>⟨(hws b hb).1,(hws b hb).2.1,(hws b hb).2.2.1⟩,H1.fr.step x2 fun b hb=>.inr (.inr (.inr fun o ho=>b1i hit is1 hb ho))⟩;have q2:=a2z q1 H1.rel.sub x2 dws;refine b0j so H2 ht r2 hw1 fun s3 st3 z3 x3 H3 hw3=>?_;have q3:=a2z q2 H2.rel.sub x3 dwr;have is3:=a3p hit is2 x3 wsWr;refine htst A env g2 s3 al st3 _ _ _ H3 hw3 fun b st4 s4 g4 a4 hw4=>?_;have H4:=H3.go a4;have q4:=a2z q3 H3.rel.sub a4.step dat;have is4:=a3p hit is3 a4.step wsAT;have x4:=(((x1.tr (x2.mono i1)).tr (x3.mono i3)).tr (a4.step.mono i4));cases b with
   |false=>exact⟨rfl,m-1,by exact a2q (.t (.s N0 O1) N0) (.e (.p N1 N0) N2) (.t N1 N2) hi hlt,.mk g4 st4 acc1 (i+1) (by exact a2q (.e (.p (.p N0 O1) (.s N1 O1)) N2) (.e (.p N0 N1) N2) (.t N0 N2) hi hlt) (a4.hz.trans (z3.trans z1)) H4 q4 is4 x4 hw4⟩
   |true=>
    refine hin A env g4 s4 al st4 _ D acc1 _ _ H4 dp q4 hw4 fun s5 g5 st5 acc5 a5 hw5=>?_;exact⟨rfl,m-1,by exact a2q (.t (.s N0 O1) N0) (.e (.p N1 N0) N2) (.t N1 N2) hi hlt,.mk g5 st5 acc5 (i+1) (by exact a2q (.e (.p (.p N0 O1) (.s N1 O1)) N2) (.e (.p N0 N1) N2) (.t N0 N2) hi hlt) (a5.sthz.trans (a4.hz.trans (z3.trans z1))) a5.here a5.dok (a3p hit is4 a5.step wsG) (x4.tr (a5.step.mono i2)) hw5⟩
  ·have ei:i=ds.length:=by exact a2q (.e N0 N1) (.e (.p N0 N2) N1) (.n (.t N0 N1)) hi hlt
   subst ei;rw[List.drop_length]at hw1;refine c1i (fun s2=>Step ws s1 g1 s2 g1∧Sub g1 s2.heap) (fun _ _=>False) hg hn ?_ (fun s2 h2=>?_) (fun _ _ f=>f.elim)
   ·refine d8p (hit.done s1 g1 (fun s2=>Step ws s1 g1 s2 g1∧Sub g1 s2.heap) _ H1.rel.sub H1.ok.handled is1 fun s2 x2 sb2=>⟨x2,sb2⟩) (fun r s2 h2=>?_) fun _ _ e=>e
    cases r with
    |none=>exact h2
    |some v=>exact h2.elim
   obtain⟨x2,sb2⟩:=h2;have H2:Here C sc hz n A env g1 s2 al st1:=⟨H1.ok,H1.hz,H1.eok,H1.rel.move x2 sb2 fun b hb=>⟨(hws b hb).1,(hws b hb).2.1,(hws b hb).2.2.1⟩,H1.fr.step x2 fun b hb=>.inr (.inr (.inr fun o ho=>b1i hit is1 hb ho))⟩;exact kk s2 g1 st1 acc1 z1 H2 (x1.tr (x2.mono i1)) (a2z q1 H1.rel.sub x2 dws) hw1
 exact b1n hg loop (hit.self 0 _ _ _ _ his loop)
theorem d2b{t:T}{target iter elt:Expr}{pos:Pos}{d:Nat}{tw:St→(Bool→St→Prop)→Prop}{gg gall:G}{it:I}(so:SIOK sc)(ht:ckT sc t target=true)(hg:gens[d+1]?=some ⟨target,iter,ifs,0⟩)
 (hn:b5q gens (d+1+1) nxt)
 (htst:d0v C sc n hz tw ifs) (hin:c6g C Γ sc n hz gg elt gens scope pos nxt (d+1+1)) (hI:SIt C Γ sc n hz target it iter)
 (hall:∀st acc K,wpG Γ gall st acc K→wpI Γ it st fun ds st=>a1q (b5r Γ t tw gg) ds st acc K) :
  c6g C Γ sc n hz gall elt gens scope pos (some iter) (d+1):=fun A env g s al st Eh D acc K Q H dp q hw kk=>by
 refine hI A env g s al st Eh _ _ H (hall _ _ _ hw) fun I ws IS ds st1 s1 g1 a1 hit his hf hw1=>?_;have b1:=GAft.of H dp q a1;have hws:∀b∈ws,b∉al∧b∉C.TA∧b∉a4w env∧b≠D:=fun b hb=>by
  have hb':=hf b hb;refine⟨fun hm=>?_,fun hm=>?_,fun hm=>?_,fun hm=>?_⟩
  ·obtain⟨o,ho⟩:=H.rel.alh b hm; rw[ho]at hb'; cases hb'
  ·obtain⟨_,o,ho,_⟩:=H.rel.tabs b hm; rw[ho]at hb'; cases hb'
  ·obtain⟨o,ho⟩:=H.rel.plt b hm; rw[ho]at hb'; cases hb'
  ·subst hm; obtain⟨o,ho⟩:=q.alive H.rel.sub; rw[ho]at hb'; cases hb'
 refine c0z so ht hg hn htst hin A env g1 s1 al st1 D acc I ws IS ds K _ b1.here dp b1.dok hit his hws hw1 fun s2 g2 st2 acc2 z2 H2 x2 q2 hk=>?_;refine kk s2 g2 st2 acc2 ⟨z2.trans a1.hz,H2,?_,q2⟩ hk;refine b1.step.trans x2 fun b hb=>?_
 rcases List.mem_append.mp hb with h|h
 ·exact .inr (hf b h)
 ·exact .inl h
end
end
section
noncomputable def a2l(scope:Scope)(sc:SI):List (Str×NameKind):=scope.names.map fun(n,k)=>if (k==NameKind.free&&sc.names.lookup n==some NameKind.cell)then(n,NameKind.cell)else(n,k)
noncomputable def a1k(scope:Scope)(sc:SI)(tids:List (Str×Nat)):SI where
 names:=a2l scope sc
 ids:=tids++sc.ids.filter fun p=>scope.names.lookup p.1==some .free
 own:=(tids.map (·.1)).filter fun x=>scope.names.lookup x==some .cell
structure CompOK(scope:Scope)(sc:SI)(tids:List (Str×Nat))(is:List Nat):Prop where
 kind:scope.kind=.function
 nodup:(scope.names.map (·.1)).Nodup
 free:∀p∈scope.names,p.2=.free→sc.names.lookup p.1=some .cell∨sc.names.lookup p.1=some .free
 nd:((a1k scope sc tids).ids.map (·.2)).Nodup
 tid:∀p∈tids,scope.names.lookup p.1=some .local∨scope.names.lookup p.1=some .cell
 ids:tids.map (·.2)=is
theorem a0p{α:Type}{l:List (Str×α)}(hn:(l.map (·.1)).Nodup){a:α}(h:(x,a)∈l):l.lookup x=some a:=by
 induction l with
 |nil=>cases h
 |cons p r ih=>
  obtain⟨y,b⟩:=p;rw[List.map_cons,List.nodup_cons]at hn
  by_cases hxy:x=y
  ·subst hxy
   rcases List.mem_cons.mp h with e|e
   ·cases e; simp
   ·exact absurd (List.mem_map.mpr ⟨_,e,rfl⟩) hn.1
  ·have hb:(x==y)=false:=beq_false_of_ne hxy
   rw[List.lookup_cons,hb]
   rcases List.mem_cons.mp h with e|e
   ·cases e; exact absurd rfl hxy
   ·exact ih hn.2 e
theorem a3c{α:Type}{l:List (Str×α)}(h:x∉l.map (·.1)):l.lookup x=none:=by
 cases e:l.lookup x with
 |none=>rfl
 |some a=>exact absurd (List.mem_map.mpr ⟨_,d8k e,rfl⟩) h
theorem a3v{α:Type}(P:Str→Bool):∀(l:List (Str×α)) (x:Str),(l.filter fun p=>P p.1).lookup x=if P x then l.lookup x else none
 |[]=>fun x=>by simp
 |(y,b)::r=>fun x=>by
  by_cases hxy:x=y
  ·subst hxy
   cases hp:P x <;> simp[List.filter_cons,hp,a3v P r]
  ·have hb:(x==y)=false:=beq_false_of_ne hxy
   cases hp:P y <;> simp[List.filter_cons,hp,a3v P r,List.lookup_cons,hb]
theorem a3b{α:Type}:∀(l m:List (Str×α)) (x:Str),(l++m).lookup x=match l.lookup x with|some a=>some a|none=>m.lookup x
 |[]=>fun m x=>rfl
 |(y,b)::r=>fun m x=>by
  cases hb:x==y <;> simp[List.lookup_cons,hb,a3b r m x]
theorem b7u{l:List (Str×NameKind)}{f:Str→NameKind→NameKind}:∀(x:Str),(l.map fun p=>(p.1,f p.1 p.2)).lookup x=(l.lookup x).map (f x):=by
 intro x
 induction l with
 |nil=>rfl
 |cons p r ih=>
  obtain⟨y,k⟩:=p;cases hb:x==y
  ·simp[List.lookup_cons,hb,ih]
  ·have:x=y:=by simpa using hb
   subst this
   simp
theorem b5z(scope:Scope)(sc:SI):a2l scope sc=scope.names.map fun p=>(p.1,if (p.2==NameKind.free&&sc.names.lookup p.1==some NameKind.cell)then NameKind.cell else p.2):=by
 unfold a2l;refine List.map_congr_left fun p _=>?_;obtain⟨n,k⟩:=p;dsimp only
 split <;> rfl
theorem a1u(scope:Scope)(sc:SI)(x:Str):(a2l scope sc).lookup x=(scope.names.lookup x).map fun k=>if (k==NameKind.free&&sc.names.lookup x==some NameKind.cell)then NameKind.cell else k:=by
 rw[b5z]; exact b7u (f:=fun n k=>if (k==NameKind.free&&sc.names.lookup n==some NameKind.cell)then NameKind.cell else k) x
theorem a0n:∀(names:List (Str×NameKind)) (n:Nat) (acc:List (Str×Addr)),(names.map (·.1)).Nodup→∀x,(names.lookup x≠some .cell→(cellsFrom n names acc).lookup x=acc.lookup x)∧(names.lookup x=some .cell→∃c,(cellsFrom n names acc).lookup x=some c∧n≤c)
 |[]=>fun n acc _ x=>⟨fun _=>rfl,fun h=>by simp at h⟩
 |(y,k)::r=>fun n acc hn x=>by
  rw[List.map_cons,List.nodup_cons]at hn;unfold cellsFrom
  by_cases hxy:x=y
  ·subst hxy
   have hr:r.lookup x≠some .cell:=by rw[a3c hn.1]; simp
   rw[List.lookup_cons,beq_self_eq_true];dsimp only
   by_cases hk:k=.cell
   ·subst hk
    refine⟨fun h=>absurd rfl h,fun _=>⟨n,?_,Nat.le_refl _⟩⟩
    have:=(a0n r (n+1) ((x,n)::acc) hn.2 x).1 hr
    simpa using this
   ·have hkb:(k==NameKind.cell)=false:=by simpa using hk
    rw[hkb];exact⟨fun _=>(a0n r n acc hn.2 x).1 hr,fun h=>absurd (Option.some.inj h) hk⟩
  ·have hb:(x==y)=false:=beq_false_of_ne hxy
   rw[List.lookup_cons,hb];dsimp only
   by_cases hk:k=.cell
   ·subst hk
    obtain⟨h1,h2⟩:=a0n r (n+1) ((y,n)::acc) hn.2 x;refine⟨fun h=>?_,fun h=>?_⟩
    ·have:=h1 h; rw[List.lookup_cons,hb]at this; simpa using this
    ·obtain⟨c,hc,hle⟩:=h2 h; exact⟨c,by simpa using hc,by omega⟩
   ·have hkb:(k==NameKind.cell)=false:=by simpa using hk
    rw[hkb];exact a0n r n acc hn.2 x
theorem a1b:∀(names:List (Str×NameKind)) (n:Nat) (acc:List (Str×Addr)),cellsFrom n names acc=cellsFrom n names []++acc
 |[]=>fun _ _=>rfl
 |(y,k)::r=>fun n acc=>by
  unfold cellsFrom;split
  ·rw[a1b r (n+1) ((y,n)::acc),a1b r (n+1) [(y,n)],List.append_assoc]; rfl
  ·exact a1b r n acc
noncomputable def a0y(env:Env):List (Str×NameKind)→List (Str×Addr)→List (Str×Addr)
 |[],acc=>acc
 |(x,k)::r,acc=>if k==NameKind.free then a0y env r ((x,(env.cells.lookup x).getD 0)::acc)else a0y env r acc
theorem a6i(h:∀p∈scope.names,p.2=.free→∃c,env.cells.lookup p.1=some c):closureFor scope env=pure (a0y env scope.names []):=by
 unfold closureFor;have key:∀(l:List (Str×NameKind)) (acc:List (Str×Addr)),(∀p∈l,p.2=.free→∃c,env.cells.lookup p.1=some c)→
   (forIn l acc fun(x:Str×NameKind) cs=>match x with
    |(name,kind)=>if (kind==NameKind.free)=true then do
      let a ←cellOf env name
      pure (ForInStep.yield ((name,a)::cs))
     else pure (ForInStep.yield cs):Sem (List (Str×Addr)))=pure (a0y env l acc):=by
  intro l
  induction l with
  |nil=>intro acc _; rfl
  |cons p r ih=>
   intro acc hp;obtain⟨x,kd⟩:=p;have ihr:=fun a=>ih a fun q hq=>hp q (List.mem_cons_of_mem _ hq);rw[List.forIn_cons];dsimp only[a0y]
   by_cases hk:kd=.free
   ·subst hk
    obtain⟨c,hc⟩:=hp (x,.free) (.head _) rfl;have hc:env.cells.lookup x=some c:=hc;simp only[beq_self_eq_true,if_true,cellOf,hc,Option.getD_some];exact ihr _
   ·have hkb:(kd==NameKind.free)=false:=by simpa using hk
    simp only[hkb,Bool.false_eq_true,if_false];exact ihr _
 have:=key scope.names [] h
 refine Eq.trans (congrArg (· >>= pure) ?_) (congrArg (· >>= pure) this)
 rfl
theorem a3g{env:Env}:∀{names:List (Str×NameKind)} {acc:List (Str×Addr)} {x:Str} {c:Addr},(x,c)∈a0y env names acc→(x,c)∈acc∨((x,NameKind.free)∈names∧c=(env.cells.lookup x).getD 0)
 |[],acc,x,c,h=>.inl h
 |(y,k)::r,acc,x,c,h=>by
  dsimp only[a0y]at h
  split at h
  ·rename_i hk
   have hk:k=.free:=by simpa using hk
   subst hk
   rcases a3g h with h|⟨h,e⟩
   ·rcases List.mem_cons.mp h with e|h
    ·cases e; exact .inr ⟨.head _,rfl⟩
    ·exact .inl h
   ·exact .inr ⟨List.mem_cons_of_mem _ h,e⟩
  ·rcases a3g h with h|⟨h,e⟩
   ·exact .inl h
   ·exact .inr ⟨List.mem_cons_of_mem _ h,e⟩
theorem a2c{env:Env}:∀{names:List (Str×NameKind)} {acc:List (Str×Addr)},((names.map (·.1)).Nodup)→((acc.map (·.1)).Nodup)→(∀x∈acc.map (·.1),x∉names.map (·.1))→((a0y env names acc).map (·.1)).Nodup
 |[],acc,_,h,_=>h
 |(y,k)::r,acc,hn,ha,hd=>by
  rw[List.map_cons,List.nodup_cons]at hn;dsimp only[a0y];split
  ·refine a2c hn.2 ?_ fun x hx=>?_
   ·rw[List.map_cons,List.nodup_cons]
    exact⟨fun hm=>hd y hm (by simp),ha⟩
   ·rcases List.mem_cons.mp hx with e|hx
    ·subst e; exact hn.1
    ·intro hm; exact hd x hx (by rw[List.map_cons]; exact List.mem_cons_of_mem _ hm)
  ·exact a2c hn.2 ha fun x hx hm=>hd x hx (by rw[List.map_cons]; exact List.mem_cons_of_mem _ hm)
theorem a6k{env:Env}:∀{names:List (Str×NameKind)} {acc:List (Str×Addr)} {p:Str×Addr},(p∈acc∨((p.1,NameKind.free)∈names∧p.2=(env.cells.lookup p.1).getD 0))→p∈a0y env names acc
 |[],acc,p,h=>by
  rcases h with h|⟨h,_⟩
  ·exact h
  ·cases h
 |(y,k)::r,acc,p,h=>by
  dsimp only[a0y];split
  ·refine a6k ?_
   rcases h with h|⟨h,e⟩
   ·exact .inl (List.mem_cons_of_mem _ h)
   ·rcases List.mem_cons.mp h with e'|h
    ·cases e'; exact .inl (by obtain⟨a,b⟩:=p; dsimp only at e ⊢; subst e; exact .head _)
    ·exact .inr ⟨h,e⟩
  ·rename_i hk
   refine a6k ?_
   rcases h with h|⟨h,e⟩
   ·exact .inl h
   ·rcases List.mem_cons.mp h with e'|h
    ·cases e'; simp at hk
    ·exact .inr ⟨h,e⟩
theorem a8w(st:St)(is:List Nat)(i:Nat):(i∈is→(st.clr is).get i=.undef)∧(i∉is→(st.clr is).get i=st.get i):=by
 have key:∀(is:List Nat) (vs:List V),((vs.getD i .undef=.undef∨i∈is)→(is.foldl (fun vs j=>vs.set j .undef) vs).getD i .undef=.undef)∧(i∉is→(is.foldl (fun vs j=>vs.set j .undef) vs).getD i .undef=vs.getD i .undef):=by
  intro is
  induction is with
  |nil=>intro vs; exact⟨fun h=>h.elim id (fun h=>nomatch h),fun _=>rfl⟩
  |cons j r ih=>
   intro vs;rw[List.foldl_cons];have hs:∀(a:Nat),(vs.set a V.undef).getD i .undef=if a=i then .undef else vs.getD i .undef:=fun a=>by
    simp only[List.getD_eq_getElem?_getD,List.getElem?_set];split
    ·split <;> rfl
    ·rfl
   refine⟨fun h=>(ih _).1 ?_,fun h=>?_⟩
   ·rw[hs]
    split
    ·exact .inl rfl
    ·rename_i hji
     rcases h with h|h
     ·exact .inl h
     ·rcases List.mem_cons.mp h with e|h
      ·exact absurd e.symm hji
      ·exact .inr h
   ·rw[List.mem_cons,not_or]at h
    rw[(ih _).2 h.2,hs,if_neg (fun e=>h.1 e.symm)]
 exact⟨fun h=>(key is st.vars).1 (.inr h),fun h=>(key is st.vars).2 h⟩
end
section
section
variable {C:Cfg} {Γ:Ctx} {sc:SI} {n:Nat} {hz:Bool} {k:Ck}
noncomputable def a1t(scope:Scope)(env:Env)(L:Nat):List (Str×Addr):=cellsFrom (L+1) scope.names (a0y env scope.names [])
noncomputable def a2k(scope:Scope)(env:Env)(L:Nat):Env:=
 { scope:=relabel scope env,locals:=L,globals:=env.globals,cells:=a1t scope env L,qual:=env.qual,func:=none,code:=env.code,frame:=env.frame,builtins:=env.builtins }
theorem b6g{s:d8f}{Q:Env→d8f→Prop}
 (h:∀env':Env,{ env' with scope:=relabel scope env }=a2k scope env s.heap.objs.size→env'.locals=s.heap.objs.size→Q env' { s with heap:=pushCells (s.heap.push { cls:=.type "dict",data:=.dict #[] }) scope.names }) :
  d8i (model C.prog C.w) A (newFunctionEnv scope env.globals (a0y env scope.names []) [] env.qual none .none (some env)) Q Eh s:=by
 simp only[newFunctionEnv,Option.isSome_some,if_true];refine d8d (wpAny_alloc ?_);refine d8d (wpAny_layCells _ (fun name kind cells=>by cases hkc:kind==NameKind.cell <;> simp[hkc]) _ _ _ _ ?_)
 rw[show({ s with heap:=s.heap.push { cls:=.type "dict",data:=.dict #[] } }:d8f).heap.objs.size=s.heap.objs.size+1 from Heap.size_push ..]
 exact d8d (d8h (d8h (h _ rfl rfl)))
theorem a3o(e:EnvOK sc env):(relabel scope env).names=a2l scope sc:=by
 show(scope.names.map fun(n,k)=>if (k==NameKind.free&&env.scope.kind==ScopeKind.function&&env.kindOf n==some NameKind.cell)then(n,NameKind.cell)else(n,k))=_
 unfold a2l;refine List.map_congr_left fun p _=>?_;obtain⟨x,kd⟩:=p;dsimp only;rw[e.kind,e.kindOf,show(ScopeKind.function==ScopeKind.function)=true from rfl,Bool.and_true]
theorem b5o{is:List Nat}(ok:CompOK scope sc tids is) :(a2l scope sc).lookup x=some .cell∨(a2l scope sc).lookup x=some .free→scope.names.lookup x=some .cell∨scope.names.lookup x=some .free:=by
 rw[a1u];cases e:scope.names.lookup x with
 |none=>exact fun h=>h.elim (fun h=>nomatch h) fun h=>nomatch h
 |some kd=>cases kd <;> first|exact fun _=>.inl rfl|exact fun _=>.inr rfl|exact fun h=>h.elim (fun h=>nomatch h) fun h=>nomatch h
theorem b6r(h:(a1k scope sc tids).ids.lookup x=some i):(tids.lookup x=some i)∨(scope.names.lookup x=some .free∧sc.ids.lookup x=some i∧tids.lookup x=none):=by
 have h:(tids++sc.ids.filter fun p=>scope.names.lookup p.1==some NameKind.free).lookup x=some i:=h;rw[a3b]at h;cases e:tids.lookup x with
 |some j=>rw[e]at h; exact .inl h
 |none=>
  rw[e]at h;have h:(sc.ids.filter fun p=>scope.names.lookup p.1==some NameKind.free).lookup x=some i:=h;rw[a3v (fun y=>scope.names.lookup y==some NameKind.free)]at h
  split at h
  ·rename_i hf; exact .inr ⟨by simpa using hf,h,rfl⟩
  ·cases h
theorem a2p{is:List Nat}(ok:CompOK scope sc tids is):SIOK (a1k scope sc tids):=⟨ok.nd,fun x i h=>by
 rw[show(a1k scope sc tids).names=a2l scope sc from rfl,a1u]
 rcases b6r h with h|⟨h,_,_⟩
 ·rcases ok.tid _ (d8k h)with e|e
  ·rw[show scope.names.lookup x=some .local from e]; exact .inl rfl
  ·rw[show scope.names.lookup x=some .cell from e]; exact .inr (.inl rfl)
 ·rw[h]
  by_cases hc:sc.names.lookup x=some .cell
  ·right; left; simp[hc]
  ·right; right; simp[hc]⟩
theorem b7t{s:d8f}{al:List Addr}{st:St}{is:List Nat}(so:SIOK sc)(ok:CompOK scope sc tids is)(H:Here C sc hz n A env g s al st){tk:Nat} :
  Here C (a1k scope sc tids) hz n A (a2k scope env s.heap.objs.size) g { s with heap:=pushCells (s.heap.push { cls:=.type "dict",data:=.dict #[] }) scope.names,toks:=tk } al (st.clr is) ∧
  SIOK (a1k scope sc tids)∧(∀b∈wr (a1k scope sc tids) (a2k scope env s.heap.objs.size),s.heap.get? b=none) ∧
  Sub s.heap (pushCells (s.heap.push { cls:=.type "dict",data:=.dict #[] }) scope.names) ∧
  (∀D,s.heap.get? D≠none→D∉al→D∉C.TA→D∉a4w env→DSep C (a2k scope env s.heap.objs.size) al D):=by
 have sb:Sub s.heap (pushCells (s.heap.push { cls:=.type "dict",data:=.dict #[] }) scope.names):=fun b o e=>pushCells_keeps _ _ b o (a0e _ b o e);have R:=H.rel;have R1:Rel C sc env g (pushCells (s.heap.push { cls:=.type "dict",data:=.dict #[] }) scope.names) al st:=R.step (s':={ s with heap:=pushCells (s.heap.push { cls:=.type "dict",data:=.dict #[] }) scope.names,toks:=tk }) (Step.ext sb) (R.sub.trans sb)
 generalize hL:s.heap.objs.size=L at *;generalize hH:pushCells (s.heap.push { cls:=.type "dict",data:=.dict #[] }) scope.names=H1 at *;have okc:CellsOk H1 (L+1) (cellsFrom (L+1) scope.names []):=by
  have:=cellsFrom_ok scope.names (s.heap.push { cls:=.type "dict",data:=.dict #[] }) (L+1) [] ⟨fun _ _ hm=>(nomatch hm),List.Pairwise.nil⟩ (by rw[Heap.size_push,hL]; exact Nat.le_refl _)
  rw[Heap.size_push,hL,hH]at this
  exact this
 have hns:H1.Ns L fun _=>none:=by
  have:=(Heap.Ns.new s.heap (.type "dict")).keeps (pushCells_keeps scope.names (s.heap.push { cls:=.type "dict",data:=.dict #[] }))
  rw[hL,hH]at this
  exact this
 have old:∀{b:Addr},(∃o,s.heap.get? b=some o)→b<L:=fun h=>h.elim fun o ho=>hL▸Heap.lt_size ho;have new:∀{b:Addr},L≤b→s.heap.get? b=none:=fun{b} hb=>a0s (hL▸hb);have fc:∀p∈scope.names,p.2=.free→∃c v,env.cells.lookup p.1=some c∧s.heap.IsCell c v:=fun p hp hf=>R.cell p.1 (ok.free p hp hf);have clm:∀{x:Str} {c:Addr},(x,c)∈a0y env scope.names []→(x,NameKind.free)∈scope.names∧env.cells.lookup x=some c:=fun{x c} hm=>by
  rcases a3g hm with h|⟨h,e⟩
  ·cases h
  ·obtain⟨c',v,hc,_⟩:=fc _ h rfl
   have hc:env.cells.lookup x=some c':=hc;rw[hc]at e;exact⟨h,e▸hc⟩
 have clp:∀{x:Str} {c:Addr},(x,c)∈a0y env scope.names []→c∈a4w env:=fun hm=>List.mem_cons_of_mem _ (List.mem_map.mpr ⟨_,d8k (clm hm).2,rfl⟩);have clo:∀{x:Str} {c:Addr},(x,c)∈a0y env scope.names []→c<L:=fun hm=>old (R.plt _ (clp hm));have own:∀{x:Str} {c:Addr},(x,c)∈cellsFrom (L+1) scope.names []→L+1≤c∧H1.IsCell c none:=fun hm=>⟨(okc.empty _ _ hm).2,(okc.empty _ _ hm).1⟩;have ceq:a1t scope env L=cellsFrom (L+1) scope.names []++a0y env scope.names []:=a1b _ _ _;have lkCell:∀{x:Str},scope.names.lookup x=some .cell→∃c,(a1t scope env L).lookup x=some c∧(x,c)∈cellsFrom (L+1) scope.names []:=fun{x} hx=>by
  obtain⟨c,hc,_⟩:=(a0n scope.names (L+1) [] ok.nodup x).2 hx;obtain⟨c',hc',_⟩:=(a0n scope.names (L+1) (a0y env scope.names []) ok.nodup x).2 hx;refine⟨c,?_,d8k hc⟩;rw[ceq,a3b,hc]
 have lkFree:∀{x:Str} {c:Addr},scope.names.lookup x=some .free→env.cells.lookup x=some c→(a1t scope env L).lookup x=some c:=fun{x c} hx hc=>by
  have h1:(a1t scope env L).lookup x=(a0y env scope.names []).lookup x:=(a0n scope.names (L+1) _ ok.nodup x).1 (by rw[hx]; simp)
  rw[h1];refine a0p (a2c (acc:=[]) ok.nodup List.nodup_nil (fun _ h=>nomatch h)) (a6k (.inr ⟨d8k hx,?_⟩));show c=(env.cells.lookup x).getD 0;rw[hc]; rfl
 have pmem:∀b∈a4w (a2k scope env L),b=L∨(∃x,(x,b)∈cellsFrom (L+1) scope.names [])∨∃x,(x,b)∈a0y env scope.names []:=fun b hb=>by
  rcases List.mem_cons.mp hb with h|h
  ·exact .inl h
  ·obtain⟨⟨x,c⟩,hp,rfl⟩:=List.mem_map.mp h
   have hp:(x,c)∈a1t scope env L:=hp;rw[ceq]at hp
   rcases List.mem_append.mp hp with h|h
   ·exact .inr (.inl ⟨x,h⟩)
   ·exact .inr (.inr ⟨x,h⟩)
 have sid:∀{x:Str} {i:Nat},(a1k scope sc tids).ids.lookup x=some i→(tids.lookup x=some i)∨(scope.names.lookup x=some .free∧sc.ids.lookup x=some i∧tids.lookup x=none):=fun h=>b6r h;have soI:SIOK (a1k scope sc tids):=a2p ok;refine⟨⟨H.ok,H.hz,⟨ok.kind,a3o H.eok,H.eok.globals,H.eok.builtins⟩,?_,?_⟩,soI,fun b hb=>?_,sb,fun D hD h1 h2 h3=>⟨h1,h2,fun hm=>?_⟩⟩
 ·exact{
   sub:=R1.sub,amb:=R1.amb,nd:=R1.nd,tabs:=R1.tabs
   ns:=⟨_,hns⟩
   cell:=fun x hx=>by
    rcases b5o ok hx with h|h
    ·obtain⟨c,hc,hm⟩:=lkCell h
     exact⟨c,none,hc,(own hm).2⟩
    ·obtain⟨c,v,hc,o,ho,hd⟩:=fc _ (d8k h) rfl
     exact⟨c,v,lkFree h hc,o,sb _ _ ho,hd⟩
   vars:=fun x i hi=>by
    rcases sid hi with h|⟨h,h',h''⟩
    ·exact .inl fun u hu=>hu▸(a8w st is i).1 (ok.ids▸List.mem_map.mpr ⟨_,d8k h,rfl⟩)
    ·have hni:i∉is:=fun hm=>by
      rw[←ok.ids]at hm;obtain⟨⟨y,j⟩,hy,e⟩:=List.mem_map.mp hm;have e:j=i:=e;subst e;have hnd:=ok.nd;have h1:((tids++sc.ids.filter fun p=>scope.names.lookup p.1==some NameKind.free).map (·.2)).Nodup:=hnd;rw[List.map_append,List.nodup_append]at h1;refine h1.2.2 j (List.mem_map.mpr ⟨_,hy,rfl⟩) j (List.mem_map.mpr ⟨(x,j),List.mem_filter.mpr ⟨d8k h',by simp[h]⟩,rfl⟩) rfl
     rw[(a8w st is i).2 hni]
     rcases R1.vars x i h' with h0|⟨v,hl,hv⟩
     ·exact .inl h0
     ·refine .inr ⟨v,?_,hv⟩
      obtain⟨c,_,hc,_⟩:=fc _ (d8k h) rfl;have hc:env.cells.lookup x=some c:=hc;have hkx:=ok.free _ (d8k h) rfl;have hkx:sc.names.lookup x=some .cell∨sc.names.lookup x=some .free:=hkx
      rcases hl with⟨hk,_⟩|⟨_,c',hc',hcell⟩
      ·rw[H.eok.kindOf]at hk
       rcases hkx with e|e <;> rw[e]at hk <;> cases hk
      ·rw[hc]at hc'; cases hc'
       refine .inr ⟨?_,c,lkFree h hc,hcell⟩;show(relabel scope env).names.lookup x=_∨(relabel scope env).names.lookup x=_;rw[a3o H.eok,a1u,h]
       by_cases hcc:sc.names.lookup x=some .cell
       ·left; simp[hcc]
       ·right; simp[hcc]
   olen:=R1.olen,own:=R1.own,alnd:=R1.alnd
   pnd:=by
    show(L::(a1t scope env L).map (·.2)).Nodup;rw[List.nodup_cons,ceq,List.map_append];refine⟨fun hm=>?_,?_⟩
    ·rcases List.mem_append.mp hm with h|h <;> obtain⟨⟨x,c⟩,hp,e⟩:=List.mem_map.mp h
     ·have:=(own hp).1; have e:c=L:=e; exact Nat.lt_irrefl L (e▸this)
     ·have:=clo hp; have e:c=L:=e; exact Nat.lt_irrefl L (e▸this)
    ·rw[List.nodup_append]
     refine⟨List.pairwise_map.mpr okc.apart,?_,fun a ha b hb e=>?_⟩
     ·have hk:=a2c (env:=env) (names:=scope.names) (acc:=[]) ok.nodup List.nodup_nil (fun _ h=>nomatch h)
      have hnd:=(List.nodup_cons.mp R.pnd).2;have hk:=List.pairwise_map.mp hk;refine List.pairwise_map.mpr (List.Pairwise.imp_of_mem (fun{p q} hp hq hne=>?_) hk);obtain⟨x,c⟩:=p;obtain⟨y,d⟩:=q;exact a3h hnd (clm hp).2 (clm hq).2 hne
     ·obtain⟨⟨x,c⟩,hp,e1⟩:=List.mem_map.mp ha
      obtain⟨⟨y,d⟩,hq,e2⟩:=List.mem_map.mp hb;have h1:=(own hp).1;have h2:=clo hq;have e1:c=a:=e1;have e2:d=b:=e2;have e3:c=d:=e1.trans (e.trans e2.symm);exact Nat.lt_irrefl _ (Nat.lt_trans (e3▸h1) h2)
   pgl:=a3d R.sub (new (Nat.le_refl _))
   pgc:=fun x c hk hc=>by
    have hc:(a1t scope env L).lookup x=some c:=hc;have hm:=d8k hc;rw[ceq]at hm
    rcases List.mem_append.mp hm with h|h
    ·exact a3d R.sub (new (Nat.le_of_succ_le (own h).1))
    ·have hk:(relabel scope env).names.lookup x=some .cell:=hk
     rw[a3o H.eok,a1u,a0p ok.nodup (clm h).1]at hk;have hcc:sc.names.lookup x=some .cell:=by
      by_cases q:sc.names.lookup x=some .cell
      ·exact q
      ·simp[q]at hk
     exact R.pgc x c (by rw[H.eok.kindOf]; exact hcc) (clm h).2
   plt:=fun b hb=>by
    rcases pmem b hb with rfl|⟨x,h⟩|⟨x,h⟩
    ·obtain⟨o,_,_,ho,_⟩:=hns; exact⟨o,ho⟩
    ·obtain⟨o,ho,_⟩:=(own h).2; exact⟨o,ho⟩
    ·exact R1.plt b (clp h)
   pal:=fun b hb hm=>by
    rcases pmem b hb with rfl|⟨x,h⟩|⟨x,h⟩
    ·exact Nat.lt_irrefl _ (old (R.alh _ hm))
    ·exact Nat.lt_irrefl _ (Nat.lt_trans (own h).1 (old (R.alh _ hm)))
    ·exact R.pal b (clp h) hm
   pta:=fun b hb hm=>by
    have al':∃o,s.heap.get? b=some o:=(R.tabs b hm).2.imp fun _=>And.left
    rcases pmem b hb with rfl|⟨x,h⟩|⟨x,h⟩
    ·exact Nat.lt_irrefl _ (old al')
    ·exact Nat.lt_irrefl _ (Nat.lt_trans (own h).1 (old al'))
    ·exact R.pta b (clp h) hm
   ata:=R1.ata,base:=R1.base }
 ·obtain⟨fs,f1,f2⟩:=H.fr
  refine⟨fs,f1,fun e he=>?_⟩;obtain⟨f3,L',f4,f5⟩:=f2 e he;refine⟨f3,L',f4,.inr ?_⟩;have key:∀L',(∃o es ep,s.heap.get? L'=some o∧o.data=.dict es ep)→g.get? L'=none→L'∉al→L'∉C.TA→L'∉env.cells.map (·.2)→g.get? L'=none∧L'∉al∧L'∉C.TA∧L'∉a4w (a2k scope env L)∧∃o es ep,H1.get? L'=some o∧o.data=.dict es ep:=fun L' ⟨o,es,ep,a1,a2⟩ b1 b2 b3 b4=>by
   refine⟨b1,b2,b3,fun hm=>?_,o,es,ep,sb _ _ a1,a2⟩
   rcases pmem L' hm with rfl|⟨x,h⟩|⟨x,h⟩
   ·exact Nat.lt_irrefl _ (old ⟨o,a1⟩)
   ·exact Nat.lt_irrefl _ (Nat.lt_trans (own h).1 (old ⟨o,a1⟩))
   ·exact b4 (List.mem_map.mpr ⟨_,d8k (clm h).2,rfl⟩)
  rcases f5 with rfl|⟨a1,a2,a3,a4,a5⟩
  ·obtain⟨m,o,es,ep,ho,hd,_⟩:=R.ns
   exact key _ ⟨o,es,ep,ho,hd⟩ R.pgl (R.pal _ (.head _)) (R.pta _ (.head _)) (List.nodup_cons.mp R.pnd).1
  ·exact key _ a5 a1 a2 a3 fun hm=>a4 (List.mem_cons_of_mem _ hm)
 ·rcases List.mem_cons.mp hb with rfl|h
  ·exact new (Nat.le_refl _)
  ·obtain⟨x,hx,hc⟩:=List.mem_filterMap.mp h
   have hx:x∈(tids.map (·.1)).filter fun x=>scope.names.lookup x==some NameKind.cell:=hx;obtain⟨_,hx⟩:=List.mem_filter.mp hx;have hx:scope.names.lookup x=some .cell:=by simpa using hx
   obtain⟨c,hc',hm⟩:=lkCell hx;have hc:(a1t scope env L).lookup x=some b:=hc;rw[hc']at hc; cases hc;exact new (Nat.le_of_succ_le (own hm).1)
 ·have hD:∃o,s.heap.get? D=some o:=by
   cases e:s.heap.get? D with
   |none=>exact absurd e hD
   |some o=>exact⟨o,rfl⟩
  rcases pmem D hm with rfl|⟨x,h⟩|⟨x,h⟩
  ·exact Nat.lt_irrefl _ (old hD)
  ·exact Nat.lt_irrefl _ (Nat.lt_trans (own h).1 (old hD))
  ·exact h3 (clp h)
end
end
section
section
variable {C:Cfg} {Γ:Ctx} {sc:SI} {n:Nat} {hz:Bool} {k:Ck}
theorem c5f{st:St}{is:List Nat}(h:∀i∈is,st.get i=.undef):st.clr is=st:=by
 have key:∀(is:List Nat) (vs:List V),(∀i∈is,vs.getD i .undef=.undef)→is.foldl (fun vs i=>vs.set i .undef) vs=vs:=by
  intro is
  induction is with
  |nil=>intro vs _; rfl
  |cons i r ih=>
   intro vs h;rw[List.foldl_cons];have e:vs.set i .undef=vs:=by
    have h1:=h i (.head _)
    by_cases hl:i<vs.length
    ·have:vs[i]=V.undef:=by rw[List.getD_eq_getElem?_getD,List.getElem?_eq_getElem hl]at h1; exact h1
     rw[←this]; exact List.set_getElem_self hl
    ·exact List.set_eq_of_length_le (by omega)
   rw[e];exact ih vs fun j hj=>h j (List.mem_cons_of_mem _ hj)
 show({ st with vars:=_ }:St)=st
 rw[key is st.vars h]
theorem Rel.clr{g h:Heap}{al:List Addr}{st:St}(R:Rel C sc env g h al st)(is:List Nat):Rel C sc env g h al (st.clr is):=
 {
  R with
  vars:=fun x i hi=>by
   by_cases hm:i∈is
   ·exact .inl fun u hu=>hu▸(a8w st is i).1 hm
   ·rw[(a8w st is i).2 hm]; exact R.vars x i hi
  olen:=R.olen,own:=R.own }
theorem a8a{t:T}{target iter elt:Expr}{rest:List d8n}{pos p0:Pos}{tw:St→(Bool→St→Prop)→Prop}{gg gall:G}{it:I} 
 (so:SIOK sc) (ok:CompOK scope sc tids gall.ids) (ht:ckT (a1k scope sc tids) t target=true) (hfold:∀env x,foldedSetIterable iter env x=pure x) (hn:b5q (⟨target,iter,ifs,0⟩::rest) 1 nxt)
 (hI:SIt C Γ sc n hz target it iter) (htst:d0v C (a1k scope sc tids) n hz tw ifs) (hin:c6g C Γ (a1k scope sc tids) n hz gg elt (⟨target,iter,ifs,0⟩::rest) scope pos nxt 1)
 (hall:∀st acc K,wpG Γ gall st acc K→wpI Γ it st fun ds st=>a1q (b5r Γ t tw gg) ds st acc K)
 (A:d8q) (env:Env) (g:Heap) (s:d8f) (al:List Addr) (st:St) (Eh:d8g→d8f→Prop) (use:Option (d8g→Sem Unit)) (Q:d8e→St→Prop) (Q':d8g→d8f→Prop) (H:Here C sc hz n A env g s al st)
 (hw:wpG Γ gall (st.clr gall.ids) [] fun acc st'=>Q (.list acc) { st' with vars:=st.vars })
 (fin:∀(D L:Addr) acc s' g' st',Aft C sc env al g s st g' s' st'→s.heap.get? D=none→OwnOK g' s'.heap D (.lst acc)→s.heap.get? L=none→L≠D→(∃m,s'.heap.Ns L m)→g'.get? L=none→Q (.list acc) st'→
 compPost (model C.prog C.w) A Eh use Q' (.ref D) L (.ok .next) s') :
  d8i (model C.prog C.w) A (comprehension (.ListComp elt (⟨target,iter,ifs,0⟩::rest) scope pos) scope env p0 (newList []) false (eval iter env) use) Q' Eh s:=by
 have hfree:∀p∈scope.names,p.2=.free→∃c,env.cells.lookup p.1=some c:=fun p hp hf=>by
  obtain⟨c,_,hc,_⟩:=H.rel.cell p.1 (ok.free p hp hf); exact⟨c,hc⟩
 have hnames:∀x∈scope.names,x.2=.local→scope.names.lookup x.1=some .local:=fun x hx he=>by
  obtain⟨y,kd⟩:=x;have he:kd=.local:=he;subst he;exact a0p ok.nodup hx
 refine wpAny_comprehension_free rfl (fun x=>hfold env x) (a6i hfree) ok.kind hnames ?_;have H0:Here C sc hz n A env g s al (st.clr gall.ids):=⟨H.ok,H.hz,H.eok,H.rel.clr _,H.fr⟩;refine hI A env g s al (st.clr gall.ids) Eh _ _ H0 (hall _ _ _ hw) fun I ws IS ds st1 s1 g1 a1 hit his hf hw1=>?_;have H1:=H0.go a1;refine wpAny_newList ?_ (by decide)
 have sb1:Sub s1.heap (s1.heap.push { cls:=.type "list",data:=.seq ([]:List d8g).toArray }):=a0e _;have hDn:s1.heap.get? s1.heap.objs.size=none:=a0d _;have hDp:(s1.heap.push { cls:=.type "list",data:=.seq ([]:List d8g).toArray }).get? s1.heap.objs.size=some { cls:=.type "list",data:=.seq ([]:List d8g).toArray }:=Heap.get?_push_size _ rfl;generalize hD:s1.heap.objs.size=D at *;have x2:Step [] s1 g1 { s1 with heap:=s1.heap.push { cls:=.type "list",data:=.seq ([]:List d8g).toArray } } g1:=Step.ext (tk:=s1.toks) sb1
 have a2:=H1.stay { s1 with heap:=s1.heap.push { cls:=.type "list",data:=.seq ([]:List d8g).toArray } } x2 (H1.rel.sub.trans sb1)
 have H2:=H1.go a2;have fresh1:∀{b:Addr},s.heap.get? b=none→b∉al∧b∉C.TA∧b∉a4w env:=fun{b} hb=>by
  refine⟨fun hm=>?_,fun hm=>?_,fun hm=>?_⟩
  ·obtain⟨o,ho⟩:=H.rel.alh b hm; rw[ho]at hb; cases hb
  ·obtain⟨_,o,ho,_⟩:=H.rel.tabs b hm; rw[ho]at hb; cases hb
  ·obtain⟨o,ho⟩:=H.rel.plt b hm; rw[ho]at hb; cases hb
 have Dfr:s.heap.get? D=none:=a0w a1 hDn;generalize hs2:({ s1 with heap:=s1.heap.push { cls:=.type "list",data:=.seq ([]:List d8g).toArray } }:d8f)=s2 at *
 have hs2h:s2.heap=s1.heap.push { cls:=.type "list",data:=.seq ([]:List d8g).toArray }:=by rw[←hs2]
 refine b6g fun env' he hl=>?_;obtain⟨H3,soI,hwr,sb3,hsep⟩:=b7t (tids:=tids) (is:=gall.ids) so ok H2 (tk:=s2.toks);have ec:st1.clr gall.ids=st1:=c5f fun i hi=>by
  have:st1.get i=(st.clr gall.ids).get i:=by unfold St.get; rw[a1.vars]
  rw[this]; exact(a8w st gall.ids i).1 hi
 rw[ec]at H3;rw[he];have hl':env'.locals=(a2k scope env s2.heap.objs.size).locals:=by rw[←he]
 rw[hl'];have x3:Step [] s2 g1 { s2 with heap:=pushCells (s2.heap.push { cls:=.type "dict",data:=.dict #[] }) scope.names } g1:=Step.ext (tk:=s2.toks) sb3
 have Dal:s2.heap.get? D≠none:=by rw[hs2h,hDp]; simp
 obtain⟨d1,d2,d3⟩:=fresh1 Dfr;have dp:=hsep D Dal d1 d2 d3;have hws:∀b∈ws,b∉al∧b∉C.TA∧b∉a4w (a2k scope env s2.heap.objs.size)∧b≠D:=fun b hb=>by
  obtain⟨b1,b2,b3⟩:=fresh1 (hf b hb);obtain⟨_,o,ho,_⟩:=hit.here 0 _ _ his b hb;have q:=hsep b (by rw[hs2h,sb1 _ _ ho]; simp) b1 b2 b3
  refine⟨b1,b2,q.pr,fun e=>?_⟩;subst e; rw[hDn]at ho; cases ho
 have q2:OwnOK g1 s2.heap D (.lst []):=⟨a3d a1.rel.sub hDn,[],⟨0,by rw[hs2h]; exact hDp⟩,RDs.nil⟩
 have q3:=a2z q2 (by rw[hs2h]; exact a1.rel.sub.trans sb1) x3 (by simp)
 have is3:=a3p hit (a3p hit his x2 (by simp)) x3 (by simp)
 refine c0z soI ht rfl hn htst hin A _ g1 _ al st1 D [] I ws IS ds _ _ H3 dp q3 hit is3 hws hw1 fun s' g' st' acc' z' H' x' q' hk=>?_;have back:∀{b:Addr},s2.heap.get? b=none→s.heap.get? b=none:=fun{b} hb=>a0w (a1.trans a2) hb;have xx:Step (al++C.TA) s g s' g':=by
  refine(a1.trans a2).step.trans ((x3.mono (W':=ws++D::(wr (a1k scope sc tids) (a2k scope env s2.heap.objs.size)++(al++C.TA))) fun _ h=>nomatch h).tr x') fun b hb=>?_
  rcases List.mem_append.mp hb with h|h
  ·exact .inr (hf b h)
  ·rcases List.mem_cons.mp h with h|h
   ·exact .inr (h▸Dfr)
   ·rcases List.mem_append.mp h with h|h
    ·exact .inr (back (hwr b h))
    ·exact .inl h
 have R':=H.rel.back xx (fun b hb=>(List.mem_append.mp hb).elim .inl fun h=>.inr (.inl h)) H'.rel.b;have zz:st'.hz=st.hz:=z'.trans a1.hz;have es:({ st' with vars:=st.vars }:St)={ st with own:=st'.own }:=by rw[←zz]
 have Lfr:s2.heap.get? s2.heap.objs.size=none:=a0d _;refine fin D s2.heap.objs.size acc' s' g' { st' with vars:=st.vars } ⟨rfl,zz,es▸R',xx⟩ Dfr q' (back Lfr) (fun e=>by rw[←e]at Dal; exact Dal Lfr) H'.rel.ns H'.rel.pgl hk
theorem c2d{t:T}{target iter elt:Expr}{rest:List d8n}{pos:Pos}{tw:St→(Bool→St→Prop)→Prop}{gg gall:G}{it:I} 
 (so:SIOK sc) (ok:CompOK scope sc tids gall.ids) (ht:ckT (a1k scope sc tids) t target=true) (hfold:∀env x,foldedSetIterable iter env x=pure x) (hn:b5q (⟨target,iter,ifs,0⟩::rest) 1 nxt)
 (hI:SIt C Γ sc n hz target it iter) (htst:d0v C (a1k scope sc tids) n hz tw ifs) (hin:c6g C Γ (a1k scope sc tids) n hz gg elt (⟨target,iter,ifs,0⟩::rest) scope pos nxt 1)
 (hall:∀st acc K,wpG Γ gall st acc K→wpI Γ it st fun ds st=>a1q (b5r Γ t tw gg) ds st acc K):SE C Γ sc n hz (.comp gall) (.ListComp elt (⟨target,iter,ifs,0⟩::rest) scope pos):=fun A env g s al st Eh Q Q' H hw kk=>by
 rw[eval_ListComp];refine a8a so ok ht hfold hn hI htst hin hall A env g s al st Eh none (fun d st=>Q (.dat d) st) Q' H hw fun D L acc s' g' st' a hDn q hLn hne hns hgL hq=>?_;obtain⟨m,hm⟩:=hns;refine⟨m,hm,fun h' hs=>?_⟩;have fresh1:∀{b:Addr},s.heap.get? b=none→b∉al∧b∉C.TA∧b∉a4w env:=fun{b} hb=>by
  refine⟨fun hm=>?_,fun hm=>?_,fun hm=>?_⟩
  ·obtain⟨o,ho⟩:=H.rel.alh b hm; rw[ho]at hb; cases hb
  ·obtain⟨_,o,ho,_⟩:=H.rel.tabs b hm; rw[ho]at hb; cases hb
  ·obtain⟨o,ho⟩:=H.rel.plt b hm; rw[ho]at hb; cases hb
 obtain⟨x1,sb1⟩:=Step.one (tk:=s'.toks) a.rel.sub hgL hs;have R1:=a.rel.move x1 sb1 fun b hb=>by simp at hb; subst hb; exact fresh1 hLn
 have q1:=a2z q a.rel.sub x1 (by simp; exact fun e=>hne e.symm)
 obtain⟨hgD,vs,⟨mm,hp⟩,r⟩:=q1;obtain⟨g2,s1,s2,s3,s4,s5⟩:=a7c sb1 D (fun o e _=>by rw[hp]at e; cases e; rfl)
 have x2:Step [D] { s' with heap:=h',toks:=s'.toks } g' { s' with heap:=h',toks:=s'.toks } g2:=⟨⟨h',s'.toks,rfl⟩,s1,fun _ _ _ e=>.of e,fun _=>s2,fun b o hb _ e=>(s4 b (by simpa using hb)).trans e,s5⟩
 have R2:=R1.move x2 s2 fun b hb=>by simp at hb; subst hb; exact fresh1 hDn
 refine kk (.ref D) (.dat (.list acc)) st' _ g2 ⟨a.vars,a.hz,R2,?_⟩ (RD.list ⟨_,s3.trans hp,rfl,mm,rfl⟩ (r.mono s1)) hq;refine(a.step.trans x1 fun b hb=>?_).trans x2 fun b hb=>?_
 ·simp at hb; subst hb; exact .inr hLn
 ·simp at hb; subst hb; exact .inr hDn
end
end
section
set_option backward.match.sparseCases false
noncomputable def a5u (sc:SI) (x:Str):Bool:=sc.names.lookup x==some .globalImplicit && !(x == "__debug__")
noncomputable def nmv (sc:SI) (x:Str) (i:Nat):Bool:=sc.ids.lookup x==some i && !(x == "__debug__") && !(x == "__classdict__")
noncomputable def d1h:B→Bool|.isint=>false|_=>true
noncomputable def xP:Expr→Pos|.BoolOp _ _ p=>p|.BinOp _ _ _ p=>p|.UnaryOp _ _ p=>p|.IfExp _ _ _ p=>p|.ListComp _ _ _ p=>p|.DictComp _ _ _ _ p=>p|.Compare _ _ _ p=>p|.Call _ _ _ p=>p|.Constant _ _ p=>p|.Attribute _ _ p=>p|.Subscript _ _ p=>p|.Name _ p=>p|.List _ p=>p|.Tuple _ _ p=>p|.Slice _ _ _ p=>p|_=>default
noncomputable def x1:Expr→Expr|.BinOp l _ _ _=>l|.UnaryOp _ z _=>z|.Compare l _ _ _=>l|.IfExp t _ _ _=>t|.Subscript y _ _=>y|.ListComp e _ _ _=>e|.DictComp e _ _ _ _=>e|.Call f _ _ _=>f|.Attribute o _ _=>o|x=>x
noncomputable def x2:Expr→Expr|.BinOp _ _ r _=>r|.DictComp _ e _ _ _=>e|.IfExp _ y _ _=>y|.Subscript _ z _=>z|x=>x
noncomputable def x3:Expr→Expr|.IfExp _ _ z _=>z|x=>x
noncomputable def xK:Expr→Nat|.Constant _ k _=>k|.Tuple _ k _=>k|_=>0
noncomputable def xW:Expr→List Keyword|.Call _ _ k _=>k|_=>[]
noncomputable def xG:Expr→List d8n|.ListComp _ g _ _=>g|.DictComp _ _ g _ _=>g|_=>[]
noncomputable def xS:Expr→Scope|.ListComp _ _ s _=>s|.DictComp _ _ _ s _=>s|_=>default
noncomputable def xLo:Expr→Expr|.Slice (some l) _ _ _=>l|x=>x
noncomputable def xHi:Expr→Expr|.Slice _ (some h) _ _=>h|x=>x
noncomputable def xh(l:List Expr):Expr:=match l with|x::_=>x|[]=>default
noncomputable def xa0(x:Expr):Expr:=xh (xs x)
noncomputable def xa1(x:Expr):Expr:=xh (xs x).tail
noncomputable def xa2(x:Expr):Expr:=xh (xs x).tail.tail
noncomputable def cT(l:List d8n):Expr:=match l with|c::_=>c.target|[]=>default
noncomputable def cI(l:List d8n):Expr:=match l with|c::_=>c.iter|[]=>default
noncomputable def cF(l:List d8n):Expr:=match l with|c::_=>xh c.ifs|[]=>default
noncomputable def kV(l:List Keyword):Expr:=match l with|c::_=>c.value|[]=>default
noncomputable def kP(l:List Keyword):Pos:=match l with|c::_=>c.pos|[]=>default
noncomputable def hdS(l:List Str):Str:=match l with|c::_=>c|[]=>⟨#[]⟩
noncomputable def rbM(x:Expr):Expr:=.UnaryOp .USub (.Constant (.int 1) (xK (x1 x)) (xP (x1 x))) (xP x)
noncomputable def rbN(x:Expr):Expr:=.Name (xN x) (xP x)
noncomputable def b0o(y:Str)(x:Expr):Expr:=.Name y (xP x)
noncomputable def d2j:T→Expr→List (Str×Nat)
 |.one i,x=>if isK 23 x=true then[(xN x,i)]else[]
 |.tup is,x=>if isK 25 x=true then((xs x).zip is).filterMap fun p=>if isK 23 p.1=true then some (xN p.1,p.2)else none else[]
noncomputable def c4p:G→List d8n→List (Str×Nat)
 |.elt _,_=>[]
 |.for t _ g,⟨target,_,_,_⟩::r=>d2j t target++c4p g r
 |.forIf t _ _ g,⟨target,_,_,_⟩::r=>d2j t target++c4p g r
 |_,[]=>[]
noncomputable def c7m(scope:Scope)(sc:SI)(tids:List (Str×Nat))(is:List Nat):Bool:=
 scope.kind == .function&&decide ((scope.names.map (·.1)).Nodup)&&(scope.names.all fun p=>p.2 != .free||(sc.names.lookup p.1==some .cell||sc.names.lookup p.1==some .free))
 && decide (((a1k scope sc tids).ids.map (·.2)).Nodup)&&(tids.all fun p=>scope.names.lookup p.1==some .local||scope.names.lookup p.1==some .cell)&&tids.map (·.2)==is
noncomputable def b5y(s:Str)(ws:List Str):Bool:=decide (s.length≤d8y)&&decide ((Builtin.Str.spaceWords s (s.length+1)).length≤d8y) && !(Builtin.Str.spaceWords s (s.length+1)==[(0,s.length)])&&PySem.wordsOf s==ws
mutual
noncomputable def rbE:E→Expr→Expr
 |.int i,x=>.Constant (.int i) (xK x) (xP x)
 |.str s,x=>.Constant (.str s) (xK x) (xP x)
 |.bool b,x=>.Constant (.bool b) (xK x) (xP x)
 |.none,x=>.Constant .none (xK x) (xP x)
 |.var _,x=>rbN x
 |.gint y _,x=>b0o y x
 |.gstr y _,x=>b0o y x
 |.gfn _,x=>rbN x
 |.bin o a b,x=>.BinOp (rbE a (x1 x)) (c4f o) (rbE b (x2 x)) (xP x)
 |.not a,x=>.UnaryOp .Not (rbE a (x1 x)) (xP x)
 |.neg a,x=>.UnaryOp .USub (rbE a (x1 x)) (xP x)
 |.inv a,x=>.UnaryOp .Invert (rbE a (x1 x)) (xP x)
 |.or a b,x=>.BoolOp .Or [rbE a (xa0 x),rbE b (xa1 x)] (xP x)
 |.cmp o a b,x=>.Compare (rbE a (x1 x)) [a9x o] [rbE b (xa0 x)] (xP x)
 |.ite c a b,x=>.IfExp (rbE c (x1 x)) (rbE a (x2 x)) (rbE b (x3 x)) (xP x)
 |.idx a i,x=>.Subscript (rbE a (x1 x)) (rbE i (x2 x)) (xP x)
 |.sl a lo hi,x=>.Subscript (rbE a (x1 x)) (.Slice (rbO lo (xLo (x2 x))) (rbO hi (xHi (x2 x))) none (xP (x2 x))) (xP x)
 |.list es,x=>.List (a7p es (xs x)) (xP x)
 |.tup es,x=>.Tuple (a7p es (xs x)) (xK x) (xP x)
 |.comp g,x=>.ListComp (c3l g (x1 x)) (rbG g (xG x)) (xS x) (xP x)
 |.call _ es,x=>.Call (rbN (x1 x)) (a7p es (xs x)) [] (xP x)
 |.callV _ _ es,x=>.Call (rbN (x1 x)) (a7p es (xs x)) [] (xP x)
 |.bi b es,x=>.Call (b0o (b7z b) (x1 x)) (a7p es (xs x)) [] (xP x)
 |.me m a es,x=>.Call (.Attribute (rbE a (x1 (x1 x))) (meN m) (xP (x1 x))) (a7p es (xs x)) [] (xP x)
 |.words s _,x=>.Call (.Attribute (.Constant (.str s) (xK (x1 (x1 x))) (xP (x1 (x1 x)))) "split" (xP (x1 x))) [] [] (xP x)
 |.pop _ e,x=>.Call (.Attribute (rbN (x1 (x1 x))) "pop" (xP (x1 x))) [rbE e (xa0 x)] [] (xP x)
 |.next _,x=>.Call (b0o "next" (x1 x)) [rbN (xa0 x)] [] (xP x)
noncomputable def rbO:O→Expr→Option Expr
 |.none,_=>none
 |.some e,x=>some (rbE e x)
noncomputable def a7p:Es→List Expr→List Expr
 |.nil,_=>[]
 |.cons e es,l=>rbE e (xh l)::a7p es l.tail
noncomputable def d4u:Es→List Str→List Keyword→List Keyword
 |.nil,_,_=>[]
 |.cons e es,ks,l=>⟨some (hdS ks),rbE e (kV l),kP l⟩::d4u es ks.tail l.tail
noncomputable def c3l:G→Expr→Expr
 |.elt e,x=>rbE e x
 |.for _ _ g,x=>c3l g x
 |.forIf _ _ _ g,x=>c3l g x
noncomputable def rbG:G→List d8n→List d8n
 |.elt _,_=>[]
 |.for _ it g,l=>⟨cT l,rbI it (cI l),[],0⟩::rbG g l.tail
 |.forIf _ it c g,l=>⟨cT l,rbI it (cI l),[rbE c (cF l)],0⟩::rbG g l.tail
noncomputable def rbI:I→Expr→Expr
 |.over e,x=>rbE e x
 |.range e,x=>.Call (b0o "range" (x1 x)) [rbE e (xa0 x)] [] (xP x)
 |.range2 e f,x=>.Call (b0o "range" (x1 x)) [rbE e (xa0 x),rbE f (xa1 x)] [] (xP x)
 |.rangeDown e,x=>.Call (b0o "range" (x1 x)) [rbE e (xa0 x),rbM (xa1 x),rbM (xa2 x)] [] (xP x)
 |.enum e,x=>.Call (b0o "enumerate" (x1 x)) [rbE e (xa0 x)] [] (xP x)
 |.rev e,x=>.Call (b0o "reversed" (x1 x)) [rbE e (xa0 x)] [] (xP x)
 |.revRange e,x=>.Call (b0o "reversed" (x1 x)) [.Call (b0o "range" (x1 (xa0 x))) [rbE e (xa0 (xa0 x))] [] (xP (xa0 x))] [] (xP x)
end
noncomputable def c5a:Es→Bool|.nil=>false|_=>true
mutual
noncomputable def ckE(k:Ck)(hz:Bool)(sc:SI):E→Expr→Bool
 |.int _,_=>true
 |.str _,_=>true
 |.bool _,_=>true
 |.none,_=>true
 |.var i,x=>nmv sc (xN x) i
 |.gint y i,_=>a5u sc y&&k.gi.lookup y==some i
 |.gstr y i,_=>a5u sc y&&k.gs.lookup y==some i
 |.gfn f,x=>a5u sc (xN x)&&k.fname f==some (xN x)
 |.bin _ a b,x=>ckE k hz sc a (x1 x)&&ckE k hz sc b (x2 x)
 |.not a,x=>ckE k hz sc a (x1 x)
 |.neg a,x=>ckE k hz sc a (x1 x)
 |.inv a,x=>ckE k hz sc a (x1 x)
 |.or a b,x=>ckE k hz sc a (xa0 x)&&ckE k hz sc b (xa1 x)
 |.cmp o a b,x=>!behindInMarks (a9x o) (rbE b (xa0 x))&&(ckE k hz sc a (x1 x)&&ckE k hz sc b (xa0 x))
 |.ite c a b,x=>b9a k hz sc c (x1 x)&&(ckE k hz sc a (x2 x)&&ckE k hz sc b (x3 x))
 |.idx a i,x=>ckE k hz sc a (x1 x)&&ckE k hz sc i (x2 x)
 |.sl a lo hi,x=>ckE k hz sc a (x1 x)&&(ckO k hz sc lo (xLo (x2 x))&&ckO k hz sc hi (xHi (x2 x)))
 |.list es,x=>decide ((a7p es (xs x)).length≤1000)&&b8r k hz sc es (xs x)
 |.tup es,x=>decide ((a7p es (xs x)).length≤1000)&&b8r k hz sc es (xs x)
 |.comp g,x=>c7m (xS x) sc (c4p g (rbG g (xG x))) g.ids&&d7w k hz sc (xS x) (c4p g (rbG g (xG x))) g (x1 x) (xG x)
 |.call f es,x=>c5a es&&(a5u sc (xN (x1 x))&&(k.fname f==some (xN (x1 x))&&b8r k hz sc es (xs x)))
 |.callV i f es,x=>c5a es&&(nmv sc (xN (x1 x)) i&&(k.fcl f&&b8r k hz sc es (xs x)))
 |.bi b es,x=>c5a es&&(hz&&(d1h b&&(a5u sc (b7z b)&&b8r k hz sc es (xs x))))
 |.me _ a es,x=>a5v (rbE a (x1 (x1 x)))&&((xP (x1 x)).endLine==(xP x).line&&(decide ((a7p es (xs x)).length≤20)&&(ckE k hz sc a (x1 (x1 x))&&b8r k hz sc es (xs x))))
 |.words s ws,x=>(xP (x1 x)).endLine==(xP x).line&&b5y s ws
 |.pop i e,x=>nmv sc (xN (x1 (x1 x))) i&&((xP (x1 x)).endLine==(xP x).line&&ckE k hz sc e (xa0 x))
 |.next i,x=>a5u sc "next" && nmv sc (xN (xa0 x)) i
noncomputable def b9a(k:Ck)(hz:Bool)(sc:SI):E→Expr→Bool
 |.not a,x=>b9a k hz sc a (x1 x)
 |.or a b,x=>b9a k hz sc a (xa0 x)&&b9a k hz sc b (xa1 x)
 |.cmp o a b,x=>!behindInMarks (a9x o) (rbE b (xa0 x))&&(ckE k hz sc a (x1 x)&&ckE k hz sc b (xa0 x))
 |.var i,x=>nmv sc (xN x) i
 |.idx a i,x=>ckE k hz sc a (x1 x)&&ckE k hz sc i (x2 x)
 |.bin _ a b,x=>ckE k hz sc a (x1 x)&&ckE k hz sc b (x2 x)
 |.call f es,x=>c5a es&&(a5u sc (xN (x1 x))&&(k.fname f==some (xN (x1 x))&&b8r k hz sc es (xs x)))
 |.me _ a es,x=>a5v (rbE a (x1 (x1 x)))&&((xP (x1 x)).endLine==(xP x).line&&(decide ((a7p es (xs x)).length≤20)&&(ckE k hz sc a (x1 (x1 x))&&b8r k hz sc es (xs x))))
 |_,_=>false
noncomputable def ckO(k:Ck)(hz:Bool)(sc:SI):O→Expr→Bool
 |.none,_=>true
 |.some e,x=>ckE k hz sc e x
noncomputable def b8r(k:Ck)(hz:Bool)(sc:SI):Es→List Expr→Bool
 |.nil,_=>true
 |.cons e es,l=>ckE k hz sc e (xh l)&&b8r k hz sc es l.tail
noncomputable def d6t(k:Ck)(hz:Bool)(sc:SI):Es→List Str→List Keyword→Bool
 |.nil,ks,_=>ks.isEmpty
 |.cons e es,ks,l=>!ks.isEmpty&&(ckE k hz sc e (kV l)&&d6t k hz sc es ks.tail l.tail)
noncomputable def d7w(k:Ck)(hz:Bool)(sc:SI)(scope:Scope)(ts:List (Str×Nat)):G→Expr→List d8n→Bool
 |.elt _,_,_=>false
 |.for t it g,x,l=>ckT (a1k scope sc ts) t (cT l)&&(ckI k hz sc (cT l) it (cI l)&&ckG k hz (a1k scope sc ts) g x l.tail)
 |.forIf t it c g,x,l=>ckT (a1k scope sc ts) t (cT l)&&(ckI k hz sc (cT l) it (cI l)&&(b9a k hz (a1k scope sc ts) c (cF l)&&ckG k hz (a1k scope sc ts) g x l.tail))
noncomputable def ckG(k:Ck)(hz:Bool)(sc:SI):G→Expr→List d8n→Bool
 |.elt e,x,_=>ckE k hz sc e x
 |.for t it g,x,l=>ckT sc t (cT l)&&(ckI k hz sc (cT l) it (cI l)&&ckG k hz sc g x l.tail)
 |.forIf t it c g,x,l=>ckT sc t (cT l)&&(ckI k hz sc (cT l) it (cI l)&&(b9a k hz sc c (cF l)&&ckG k hz sc g x l.tail))
noncomputable def ckI(k:Ck)(hz:Bool)(sc:SI)(target:Expr):I→Expr→Bool
 |.over e,x=>a0g target&&ckE k hz sc e x
 |.range e,x=>hz&&(a0g target&&(a5u sc "range" && ckE k hz sc e (xa0 x)))
 |.range2 e f,x=>hz&&(a0g target&&(a5u sc "range" && (ckE k hz sc e (xa0 x)&&ckE k hz sc f (xa1 x))))
 |.rangeDown e,x=>hz&&(a0g target&&(a5u sc "range" && ckE k hz sc e (xa0 x)))
 |.enum e,x=>isK 25 target&&(a5u sc "enumerate" && ckE k hz sc e (xa0 x))
 |.rev e,x=>hz&&(a0g target&&(a5u sc "reversed" && ckE k hz sc e (xa0 x)))
 |.revRange e,x=>hz&&(a0g target&&(a5u sc "reversed" && (a5u sc "range" && ckE k hz sc e (xa0 (xa0 x)))))
end
end
section
section
variable {C:Cfg} {Γ:Ctx} {n:Nat} {hz:Bool} {k:Ck}
theorem a0u {sc:SI} (h:a5u sc x=true):sc.names.lookup x=some .globalImplicit∧(x==("__debug__" : Str))=false:=by
 simp only[a5u,Bool.and_eq_true,beq_iff_eq,Bool.not_eq_true']at h; exact h
theorem a4b {sc:SI} (h:nmv sc x i=true):sc.ids.lookup x=some i∧(x==("__debug__" : Str))=false∧(x==("__classdict__" : Str))=false:=by
 simp only[nmv,Bool.and_eq_true,beq_iff_eq,Bool.not_eq_true']at h; exact⟨h.1.1,h.1.2,h.2⟩
theorem a7v{sc:SI}{is:List Nat}(h:c7m scope sc tids is=true):CompOK scope sc tids is:=by
 have h3:=List.all_eq_true.mp (a0a (a0b (a0b (a0b h))));have h5:=List.all_eq_true.mp (a0a (a0b h));exact⟨beq_iff_eq.mp (a0b (a0b (a0b (a0b (a0b h))))),of_decide_eq_true (a0a (a0b (a0b (a0b (a0b h))))),fun p hp hf=>(Bool.or_eq_true_iff.mp (h3 p hp)).elim (fun k=>absurd hf (bne_iff_ne.mp k)) fun k=>(Bool.or_eq_true_iff.mp k).imp beq_iff_eq.mp beq_iff_eq.mp,
  of_decide_eq_true (a0a (a0b (a0b h))),fun p hp=>(Bool.or_eq_true_iff.mp (h5 p hp)).imp beq_iff_eq.mp beq_iff_eq.mp,beq_iff_eq.mp (a0a h)⟩
theorem b9i{s:Str}{ws:List Str}(h:b5y s ws=true):s.length≤d8y∧(Builtin.Str.spaceWords s (s.length+1)).length≤d8y∧(Builtin.Str.spaceWords s (s.length+1)==[(0,s.length)])=false∧PySem.wordsOf s=ws:=by
 simp only[b5y,Bool.and_eq_true,decide_eq_true_eq,Bool.not_eq_true',beq_iff_eq]at h;exact⟨h.1.1.1,h.1.1.2,h.1.2,h.2⟩
theorem b2o{a:Bool}(h:(!a)=true):a=false:=by cases a; rfl; cases h
theorem a4i(e:E)(x:Expr):a0k (rbE e x)=true:=by cases e <;> rfl
theorem b4g:∀(es:Es) (l:List Expr),(a7p es l).all a0k=true
 |.nil=>fun _=>rfl
 |.cons e es=>fun l=>by
  show(a0k (rbE e (xh l))&&(a7p es l.tail).all a0k)=true;rw[a4i,b4g es]; rfl
theorem b8q{es:Es}(h:c5a es=true)(l:List Expr):∃z zs,a7p es l=z::zs∧a0k z=true:=by
 cases es with
 |nil=>cases h
 |cons e es=>exact⟨_,_,rfl,a4i _ _⟩
theorem d3g{es:Es}(h:c5a es=true)(l:List Expr):a7p es l≠[]:=by
 cases es with
 |nil=>cases h
 |cons e es=>exact List.cons_ne_nil _ _
theorem a5k(it:I)(x:Expr)(env:Env)(v:d8g):foldedSetIterable (rbI it x) env v=pure v:=by
 cases it <;> first|rfl|(rename_i e; cases e <;> rfl)
theorem b6c(c:Const)(a:Nat)(p:Pos):a5v (.Constant c a p)=true:=rfl
theorem d0n{b:B}(h:d1h b=true):biX b=[]:=by cases b <;> first|rfl|cases h
noncomputable def d2y(gs:List d8n):Option Expr:=gs.head?.map (·.iter)
theorem b0p(g:G){pre l:List d8n}:b5q (pre++rbG g l) pre.length (d2y (rbG g l)):=by
 cases g with
 |elt e=>
  show(pre++[])[pre.length]?=none;simp
 |«for» t it gg=>exact⟨cT l,[],(by show(pre++_::_)[pre.length]?=_; simp),fun env x=>a5k it _ env x⟩
 |forIf t it c gg=>exact⟨cT l,[rbE c (cF l)],(by show(pre++(⟨cT l,rbI it (cI l),[rbE c (cF l)],0⟩:d8n)::_)[pre.length]?=_; simp),fun env x=>a5k it _ env x⟩
theorem b9h{t:T}{target iter elt:Expr}{pre rest:List d8n}{pos:Pos}{sc:SI}{tw:St→(Bool→St→Prop)→Prop}{gg gall:G}{it:I}(so:SIOK sc)(ht:ckT sc t target=true)(hp:0<pre.length)
 (hn:b5q ((pre++[Comprehension.mk target iter ifs 0])++rest) (pre++[Comprehension.mk target iter ifs 0]).length nxt) (hc:d0v C sc n hz tw ifs) (hg:c6g C Γ sc n hz gg elt ((pre++[Comprehension.mk target iter ifs 0])++rest) scope pos nxt (pre++[Comprehension.mk target iter ifs 0]).length) (hi:SIt C Γ sc n hz target it iter)
 (hw:∀st acc K,wpG Γ gall st acc K→wpI Γ it st fun ds st=>a1q (fun d st acc K=>bindT t d st fun st=>tw st fun b st=>if b=true then wpG Γ gg st acc K else K acc st) ds st acc K):c6g C Γ sc n hz gall elt (pre++Comprehension.mk target iter ifs 0::rest) scope pos (some iter) pre.length:=by
 obtain⟨d,hd⟩:∃d,pre.length=d+1:=⟨pre.length-1,by exact a0j (.e N0 (.p (.s N0 O1) O1)) (.t (.k 0) N0) hp⟩
 have e1:pre++Comprehension.mk target iter ifs 0::rest=(pre++[Comprehension.mk target iter ifs 0])++rest:=by simp
 rw[List.length_append,hd]at hn hg;rw[hd,e1];refine d2b so ht ?_ hn hc hg hi hw;rw[←hd]; simp
variable (Gd:Good C k) (Γok:a4c C Γ n)
include Gd Γok
mutual
theorem a0m:(e:E)→(sc:SI)→(x:Expr)→SIOK sc→ckE k hz sc e x=true→SE C Γ sc n hz e (rbE e x)
 |.int i=>fun sc x so h=>b7g
 |.str i=>fun sc x so h=>c7q
 |.bool i=>fun sc x so h=>d0l
 |.none=>fun sc x so h=>c8z
 |.var i=>fun sc x so h=>let k:=a4b h; c6u k.1 k.2.1 k.2.2
 |.gint y i=>fun sc x so h=>c9u Gd (beq_iff_eq.mp (a0a h)) (a0u (a0b h)).1 (a0u (a0b h)).2
 |.gstr y i=>fun sc x so h=>c8w Gd (beq_iff_eq.mp (a0a h)) (a0u (a0b h)).1 (a0u (a0b h)).2
 |.gfn f=>fun sc x so h=>d1v Gd (beq_iff_eq.mp (a0a h)) (a0u (a0b h)).1 (a0u (a0b h)).2
 |.bin o a b=>fun sc x so h=>c6t (a0m a sc _ so (a0b h)) (a0m b sc _ so (a0a h))
 |.not a=>fun sc x so h=>d3x (a0m a sc _ so h)
 |.neg a=>fun sc x so h=>c2w (a0m a sc _ so h)
 |.inv a=>fun sc x so h=>d3j (a0m a sc _ so h)
 |.or a b=>fun sc x so h=>d4z (a0m a sc _ so (a0b h)) (a0m b sc _ so (a0a h))
 |.cmp o a b=>fun sc x so h=>d2o (a0m a sc _ so (a0b (a0a h))) (a0m b sc _ so (a0a (a0a h))) (b2o (a0b h))
 |.ite c a b=>fun sc x so h=>d2h (a3z c sc _ so (a0b h)) (a0m a sc _ so (a0b (a0a h))) (a0m b sc _ so (a0a (a0a h)))
 |.idx a i=>fun sc x so h=>c7e (a0m a sc _ so (a0b h)) (a0m i sc _ so (a0a h))
 |.sl a lo hi=>fun sc x so h=>d6r (a0m a sc _ so (a0b h)) (c7l lo sc _ so (a0b (a0a h))) (c7l hi sc _ so (a0a (a0a h)))
 |.list es=>fun sc x so h=>c8b (a1p es sc _ so (a0a h)).1 (of_decide_eq_true (a0b h))
 |.tup es=>fun sc x so h=>d2a (a1p es sc _ so (a0a h)).1 (of_decide_eq_true (a0b h))
 |.comp (.elt _)=>fun sc x so h=>Bool.noConfusion (show false=true from a0a h)
 |.comp (.for t it g)=>fun sc x so h=>
  have ok:=a7v (a0b h)
  c2d so ok (a0b (a0a h)) (fun env x=>a5k it _ env x) (b0p g (pre:=[_])) (a9p it sc _ _ so (a0b (a0a (a0a h)))) a9d (b1c g _ _ [_] _ _ _ (a2p ok) (a0a (a0a (a0a h))) (Nat.succ_pos _)) (fun st acc K hw=>hw)
 |.comp (.forIf t it c g)=>fun sc x so h=>
  have ok:=a7v (a0b h)
  c2d so ok (a0b (a0a h)) (fun env x=>a5k it _ env x) (b0p g (pre:=[_])) (a9p it sc _ _ so (a0b (a0a (a0a h)))) (b2p (a3z c _ _ (a2p ok) (a0b (a0a (a0a (a0a h)))))) (b1c g _ _ [_] _ _ _ (a2p ok) (a0a (a0a (a0a (a0a h)))) (Nat.succ_pos _)) (fun st acc K hw=>hw)
 |.call f es=>fun sc x so h=>b9f Gd Γok (beq_iff_eq.mp (a0b (a0a (a0a h)))) (a0u (a0b (a0a h))).1 (a0u (a0b (a0a h))).2 (b8q (a0b h) _) (a1p es sc _ so (a0a (a0a (a0a h)))).2.1
 |.callV i f es=>fun sc x so h=>let k:=a4b (a0b (a0a h)); c5t Gd Γok (a0b (a0a (a0a h))) k.1 k.2.1 k.2.2 (b8q (a0b h) _) (a1p es sc _ so (a0a (a0a (a0a h)))).2.1
 |.bi b es=>fun sc x so h=>d5o Gd (d0n (a0b (a0a (a0a h)))) (a0b (a0a h)) (a0u (a0b (a0a (a0a (a0a h))))).1 (b4g es _) (d3g (a0b h) _) (a1p es sc _ so (a0a (a0a (a0a (a0a h))))).2.2
 |.me m a es=>fun sc x so h=>d4d (m:=m) (nm:=meN m) (x:=rbE a (x1 (x1 x))) (xs:=a7p es (xs x)) (ap:=xP (x1 x)) (pos:=xP x) rfl (a0b h) (a0b (a0a h)) (b4g es _) (of_decide_eq_true (a0b (a0a (a0a h)))) (a0m a sc _ so (a0b (a0a (a0a (a0a h))))) (a1p es sc _ so (a0a (a0a (a0a (a0a h))))).2.2
 |.words s ws=>fun sc x so h=>by
  have w:=b9i (s:=s) (ws:=ws) (a0a h);have e:rbE (.words s ws) x=.Call (.Attribute (.Constant (.str s) (xK (x1 (x1 x))) (xP (x1 (x1 x)))) "split" (xP (x1 x))) [] [] (xP x):=rfl;rw[e];have l:((xP (x1 x)).endLine==(xP x).line)=true:=a0b h
  rcases w with⟨w1,w2,w3,w4⟩
  have hs:SE C Γ sc n hz (.str s) (.Constant (.str s) (xK (x1 (x1 x))) (xP (x1 (x1 x)))):=c7q;have hn:=b6c (.str s) (xK (x1 (x1 x))) (xP (x1 (x1 x)));generalize (Expr.Constant (.str s) (xK (x1 (x1 x))) (xP (x1 (x1 x))))=y at hs hn ⊢;exact c5v rfl hn l w1 w2 w3 w4 hs
 |.pop i e=>fun sc x so h=>let k:=a4b (a0b h); d1f k.1 k.2.1 k.2.2 (a0b (a0a h)) (a4i _ _) (a0m e sc _ so (a0a (a0a h)))
 |.next i=>fun sc x so h=>let k:=a4b (a0a h); c8q Gd (a0u (a0b h)).1 k.1 k.2.1 k.2.2
theorem a3z:(e:E)→(sc:SI)→(x:Expr)→SIOK sc→b9a k hz sc e x=true→ST C Γ sc n hz e (rbE e x)
 |.not a=>fun sc x so h=>d3v (a3z a sc _ so h)
 |.or a b=>fun sc x so h=>d6l (a3z a sc _ so (a0b h)) (a3z b sc _ so (a0a h))
 |.cmp o a b=>fun sc x so h=>d1t (a0m a sc _ so (a0b (a0a h))) (a0m b sc _ so (a0a (a0a h))) (b2o (a0b h))
 |.var i=>fun sc x so h=>let k:=a4b h; a6o rfl (c6u k.1 k.2.1 k.2.2) fun _ _=>d0g
 |.idx a i=>fun sc x so h=>a6o rfl (c7e (a0m a sc _ so (a0b h)) (a0m i sc _ so (a0a h))) fun _ _=>c9m
 |.bin o a b=>fun sc x so h=>a6o rfl (c6t (a0m a sc _ so (a0b h)) (a0m b sc _ so (a0a h))) fun _ _=>c7s
 |.call f es=>fun sc x so h=>a6o rfl (b9f Gd Γok (beq_iff_eq.mp (a0b (a0a (a0a h)))) (a0u (a0b (a0a h))).1 (a0u (a0b (a0a h))).2 (b8q (a0b h) _) (a1p es sc _ so (a0a (a0a (a0a h)))).2.1) fun _ _=>c5m
 |.me m a es=>fun sc x so h=>a6o rfl (d4d (m:=m) (nm:=meN m) (x:=rbE a (x1 (x1 x))) (xs:=a7p es (xs x)) (ap:=xP (x1 x)) (pos:=xP x) rfl (a0b h) (a0b (a0a h)) (b4g es _) (of_decide_eq_true (a0b (a0a (a0a h)))) (a0m a sc _ so (a0b (a0a (a0a (a0a h))))) (a1p es sc _ so (a0a (a0a (a0a (a0a h))))).2.2) fun _ _=>d3y
 |.int _=>fun sc x so h=>nomatch h
 |.str _=>fun sc x so h=>nomatch h
 |.bool _=>fun sc x so h=>nomatch h
 |.none=>fun sc x so h=>nomatch h
 |.gint _ _=>fun sc x so h=>nomatch h
 |.gstr _ _=>fun sc x so h=>nomatch h
 |.gfn _=>fun sc x so h=>nomatch h
 |.neg _=>fun sc x so h=>nomatch h
 |.inv _=>fun sc x so h=>nomatch h
 |.ite _ _ _=>fun sc x so h=>nomatch h
 |.sl _ _ _=>fun sc x so h=>nomatch h
 |.list _=>fun sc x so h=>nomatch h
 |.tup _=>fun sc x so h=>nomatch h
 |.comp _=>fun sc x so h=>nomatch h
 |.callV _ _ _=>fun sc x so h=>nomatch h
 |.bi _ _=>fun sc x so h=>nomatch h
 |.words _ _=>fun sc x so h=>nomatch h
 |.pop _ _=>fun sc x so h=>nomatch h
 |.next _=>fun sc x so h=>nomatch h
theorem c7l:(e:O)→(sc:SI)→(x:Expr)→SIOK sc→ckO k hz sc e x=true→SO C Γ sc n hz e (rbO e x)
 |.none=>fun sc x so h=>c9v
 |.some e=>fun sc x so h=>c8i (a0m e sc x so h)
theorem a1p:(es:Es)→(sc:SI)→(l:List Expr)→SIOK sc→b8r k hz sc es l=true→SEs C Γ sc n hz es (a7p es l)∧SAs C Γ sc n hz es (a7p es l)∧SRs C Γ sc n hz es (a7p es l)
 |.nil=>fun sc l so h=>⟨c9c,c8l,d0r⟩
 |.cons e es=>fun sc l so h=>
  have i1:=a0m e sc _ so (a0b h);have i2:=a1p es sc _ so (a0a h)
  ⟨c4o (a4i _ _) i1 i2.1,c4b (a4i _ _) i1 i2.2.1,c5o (a4i _ _) i1 i2.2.2⟩
theorem c1v:(es:Es)→(ks:List Str)→(sc:SI)→(l:List Keyword)→SIOK sc→d6t k hz sc es ks l=true→SKs C Γ sc n hz ks es (d4u es ks l)
 |.nil,[]=>fun sc l so h=>d0d
 |.cons e es,[]=>fun sc l so h=>nomatch h
 |.nil,_::_=>fun sc l so h=>nomatch h
 |.cons e es,_::ks=>fun sc l so h=>c5x (a0m e sc _ so (a0b h)) (c1v es ks sc _ so (a0a h))
theorem b1c:(g:G)→(sc:SI)→(elt:Expr)→(pre l:List d8n)→(scope:Scope)→(pos:Pos)→SIOK sc→ckG k hz sc g elt l=true→0<pre.length→c6g C Γ sc n hz g (c3l g elt) (pre++rbG g l) scope pos (d2y (rbG g l)) pre.length
 |.elt e=>fun sc elt pre l scope pos so h hp=>d1l (a0m e sc elt so h)
 |.for t it gg=>fun sc elt pre l scope pos so h hp=>by
  have i4:=b1c gg sc elt (pre++[⟨cT l,rbI it (cI l),[],0⟩]) l.tail scope pos so (a0a (a0a h)) (by simp)
  have n4:=b0p gg (pre:=pre++[⟨cT l,rbI it (cI l),[],0⟩]) (l:=l.tail);exact b9h so (a0b h) hp n4 a9d i4 (a9p it sc _ _ so (a0b (a0a h))) fun st acc K hw=>hw
 |.forIf t it c gg=>fun sc elt pre l scope pos so h hp=>by
  have i4:=b1c gg sc elt (pre++[⟨cT l,rbI it (cI l),[rbE c (cF l)],0⟩]) l.tail scope pos so (a0a (a0a (a0a h))) (by simp)
  have n4:=b0p gg (pre:=pre++[⟨cT l,rbI it (cI l),[rbE c (cF l)],0⟩]) (l:=l.tail);exact b9h so (a0b h) hp n4 (b2p (a3z c sc _ so (a0b (a0a (a0a h))))) i4 (a9p it sc _ _ so (a0b (a0a h))) fun st acc K hw=>hw
theorem a9p:(it:I)→(sc:SI)→(target:Expr)→(x:Expr)→SIOK sc→ckI k hz sc target it x=true→SIt C Γ sc n hz target it (rbI it x)
 |.over e=>fun sc target x so h=>c5s (a0b h) (a0m e sc x so (a0a h))
 |.range e=>fun sc target x so h=>c0s Gd (a0b h) (a0b (a0a h)) (a0u (a0b (a0a (a0a h)))).1 (a4i _ _) (a0m e sc _ so (a0a (a0a (a0a h))))
 |.range2 e f=>fun sc target x so h=>b8a Gd (a0b h) (a0b (a0a h)) (a0u (a0b (a0a (a0a h)))).1 (a4i _ _) (a4i _ _) (a0m e sc _ so (a0b (a0a (a0a (a0a h))))) (a0m f sc _ so (a0a (a0a (a0a (a0a h)))))
 |.rangeDown e=>fun sc target x so h=>b1h Gd (a0b h) (a0b (a0a h)) (a0u (a0b (a0a (a0a h)))).1 (a4i _ _) (a0m e sc _ so (a0a (a0a (a0a h))))
 |.enum e=>fun sc target x so h=>by
  obtain⟨es,x1,p,e1⟩:=d5b (a0b h);rw[e1];exact c3y Gd (a0u (a0b (a0a h))).1 (a4i _ _) (a0m e sc _ so (a0a (a0a h)))
 |.rev e=>fun sc target x so h=>c8a Gd (a0b h) (a0b (a0a h)) (a0u (a0b (a0a (a0a h)))).1 (a4i _ _) (a0m e sc _ so (a0a (a0a (a0a h))))
 |.revRange e=>fun sc target x so h=>b3o Gd (a0b h) (a0b (a0a h)) (a0u (a0b (a0a (a0a h)))).1 (a0u (a0b (a0a (a0a (a0a h))))).1 (a4i _ _) (a0m e sc _ so (a0a (a0a (a0a (a0a h)))))
end
end
end
section
section
variable {C:Cfg} {Γ:Ctx} {sc:SI} {n:Nat} {hz:Bool} {k:Ck}
theorem a9g{α:Type}{al al':List α}(h:al <+: al'){a:α}(e:al[j]?=some a):al'[j]?=some a:=by
 obtain⟨t,rfl⟩:=h;rw[List.getElem?_append_left]
 ·exact e
 ·exact(List.getElem?_eq_some_iff.mp e).1
theorem InV.al{g:Heap}{al al':List Addr}{v:d8g}{u:V}(h:al <+: al')(i:InV C g al v u):InV C g al' v u:=by
 cases u with
 |own j=>obtain⟨a,ha,e⟩:=i; exact⟨a,a9g h ha,e⟩
 |_=>exact i
structure SAft(C:Cfg)(sc:SI)(hz:Bool)(n:Nat)(A:d8q)(env:Env)(al:List Addr)(g:Heap)(s:d8f)(st:St)(al':List Addr)(g':Heap)(s':d8f)(st':St):Prop where
 pre:al <+: al'
 new:∀b∈al',b∈al∨s.heap.get? b=none
 sthz:st'.hz=st.hz
 here:Here C sc hz n A env g' s' al' st'
 step:Step (wr sc env++(al++C.TA)) s g s' g'
theorem FrOK.saft{g g':Heap}{s s':d8f}{al al':List Addr}(f:FrOK C A env g s.heap al)(x:Step (wr sc env++(al++C.TA)) s g s' g')(new:∀b∈al',b∈al∨s.heap.get? b=none):FrOK C A env g' s'.heap al':=by
 obtain⟨fs,h1,h2⟩:=f;obtain⟨fs',k1,k2⟩:=FrOK.step ⟨fs,h1,h2⟩ x fun b hb=>by
  rcases List.mem_append.mp hb with h|h
  ·exact .inl (a2b h)
  ·exact(List.mem_append.mp h).elim (fun h=>.inr (.inl h)) fun h=>.inr (.inr (.inl h))
 rw[h1.1]at k1; cases k1.1;refine⟨fs,h1,fun e he=>?_⟩;obtain⟨_,L,h4,h5⟩:=h2 e he;obtain⟨k3,L',k4,k5⟩:=k2 e he;rw[h4]at k4; cases k4;refine⟨k3,L,h4,?_⟩
 rcases h5 with h5|⟨a1,a2,a3,a4,o,es,ep,a5,a6⟩
 ·exact .inl h5
 ·rcases k5 with k5|⟨b1,b2,b3,b4,b5⟩
  ·exact .inl k5
  ·refine .inr ⟨b1,fun hm=>?_,b3,b4,b5⟩
   rcases new L hm with h|h
   ·exact a2 h
   ·rw[h]at a5; cases a5
def d4w(g:Heap):Fl→Flow→Prop
 |.next,.next=>True
 |.ret d,.ret v=>RD g v d
 |_,_=>False
theorem SAft.of{g g':Heap}{s s':d8f}{al:List Addr}{st st':St}(H:Here C sc hz n A env g s al st)(a:Aft C sc env al g s st g' s' st'):SAft C sc hz n A env al g s st al g' s' st':=
 ⟨List.prefix_refl _,fun b hb=>.inl hb,a.hz,H.go a,a.step.mono fun b hb=>List.mem_append_right _ hb⟩
theorem SAft.trans{g g' g'':Heap}{s s' s'':d8f}{al al' al'':List Addr}{st st' st'':St}(x:SAft C sc hz n A env al g s st al' g' s' st')(y:SAft C sc hz n A env al' g' s' st' al'' g'' s'' st'')(H:Here C sc hz n A env g s al st) :
  SAft C sc hz n A env al g s st al'' g'' s'' st'' where
 pre:=x.pre.trans y.pre
 new:=fun b hb=>by
  rcases y.new b hb with h|h
  ·exact x.new b h
  ·right
   cases e:s.heap.get? b with
   |none=>rfl
   |some o=>
    have halive:∃o',s'.heap.get? b=some o':=by
     by_cases hm:b∈wr sc env++(al++C.TA)
     ·rcases List.mem_append.mp hm with hw|hw
      ·exact x.here.rel.plt b (a2b hw)
      ·rcases List.mem_append.mp hw with ha|ha
       ·exact x.here.rel.alh b (x.pre.subset ha)
       ·obtain⟨_,o',ho',_⟩:=x.here.rel.tabs b ha; exact⟨o',ho'⟩
     ·exact(x.step.keep b o hm e).alive
    obtain⟨o',ho'⟩:=halive;rw[ho']at h; cases h
 sthz:=y.sthz.trans x.sthz
 here:=y.here
 step:=x.step.trans y.step fun b hb=>by
  rcases List.mem_append.mp hb with h|h
  ·exact .inl (List.mem_append_left _ h)
  ·rcases List.mem_append.mp h with h|h
   ·rcases x.new b h with h|h
    ·exact .inl (List.mem_append_right _ (List.mem_append_left _ h))
    ·exact .inr h
   ·exact .inl (List.mem_append_right _ (List.mem_append_right _ h))
def SS(C:Cfg)(Γ:Ctx)(sc:SI)(n:Nat)(hz:Bool)(S:S)(x:Stmt):Prop:=
 ∀(A:d8q) (env:Env) (g:Heap) (s:d8f) (al:List Addr) (st:St) (Eh:d8g→d8f→Prop) (Q:Fl→St→Prop) (Q':Flow→d8f→Prop),Here C sc hz n A env g s al st→wpS Γ C.toks S st Q→
  (∀fl f al' g' s' st',SAft C sc hz n A env al g s st al' g' s' st'→d4w g' fl f→Q fl st'→Q' f s')→d8i (model C.prog C.w) A (exec x env) Q' Eh s
def SSs(C:Cfg)(Γ:Ctx)(sc:SI)(n:Nat)(hz:Bool)(S:Ss)(x:List Stmt):Prop:=
 ∀(A:d8q) (env:Env) (g:Heap) (s:d8f) (al:List Addr) (st:St) (Eh:d8g→d8f→Prop) (Q:Fl→St→Prop) (Q':Flow→d8f→Prop),Here C sc hz n A env g s al st→a1n Γ C.toks S st Q→
  (∀fl f al' g' s' st',SAft C sc hz n A env al g s st al' g' s' st'→d4w g' fl f→Q fl st'→Q' f s')→d8i (model C.prog C.w) A (execs x env) Q' Eh s
theorem c9h:SSs C Γ sc n hz .nil []:=fun A env g s al st Eh Q Q' H hw kk=>wpAny_execs_nil (kk .next .next al g s st (SAft.of H (Aft.refl H.rel)) trivial hw)
theorem c3t{S:S}{Sr:Ss}{x:Stmt}{xs:List Stmt}(h:SS C Γ sc n hz S x)(h':SSs C Γ sc n hz Sr xs):SSs C Γ sc n hz (.cons S Sr) (x::xs):=fun A env g s al st Eh Q Q' H hw kk=>by
 refine d8m (h A env g s al st Eh _ _ H hw fun fl f al1 g1 s1 st1 a1 hf hw1=>?_);cases fl with
 |next=>
  cases f with
  |next=>exact h' A env g1 s1 al1 st1 Eh _ _ a1.here hw1 fun fl f al2 g2 s2 st2 a2 hf2 hq=>kk fl f al2 g2 s2 st2 (a1.trans a2 H) hf2 hq
  |_=>exact hf.elim
 |ret d=>
  cases f with
  |ret v=>exact kk (.ret d) (.ret v) al1 g1 s1 st1 a1 hf hw1
  |_=>exact hf.elim
theorem a2w{g g1:Heap}{s s1:d8f}{al al1:List Addr}{st st1:St}{u:V}(so:SIOK sc)(H:Here C sc hz n A env g s al st)
 (a:SAft C sc hz n A env al g s st al1 g1 s1 st1) (hx:a5w sc x i=true) (hv:InV C g1 al1 v u) (h:∀s2,SAft C sc hz n A env al g s st al1 g1 s2 (st1.set i u)→Q () s2):d8i (model C.prog C.w) A (storeName env x v) Q Eh s1:=
 a5b so a.here hx hv fun s2 x2 H2=>h s2 (a.trans ⟨List.prefix_refl _,fun b hb=>.inl hb,rfl,H2,x2.mono fun b hb=>List.mem_append_left _ hb⟩ H)
set_option backward.match.sparseCases false in
noncomputable def b4s:Expr→Bool
 |.ListComp ..=>false|.SetComp ..=>false|.DictComp ..=>false|_=>true
theorem a4f{x:Expr}{t:Option Expr}{l:Nat}(h:b4s x=true):swapsWith x t l env=pure false:=by
 cases x <;> first|rfl|cases h
theorem c3c{e:E}{p pos:Pos}(so:SIOK sc)(hx:a5w sc x i=true)(hc:b4s y=true)(h:SE C Γ sc n hz e y):SS C Γ sc n hz (.assign i e) (.Assign [.Name x p] y pos):=fun A env g s al st Eh Q Q' H hw kk=>by
 refine wpAny_Assign_Name (h A env g s al st Eh _ _ H hw fun v u st1 s1 g1 a1 i1 hw1=>?_) (a4f hc);exact a2w so H (SAft.of H a1) hx i1 fun s2 a2=>kk .next .next _ _ _ _ a2 trivial hw1
theorem a0v{s:d8f}{al:List Addr}{st:St}(R:Rel C sc env g s.heap al st){b:Addr}(hb:s.heap.get? b=none):b∉al∧b∉C.TA∧b∉a4w env:=by
 refine⟨fun hm=>?_,fun hm=>?_,fun hm=>?_⟩
 ·obtain⟨o,ho⟩:=R.alh b hm; rw[ho]at hb; cases hb
 ·obtain⟨_,o,ho,_⟩:=R.tabs b hm; rw[ho]at hb; cases hb
 ·obtain⟨o,ho⟩:=R.plt b hm; rw[ho]at hb; cases hb
theorem Rel.pushOwn{g h:Heap}{al:List Addr}{st:St}(R:Rel C sc env g h al st){D:Addr}{o:OV}(q:OwnOK g h D o)(h1:D∉al)(h2:D∉C.TA)(h3:D∉a4w env):Rel C sc env g h (al++[D]) (st.push o) where
 sub:=R.sub
 amb:=R.amb
 nd:=R.nd
 tabs:=R.tabs
 ns:=R.ns
 cell:=R.cell
 vars:=fun x i hi=>by
  rcases R.vars x i hi with h0|⟨v,hl,hv⟩
  ·exact .inl h0
  ·exact .inr ⟨v,hl,InV.al (List.prefix_append _ _) hv⟩
 olen:=by show(al++[D]).length=(st.own++[o]).length; simp[R.olen]
 own:=fun j o' e=>by
  have e:(st.own++[o])[j]?=some o':=e
  by_cases hj:j<st.own.length
  ·rw[List.getElem?_append_left hj]at e
   obtain⟨a,ha,q⟩:=R.own j o' e;exact⟨a,a9g (List.prefix_append _ _) ha,q⟩
  ·rw[List.getElem?_append_right (by omega)]at e
   have hj0:j-st.own.length=0:=by
    by_cases h0:j-st.own.length=0
    ·exact h0
    ·rw[List.getElem?_eq_none (by simp; exact a1d (.l O1 (.s N0 N1)) (.n (.e (.s N0 N1) (.k 0))) h0)]at e; cases e
   rw[hj0]at e;cases e;refine⟨D,?_,q⟩;rw[List.getElem?_append_right (by rw[R.olen]; omega),R.olen,hj0]; rfl
 alnd:=by
  rw[List.nodup_append];exact⟨R.alnd,by simp,fun a ha b hb e=>by simp at hb; subst hb; subst e; exact h1 ha⟩
 pnd:=R.pnd
 pgl:=R.pgl
 pgc:=R.pgc
 plt:=R.plt
 pal:=fun b hb hm=>by
  rcases List.mem_append.mp hm with h|h
  ·exact R.pal b hb h
  ·simp at h; subst h; exact h3 hb
 pta:=R.pta
 ata:=fun b hb=>by
  rcases List.mem_append.mp hb with h|h
  ·exact R.ata b h
  ·simp at h; subst h; exact h2
 base:=R.base.trans (List.prefix_append _ _)
theorem SAft.push{g g':Heap}{s s':d8f}{al al':List Addr}{st st':St}{D:Addr}{o:OV}(a:SAft C sc hz n A env al g s st al' g' s' st')(H:Here C sc hz n A env g s al st)(hD:s.heap.get? D=none)(hD':D∉al')(q:OwnOK g' s'.heap D o) :
  SAft C sc hz n A env al g s st (al'++[D]) g' s' (st'.push o) where
 pre:=a.pre.trans (List.prefix_append _ _)
 new:=fun b hb=>by
  rcases List.mem_append.mp hb with h|h
  ·exact a.new b h
  ·simp at h; subst h; exact .inr hD
 sthz:=a.sthz
 here:=⟨a.here.ok,a.here.hz,a.here.eok,a.here.rel.pushOwn q hD' (a0v H.rel hD).2.1 (a0v H.rel hD).2.2,H.fr.saft a.step fun b hb=>by
  rcases List.mem_append.mp hb with h|h
  ·exact a.new b h
  ·simp at h; subst h; exact .inr hD⟩
 step:=a.step
def SF(C:Cfg)(Γ:Ctx)(sc:SI)(n:Nat)(hz:Bool)(e:E)(x:Expr):Prop:=
 ∀(A:d8q) (env:Env) (g:Heap) (s:d8f) (al:List Addr) (st:St) (Eh:d8g→d8f→Prop) (Q:V→St→Prop) (Q':d8g→d8f→Prop),Here C sc hz n A env g s al st→wpE Γ e st Q→
  (∀(D:Addr) l st' s' g',Aft C sc env al g s st g' s' st'→s.heap.get? D=none→OwnOK g' s'.heap D (.lst l)→Q (.dat (.list l)) st'→Q' (.ref D) s')→d8i (model C.prog C.w) A (eval x env) Q' Eh s
theorem d0m{es:Es}{xs:List Expr}{pos:Pos}(h:SEs C Γ sc n hz es xs)(hl:xs.length≤1000):SF C Γ sc n hz (.list es) (.List xs pos):=fun A env g s al st Eh Q Q' H hw kk=>by
 refine List_ (h A env g s al st Eh pos _ _ _ H hw fun vs us st1 s1 g1 a1 r1 hlen hq=>?_);have hq:Q (.dat (.list us)) st1:=by simpa using hq
 refine wpAny_newList ?_ (by rw[hlen]; exact Nat.le_trans hl (by decide))
 have hp:(s1.heap.push { cls:=.type "list",data:=.seq vs.toArray }).get? s1.heap.objs.size=some { cls:=.type "list",data:=.seq vs.toArray }:=Heap.get?_push_size _ rfl;have ha:=a0d s1.heap;have x1:Step [] s1 g1 { s1 with heap:=s1.heap.push { cls:=.type "list",data:=.seq vs.toArray } } g1:=Step.ext (tk:=s1.toks) (a0e _)
 have a2:=(H.go a1).stay { s1 with heap:=s1.heap.push { cls:=.type "list",data:=.seq vs.toArray } } x1 (a1.rel.sub.trans (a0e _))
 exact kk _ us st1 _ g1 (a1.trans a2) (a0w a1 ha) ⟨a3d a1.rel.sub ha,vs,⟨0,hp⟩,r1⟩ hq
theorem d3s{es:Es}{b:E}{xs:List Expr}{lp pos:Pos}(h:SEs C Γ sc n hz es xs)(hl:xs.length≤1000)(hb:SE C Γ sc n hz b y):SF C Γ sc n hz (.bin .mul (.list es) b) (.BinOp (.List xs lp) .Mult y pos):=fun A env g s al st Eh Q Q' H hw kk=>by
 refine wpAny_BinOp (List_ (h A env g s al st Eh lp _ _ _ H hw fun vs us st1 s1 g1 a1 r1 hlen hq=>?_));refine wpAny_newList ?_ (by rw[hlen]; exact Nat.le_trans hl (by decide))
 have hp:(s1.heap.push { cls:=.type "list",data:=.seq vs.toArray }).get? s1.heap.objs.size=some { cls:=.type "list",data:=.seq vs.toArray }:=Heap.get?_push_size _ rfl;have ha:=a0d s1.heap;obtain⟨g2,x1,x2,x3⟩:=Step.grow (tk:=s1.toks) a1.rel.sub (a0e _) ha (fun o e _=>by rw[hp]at e; cases e; rfl)
 have a2:Aft C sc env al g1 s1 st1 g2 { s1 with heap:=s1.heap.push { cls:=.type "list",data:=.seq vs.toArray } } st1:=⟨rfl,rfl,a1.rel.step x1 x2,x1.nil⟩
 have hL:g2.IsList s1.heap.objs.size vs.toArray:=⟨_,x3.trans hp,rfl,0,rfl⟩;refine hb A env g2 _ al st1 Eh _ _ ((H.go a1).go a2) hq fun vb ub st3 s3 g3 a3 i3 hw3=>?_
 split at hw3
 ·rename_i x y ex ey
  have ex:some (PyData.list ([]++us))=some x:=ex;cases ex;rw[List.nil_append]at hw3;cases y with
  |int m=>
   obtain⟨⟨h1,h2,h3⟩,hq⟩:=hw3;obtain⟨u,rfl⟩:=RD.intE (a3.rel.dat? i3 ey);have hL3:=a0f a3.rel.sub (a0f a3.step.sub hL);refine b3g hL3 ((r1.mono x1.sub).mono a3.step.sub) h1 h3 (by exact a2h (.t Z0 (.z (Int.pow 2 63))) (.l Z0 (.z 1000000)) h2) _ fun D ws h' tk hk hD hP r=>?_
   have x4:Step [] s3 g3 { s3 with heap:=h',toks:=tk } g3:=Step.ext hk
   have a4:=(((H.go a1).go a2).go a3).stay { s3 with heap:=h',toks:=tk } x4 (a3.rel.sub.trans hk)
   exact kk D _ st3 _ g3 (a1.trans (a2.trans (a3.trans a4))) (a0w a1 (a0w a2 (a0w a3 hD))) ⟨a3d a3.rel.sub hD,ws,hP,r⟩ hq
  |_=>exact hw3.elim
 ·exact hw3.elim
theorem c3i {a:E} {x:Expr} {es:Es} {xs:List Expr} {ap pos:Pos} (hnm:("split" : Str)=nm) (hsup:a5v x=true) (hln:(ap.endLine==pos.line)=true) (hx:(xs.all a0k)=true) (hl:xs.length≤20)
 (ha:SE C Γ sc n hz a x) (hs:SRs C Γ sc n hz es xs):SF C Γ sc n hz (.me .split a es) (.Call (.Attribute x nm ap) xs [] pos):=fun A env g s al st Eh Q Q' H hw kk=>by
 subst hnm;obtain⟨f1,f2,f3⟩:=b6w .split;refine wpAny_Call_method_lateS (a1e hsup) (few hx hl) hln (ha A env g s al st Eh _ _ H hw fun va ua st1 s1 g1 a1 i1 hw1=>?_);obtain⟨hok,hw1⟩:=hw1;have hrec:∃d,st1.dat? ua=some d:=by
  cases e:st1.dat? ua with
  |none=>rw[e]at hok; exact hok.elim
  |some d=>exact⟨d,rfl⟩
 obtain⟨d,ed⟩:=hrec;obtain⟨t1,t2⟩:=c1t (a1.rel.dat? i1 ed) (c6o a1.rel i1 ed) (ed▸hok);refine⟨meT .split,meI .split,f1,f2,f3,t1,t2,a1o hx (hs A env g1 s1 al st1 Eh pos [] _ _ (H.go a1) hw1 fun vs us st2 s2 g2 a2 i2 hl2 hw2=>?_)⟩
 split at hw2
 ·rename_i d ds e1 e2
  obtain⟨sx,px,t,t',rfl,rfl,⟨h0,h1,h2⟩,hq⟩:=(b1q a2.rel i2 e2).str2 (a2.rel.dat? (i1.mono a2.step.sub) e1) hw2;refine b3d (g:=g2) h0 (Nat.le_trans h1 (by decide)) (Nat.le_trans h2 (by decide)) _ fun D ws h' tk sb hD hp r=>?_
  have x3:Step [] s2 g2 { s2 with heap:=h',toks:=tk } g2:=Step.ext sb
  have a3:=((H.go a1).go a2).stay { s2 with heap:=h',toks:=tk } x3 (a2.rel.sub.trans sb)
  exact kk D _ st2 _ g2 (a1.trans (a2.trans a3)) (a0w (a1.trans a2) hD) ⟨a3d a2.rel.sub hD,ws,hp,r⟩ hq
 ·exact hw2.elim
theorem b3c{e:E}{p pos:Pos}(so:SIOK sc)(hx:a5w sc x i=true)(hc:b4s y=true)(h:SF C Γ sc n hz e y):SS C Γ sc n hz (.assignOwn i e) (.Assign [.Name x p] y pos):=fun A env g s al st Eh Q Q' H hw kk=>by
 refine wpAny_Assign_Name (h A env g s al st Eh _ _ H hw fun D l st1 s1 g1 a1 hD q hw1=>?_) (a4f hc);have b1:=SAft.of H a1;have b2:=b1.push H hD (a0v H.rel hD).1 q;refine a2w so H b2 hx (u:=.own st1.own.length) ⟨D,?_,rfl⟩ fun s2 a2=>kk .next .next _ _ _ _ a2 trivial hw1;rw[←a1.rel.olen,List.getElem?_append_right (Nat.le_refl _),Nat.sub_self]; rfl
end
end
section
section
variable {C:Cfg} {Γ:Ctx} {sc:SI} {n:Nat} {hz:Bool} {k:Ck}
inductive SC(C:Cfg)(Γ:Ctx)(sc:SI)(n:Nat)(hz:Bool)(gall:G)(x:Expr):Prop
 |mk:∀elt target iter ifs rest scope pos,x=.ListComp elt (⟨target,iter,ifs,0⟩::rest) scope pos→(∀(p0:Pos) (A:d8q) (env:Env) (g:Heap) (s:d8f) (al:List Addr) (st:St) (Eh:d8g→d8f→Prop) (use:Option (d8g→Sem Unit)) (Q:d8e→St→Prop) (Q':d8g→d8f→Prop),
  Here C sc hz n A env g s al st→(wpG Γ gall (st.clr gall.ids) [] fun acc st'=>Q (.list acc) { st' with vars:=st.vars })→
  (∀(D L:Addr) acc s' g' st',Aft C sc env al g s st g' s' st'→s.heap.get? D=none→OwnOK g' s'.heap D (.lst acc)→s.heap.get? L=none→L≠D→(∃m,s'.heap.Ns L m)→g'.get? L=none→Q (.list acc) st'→
   compPost (model C.prog C.w) A Eh use Q' (.ref D) L (.ok .next) s')→
  d8i (model C.prog C.w) A (comprehension (.ListComp elt (⟨target,iter,ifs,0⟩::rest) scope pos) scope env p0 (newList []) false (eval iter env) use) Q' Eh s)→SC C Γ sc n hz gall x
theorem c1l(Gd:Good C k)(Γok:a4c C Γ n):(gall:G)→(x:Expr)→SIOK sc→ckE k hz sc (.comp gall) x=true→SC C Γ sc n hz gall (rbE (.comp gall) x)
 |.elt e=>fun x so h=>Bool.noConfusion (show false=true from a0a h)
 |.for t it g=>fun x so h=>⟨_,_,_,_,_,_,_,rfl,fun p0 A env g' s al st Eh use Q Q' H hw kk=>
  have ok:=a7v (a0b h)
  a8a so ok (a0b (a0a h)) (fun env x=>a5k it _ env x) (b0p g (pre:=[_])) (a9p Gd Γok it sc _ _ so (a0b (a0a (a0a h)))) a9d (b1c Gd Γok g _ _ [_] _ _ _ (a2p ok) (a0a (a0a (a0a h))) (Nat.succ_pos _)) (fun st acc K hw=>hw) A env g' s al st Eh use Q Q' H hw kk⟩
 |.forIf t it c g=>fun x so h=>⟨_,_,_,_,_,_,_,rfl,fun p0 A env g' s al st Eh use Q Q' H hw kk=>
  have ok:=a7v (a0b h)
  a8a so ok (a0b (a0a h)) (fun env x=>a5k it _ env x) (b0p g (pre:=[_])) (a9p Gd Γok it sc _ _ so (a0b (a0a (a0a h)))) (b2p (a3z Gd Γok c _ _ (a2p ok) (a0b (a0a (a0a (a0a h)))))) (b1c Gd Γok g _ _ [_] _ _ _ (a2p ok) (a0a (a0a (a0a (a0a h)))) (Nat.succ_pos _)) (fun st acc K hw=>hw) A env g' s al st Eh use Q Q' H hw kk⟩
theorem b9j{gall:G}{x:Expr}(h:SC C Γ sc n hz gall x):SF C Γ sc n hz (.comp gall) x:=fun A env g s al st Eh Q Q' H hw kk=>by
 obtain⟨elt,target,iter,ifs,rest,scope,pos,rfl,h⟩:=h;rw[eval_ListComp];refine h _ A env g s al st Eh none (fun d st=>Q (.dat d) st) Q' H hw fun D L acc s' g' st' a hDn q hLn hne hns hgL hq=>?_;obtain⟨m,hm⟩:=hns;refine⟨m,hm,fun h' hs=>?_⟩;obtain⟨x1,sb1⟩:=Step.one (tk:=s'.toks) a.rel.sub hgL hs;have R1:=a.rel.move x1 sb1 fun b hb=>by simp at hb; subst hb; exact a0v H.rel hLn
 have q1:=a2z q a.rel.sub x1 (by simp; exact fun e=>hne e.symm)
 exact kk D acc st' _ g' ⟨a.vars,a.hz,R1,a.step.trans x1 fun b hb=>by simp at hb; subst hb; exact .inr hLn⟩ hDn q1 hq
theorem b7l(x:Expr)(t:Str)(p:Pos)(l:Nat)(env:Env):swapsWith x (some (.Name t p)) l env=pure true∨swapsWith x (some (.Name t p)) l env=pure false:=by
 cases x with
 |ListComp elt gens scope pos=>
  show(pure (_:Bool):Sem Bool)=_∨(pure (_:Bool):Sem Bool)=_;generalize (env.blockKind==ScopeKind.function&&env.kindOf t==some NameKind.local&&p.line==(Expr.ListComp elt gens scope pos).pos.line && !(scope.names.any fun x=>match x with|(n,k)=>n==t&&(k==NameKind.local||k==NameKind.cell)))=b
  cases b
  ·exact .inr rfl
  ·exact .inl rfl
 |SetComp elt gens scope pos=>
  show(pure (_:Bool):Sem Bool)=_∨(pure (_:Bool):Sem Bool)=_;generalize (env.blockKind==ScopeKind.function&&env.kindOf t==some NameKind.local&&p.line==(Expr.SetComp elt gens scope pos).pos.line && !(scope.names.any fun x=>match x with|(n,k)=>n==t&&(k==NameKind.local||k==NameKind.cell)))=b
  cases b
  ·exact .inr rfl
  ·exact .inl rfl
 |DictComp k v gens scope pos=>
  show(pure (_:Bool):Sem Bool)=_∨(pure (_:Bool):Sem Bool)=_;generalize (env.blockKind==ScopeKind.function&&env.kindOf t==some NameKind.local&&p.line==(Expr.DictComp k v gens scope pos).pos.line && !(scope.names.any fun x=>match x with|(n,k)=>n==t&&(k==NameKind.local||k==NameKind.cell)))=b
  cases b
  ·exact .inr rfl
  ·exact .inl rfl
 |_=>exact .inr rfl
theorem c7r{g g':Heap}{s s':d8f}{al al':List Addr}{st st':St}{Q:d8f→Prop}(H:Here C sc hz n A env g s al st)(a:SAft C sc hz n A env al g s st al' g' s' st')(hLn:s.heap.get? L=none)(hLa:L∉al')
 (hns:∃m,s'.heap.Ns L m) (hgL:g'.get? L=none) (h:∀s2,SAft C sc hz n A env al g s st al' g' s2 st'→Q s2):∃m,s'.heap.Ns L m∧∀h',Heap.SameBut L s'.heap h'→Q { s' with heap:=h' }:=by
 obtain⟨m,hm⟩:=hns;refine⟨m,hm,fun h' hs=>h _ ?_⟩;obtain⟨x1,sb1⟩:=Step.one (tk:=s'.toks) a.here.rel.sub hgL hs;obtain⟨l1,l2,l3⟩:=a0v H.rel hLn;have R1:=a.here.rel.move x1 sb1 fun b hb=>by simp at hb; subst hb; exact⟨hLa,l2,l3⟩
 have xs:Step (wr sc env++(al++C.TA)) s g { s' with heap:=h' } g':=a.step.trans x1 fun b hb=>by simp at hb; subst hb; exact .inr hLn
 exact⟨a.pre,a.new,a.sthz,⟨a.here.ok,a.here.hz,a.here.eok,R1,H.fr.saft xs a.new⟩,xs⟩
theorem b8h{gall:G}{p pos:Pos}(so:SIOK sc)(hx:a5w sc x i=true)(h:SC C Γ sc n hz gall y)(he:SE C Γ sc n hz (.comp gall) y):SS C Γ sc n hz (.assign i (.comp gall)) (.Assign [.Name x p] y pos):=fun A env g s al st Eh Q Q' H hw kk=>by
 rcases b7l y x p pos.line env with hs|hs
 ·obtain⟨elt,target,iter,ifs,rest,scope,pos',rfl,h⟩:=h
  rw[exec_Assign_Name_used _ _ _ _ hs];refine d8d (d8r (d8d ?_));show d8i _ A (do let _ ←comprehension (.ListComp elt (⟨target,iter,ifs,0⟩::rest) scope pos') scope env _ (newList []) false (eval iter env) (some (assign (.Name x p) env))) _ _ s
  refine d8d (d8p (h _ A env g s al st Eh (some (assign (.Name x p) env)) (fun d st1=>Q .next (st1.set i (.dat d))) (fun _ s'=>Q' .next s') H hw fun D L acc s' g' st' a hDn q hLn hne hns hgL hq=>?_) (fun _ s' hq=>d8h (d8h hq)) fun _ _ e=>e);obtain⟨hgD,vs,⟨mm,hp⟩,r⟩:=q;obtain⟨g2,s1,s2,s3,s4,s5⟩:=a7c a.rel.sub D (fun o e _=>by rw[hp]at e; cases e; rfl)
  have x2:Step [D] s' g' s' g2:=⟨⟨s'.heap,s'.toks,rfl⟩,s1,fun _ _ _ e=>.of e,fun _=>s2,fun b o hb _ e=>(s4 b (by simpa using hb)).trans e,s5⟩
  have R2:=a.rel.move x2 s2 fun b hb=>by simp at hb; subst hb; exact a0v H.rel hDn
  have a2:Aft C sc env al g s st g2 s' st':=⟨a.vars,a.hz,R2,a.step.trans x2 fun b hb=>by simp at hb; subst hb; exact .inr hDn⟩
  have rd:RD g2 (.ref D) (.list acc):=RD.list ⟨_,s3.trans hp,rfl,mm,rfl⟩ (r.mono s1);refine wpAny_assign_Name (a5b so (H.go a2) hx (u:=.dat (.list acc)) rd fun s3' x3 H3=>?_);have b2:=SAft.of H a2;have b3:SAft C sc hz n A env al g s st al g2 s3' (st'.set i (.dat (.list acc))):=b2.trans ⟨List.prefix_refl _,fun b hb=>.inl hb,rfl,H3,x3.mono fun b hb=>List.mem_append_left _ hb⟩ H;have hL3:∃m,s3'.heap.Ns L m:=by
   obtain⟨m,hm⟩:=hns;refine⟨m,KeptIn.ns hm fun o e=>x3.keep L o (fun hm=>(a0v H.rel hLn).2.2 (a2b hm)) e⟩
  have hgL2:g2.get? L=none:=(s4 L hne).trans hgL;exact c7r H b3 hLn (a0v H.rel hLn).1 hL3 hgL2 fun s4' a4=>kk .next .next _ _ _ _ a4 trivial hq
 ·have hw':wpE Γ (.comp gall) st (fun v st=>Q .next (st.set i v)):=hw
  refine wpAny_Assign_Name (he A env g s al st Eh _ _ H hw' fun v u st1 s1 g1 a1 i1 hw1=>?_) hs;exact a2w so H (SAft.of H a1) hx i1 fun s2 a2=>kk .next .next _ _ _ _ a2 trivial hw1
theorem b2t{gall:G}{p pos:Pos}(so:SIOK sc)(hx:a5w sc x i=true)(h:SC C Γ sc n hz gall y):SS C Γ sc n hz (.assignOwn i (.comp gall)) (.Assign [.Name x p] y pos):=fun A env g s al st Eh Q Q' H hw kk=>by
 rcases b7l y x p pos.line env with hs|hs
 ·obtain⟨elt,target,iter,ifs,rest,scope,pos',rfl,h⟩:=h
  rw[exec_Assign_Name_used _ _ _ _ hs];refine d8d (d8r (d8d ?_));show d8i _ A (do let _ ←comprehension (.ListComp elt (⟨target,iter,ifs,0⟩::rest) scope pos') scope env _ (newList []) false (eval iter env) (some (assign (.Name x p) env))) _ _ s
  refine d8d (d8p (h _ A env g s al st Eh (some (assign (.Name x p) env)) (fun d st1=>match d with|.list l=>Q .next ((st1.push (.lst l)).set i (.own st1.own.length))|_=>False) (fun _ s'=>Q' .next s') H hw fun D L acc s' g' st' a hDn q hLn hne hns hgL hq=>?_) (fun _ s' hq=>d8h (d8h hq)) fun _ _ e=>e)
  have b2:=(SAft.of H a).push H hDn (a0v H.rel hDn).1 q;refine wpAny_assign_Name (a5b so b2.here hx (u:=.own st'.own.length) ⟨D,?_,rfl⟩ fun s3' x3 H3=>?_)
  ·rw[←a.rel.olen,List.getElem?_append_right (Nat.le_refl _),Nat.sub_self]; rfl
  have b3:SAft C sc hz n A env al g s st (al++[D]) g' s3' ((st'.push (.lst acc)).set i (.own st'.own.length)):=b2.trans ⟨List.prefix_refl _,fun b hb=>.inl hb,rfl,H3,x3.mono fun b hb=>List.mem_append_left _ hb⟩ H;have hL3:∃m,s3'.heap.Ns L m:=by
   obtain⟨m,hm⟩:=hns;refine⟨m,KeptIn.ns hm fun o e=>x3.keep L o (fun hm=>(a0v H.rel hLn).2.2 (a2b hm)) e⟩
  exact c7r H b3 hLn (fun hm=>(List.mem_append.mp hm).elim (a0v H.rel hLn).1 fun h=>hne (by simpa using h)) hL3 hgL fun s4' a4=>kk .next .next _ _ _ _ a4 trivial hq
 ·have hw':wpE Γ (.comp gall) st (fun v st=>match v with|.dat (.list l)=>Q .next ((st.push (.lst l)).set i (.own st.own.length))|_=>False):=hw
  refine wpAny_Assign_Name (b9j h A env g s al st Eh _ _ H hw' fun D l st1 s1 g1 a1 hD q hw1=>?_) hs;have b2:=(SAft.of H a1).push H hD (a0v H.rel hD).1 q;refine a2w so H b2 hx (u:=.own st1.own.length) ⟨D,?_,rfl⟩ fun s2 a2=>kk .next .next _ _ _ _ a2 trivial hw1;rw[←a1.rel.olen,List.getElem?_append_right (Nat.le_refl _),Nat.sub_self]; rfl
end
end
section
section
variable {C:Cfg} {Γ:Ctx} {sc:SI} {n:Nat} {hz:Bool} {k:Ck}
theorem d3h{e:E}{pos:Pos}(h:SE C Γ sc n hz e y):SS C Γ sc n hz (.ret e) (.Return (some y) pos):=fun A env g s al st Eh Q Q' H hw kk=>by
 refine wpAny_Return_some (h A env g s al st Eh _ _ H hw fun v u st1 s1 g1 a1 i1 hw1=>?_);obtain⟨d,st2,g2,e2,⟨z2,hw2⟩,r2,x2,R2⟩:=a1.rel.keepV i1 (a3l hw1);have a2:Aft C sc env al g1 s1 st1 g2 s1 st2:=⟨e2,z2,R2,x2⟩;exact kk (.ret d) (.ret v) al g2 s1 st2 (SAft.of H (a1.trans a2)) r2 hw2
theorem b9q{c:E}{m:Option Expr}{pos:Pos}(h:ST C Γ sc n hz c y):SS C Γ sc n hz (.assert c) (.Assert y m pos):=fun A env g s al st Eh Q Q' H hw kk=>by
 refine wpAny_Assert_holds (h A env g s al st Eh _ _ H hw fun b st1 s1 g1 a1 hw1=>?_);exact⟨hw1.1,kk .next .next al g1 s1 st1 (SAft.of H a1) trivial hw1.2⟩
theorem d6k{c:E}{t f:Ss}{ts fs:List Stmt}{pos:Pos}(hc:ST C Γ sc n hz c y)(ht:SSs C Γ sc n hz t ts)(hf:SSs C Γ sc n hz f fs):SS C Γ sc n hz (.ifs c t f) (.If y ts fs pos):=fun A env g s al st Eh Q Q' H hw kk=>by
 refine wpAny_If (hc A env g s al st Eh _ _ H hw fun b st1 s1 g1 a1 hw1=>?_);cases b with
 |true=>exact ht A env _ _ al _ Eh _ _ (H.go a1) hw1 fun fl f al2 g2 s2 st2 a2 h2 hq=>kk fl f al2 g2 s2 st2 ((SAft.of H a1).trans a2 H) h2 hq
 |false=>exact hf A env _ _ al _ Eh _ _ (H.go a1) hw1 fun fl f al2 g2 s2 st2 a2 h2 hq=>kk fl f al2 g2 s2 st2 ((SAft.of H a1).trans a2 H) h2 hq
theorem d0i{s:d8f}{al:List Addr}{st:St}{Q:d8g→d8f→Prop}(e:EnvOK sc env)(R:Rel C sc env g s.heap al st)(hi:sc.ids.lookup x=some i)(hu:st.get i ≠ .undef)
 (hc:(x==("__classdict__" : Str))=false) (h:∀v,InV C g al v (st.get i)→Q v s):d8i (model C.prog C.w) A (loadName env x) Q Eh s:=by
 rcases R.vars x i hi with h0|⟨v,hl,hv⟩
 ·exact absurd (h0 _ rfl) hu
 ·rcases hl with⟨hk,m,hn,hm⟩|⟨hk,c,hcl,hcell⟩
  ·exact d8z e.kind hk hn hm (h v hv)
  ·rcases hk with hk|hk
   ·exact wpAny_loadName_cell e.kind hk hcl hcell (h v hv)
   ·exact wpAny_loadName_free e.kind hk hcl hcell (h v hv) hc
theorem d3a {o:Op2} {e:E} {p pos:Pos} (so:SIOK sc) (hx:a5w sc x i=true) (hc:(x==("__classdict__" : Str))=false) (h:SE C Γ sc n hz e y):SS C Γ sc n hz (.aug i o e) (.AugAssign (.Name x p) (c4f o) y pos):=fun A env g s al st Eh Q Q' H hw kk=>by
 dsimp only[wpS]at hw
 split at hw
 ·rename_i d ed
  refine wpAny_AugAssign_Name (d0i H.eok H.rel (a3k hx) (by rw[ed]; simp) hc fun v hv=>?_)
  rw[ed]at hv;refine h A env g s al st Eh _ _ H hw fun va ua st1 s1 g1 a1 i1 hw1=>?_
  split at hw1
  ·rename_i x' ex
   have hv1:InV C g1 al v (.dat d):=InV.mono a1.step.sub hv;obtain⟨r,hq,ht⟩:=b4j (C:=C) (A:=A) (E:=Eh) a1.rel.sub (.of a1.rel.sub hv1) (a1.rel.dat? i1 ex) hw1;refine(H.go a1).to ht fun v2 s2 g2 a2 r2=>?_;exact a2w so H (SAft.of H (a1.trans a2)) hx (u:=.dat r) r2 fun s3 a3=>kk .next .next _ _ _ _ a3 trivial hq
  ·exact hw1.elim
 ·exact hw.elim
theorem a6d{s:d8f}{pos:Pos}{Q':Flow→d8f→Prop}(e:EnvOK sc env)(hc:b4s y=true)(h:d8i (model C.prog C.w) A (eval y env) (fun _ s'=>Q' .next s') Eh s):d8i (model C.prog C.w) A (exec (.Expr y pos) env) Q' Eh s:=by
 have hi:interactive env=false:=by unfold interactive; rw[e.kind]; rfl
 rw[exec_Expr env y pos hi (a4f hc)];exact d8d (d8r (d8d (d8p h (fun v s' h'=>wpAny_dropValue h') fun _ _ e=>e)))
theorem c1g {x nm:Str} {e:E} {p ap pos pos2:Pos} (hnm:("append" : Str)=nm) (hi:nmv sc x i=true) (hln:(ap.endLine==pos.line)=true) (hy:a0k y=true)
 (h:SE C Γ sc n hz e y):SS C Γ sc n hz (.append i e) (.Expr (.Call (.Attribute (.Name x p) nm ap) [y] [] pos) pos2):=fun A env g s al st Eh Q Q' H hw kk=>by
 obtain⟨n1,hi⟩:=a4b hi;dsimp only[wpS]at hw
 split at hw
 ·rename_i j ej
  obtain⟨⟨l,hl⟩,hw⟩:=hw;refine a6d H.eok rfl (wpAny_Call_method_lateS (a1e (o:=.Name x p) rfl) (few (by show(a0k y&&true)=true; rw[hy]; rfl) (by simp)) hln (a0z H.eok H.rel n1 (by rw[ej]; simp) hi.1 hi.2 fun v hv=>?_))
  rw[ej]at hv;obtain⟨a,rfl,ha,q⟩:=a5c H.rel hv hl;obtain⟨t1,t2⟩:=b2h q;subst hnm;refine⟨"list", "list.append",F.plainAttrs_list,F.slot_list_append,F.type_list_append,t1,t2,a1o (by show(a0k y&&true)=true; rw[hy]; rfl) (spliced_more (h A env g s al st Eh _ _ H hw fun va ua st1 s1 g1 a1 i1 hw1=>spliced_nil ?_) (a0h hy))⟩
  obtain⟨d,st2,g2,e2,⟨z2,hw2⟩,r2,x2,R2⟩:=a1.rel.keepV i1 (a3l hw1);have a2:Aft C sc env al g1 s1 st1 g2 s1 st2:=⟨e2,z2,R2,x2⟩
  split at hw2
  ·rename_i l1 el
   obtain⟨h1,hw2⟩:=hw2;obtain⟨b,hb,q1⟩:=R2.own j _ el;rw[ha]at hb; cases hb;refine a8l R2.sub q1 r2 h1 _ fun s' x sb q2=>?_;exact kk .next .next _ _ _ _ (SAft.of H (a1.trans (a2.trans (a3q R2 x sb ha q2)))) trivial hw2
  ·exact hw2.elim
 ·exact hw.elim
theorem b8b {x nm:Str} {p ap pos pos2:Pos} (hnm:("reverse" : Str)=nm) (hi:nmv sc x i=true) (hln:(ap.endLine==pos.line)=true):SS C Γ sc n hz (.reverse i) (.Expr (.Call (.Attribute (.Name x p) nm ap) [] [] pos) pos2):=fun A env g s al st Eh Q Q' H hw kk=>by
 obtain⟨n1,hi⟩:=a4b hi;dsimp only[wpS]at hw
 split at hw
 ·rename_i j ej
  split at hw
  ·rename_i l hl
   obtain⟨h1,hw⟩:=hw;refine a6d H.eok rfl (wpAny_Call_method_lateS (a1e (o:=.Name x p) rfl) (few rfl (by simp)) hln (a0z H.eok H.rel n1 (by rw[ej]; simp) hi.1 hi.2 fun v hv=>?_))
   rw[ej]at hv;obtain⟨a,rfl,ha,q⟩:=a5c H.rel hv hl;obtain⟨t1,t2⟩:=b2h q;subst hnm;refine⟨"list", "list.reverse",F.plainAttrs_list,F.slot_list_reverse,F.type_list_reverse,t1,t2,a1o rfl (spliced_nil ?_)⟩;refine b3z H.rel.sub q h1 _ fun s' x sb q2=>?_;exact kk .next .next _ _ _ _ (SAft.of H (a3q H.rel x sb ha q2)) trivial hw
  ·exact hw.elim
 ·exact hw.elim
noncomputable def d2f(j:Int)(x:Expr):Expr:=match j with
 |.ofNat k=>.Constant (.int k) (xK x) (xP x)
 |.negSucc k=>.UnaryOp .USub (.Constant (.int (k+1:Nat)) (xK (x1 x)) (xP (x1 x))) (xP x)
theorem d5j(j:Int)(x:Expr):SE C Γ sc n hz (.int j) (d2f j x):=by
 cases j with
 |ofNat k=>exact b7g
 |negSucc k=>exact fun A env g s al st Eh Q Q' H hw kk=>c2w (Γ:=Γ) b7g A env g s al st Eh Q Q' H hw kk
theorem b9z{j:Int}{p p2 pos:Pos}(hi:nmv sc x i=true)(hy:SE C Γ sc n hz (.int j) y):SS C Γ sc n hz (.delIdx i j) (.Delete [.Subscript (.Name x p) y p2] pos):=fun A env g s al st Eh Q Q' H hw kk=>by
 obtain⟨n1,hi⟩:=a4b hi;dsimp only[wpS]at hw
 split at hw
 ·rename_i m em
  split at hw
  ·rename_i l hl
   obtain⟨h1,hw⟩:=hw
   split at hw
   ·rename_i nn en
    refine wpAny_Delete (wpAny_deleteEach_cons (wpAny_delete_Subscript (a0z H.eok H.rel n1 (by rw[em]; simp) hi.1 hi.2 fun v hv=>?_)))
    rw[em]at hv;obtain⟨a,rfl,ha,q⟩:=a5c H.rel hv hl;refine hy A env g s al st Eh (fun v st'=>v=.dat (.int j)∧st'=st) _ H ⟨rfl,rfl⟩ fun va ua st1 s1 g1 a1 i1 hw1=>?_;obtain⟨rfl,rfl⟩:=hw1;obtain⟨t,rfl⟩:=RD.intE i1;obtain⟨b,hb,q1⟩:=a1.rel.own m _ hl;rw[ha]at hb; cases hb;refine b5b a1.rel.sub q1 h1.1 h1.2 en _ fun s' x sb q2=>wpAny_deleteEach_nil ?_;exact kk .next .next _ _ _ _ (SAft.of H (a1.trans (a3q a1.rel x sb ha q2))) trivial hw
   ·exact hw.elim
  ·exact hw.elim
 ·exact hw.elim
theorem c6l{x o i:Expr}{p:Pos}{l:Nat} :swapsWith x (some (.Subscript o i p)) l env=pure false:=by
 cases x <;> rfl
theorem c1f{ix e:E}{y z:Expr}{p p2 pos:Pos}(hi:nmv sc x i=true)(hv:SE C Γ sc n hz e z)(hx:SE C Γ sc n hz ix y):SS C Γ sc n hz (.setIdx i ix e) (.Assign [.Subscript (.Name x p) y p2] z pos):=fun A env g s al st Eh Q Q' H hw kk=>by
 obtain⟨n1,hi⟩:=a4b hi;refine wpAny_Assign_Subscript (hv A env g s al st Eh _ _ H hw fun va ua st1 s1 g1 a1 i1 hw1=>?_) c6l;obtain⟨d,st2,g2,e2,⟨z2,hw2⟩,r2,x2,R2⟩:=a1.rel.keepV i1 (a3l hw1);have a2:Aft C sc env al g1 s1 st1 g2 s1 st2:=⟨e2,z2,R2,x2⟩;have H2:=(H.go a1).go a2
 split at hw2
 ·rename_i j ej
  refine a0z H2.eok H2.rel n1 (by rw[ej]; simp) hi.1 hi.2 fun v hv=>?_
  rw[ej]at hv;obtain⟨a,ha,rfl⟩:=hv;refine hx A env g2 s1 al st2 Eh _ _ H2 hw2 fun vb ub st3 s3 g3 a3 i3 hw3=>?_
  split at hw3
  ·rename_i jj l e1 el
   obtain⟨h1,h2,hw3⟩:=hw3;obtain⟨b,hb,q1⟩:=a3.rel.own j _ el;rw[ha]at hb; cases hb;obtain⟨t,rfl⟩:=RD.intE (a3.rel.dat? i3 e1);refine a7d a3.rel.sub q1 h1 h2 (r2.mono a3.step.sub) _ fun s' x sb q2=>?_;exact kk .next .next _ _ _ _ (SAft.of H (a1.trans (a2.trans (a3.trans (a3q a3.rel x sb ha q2))))) trivial hw3
  ·exact hw3.elim
 ·exact hw2.elim
set_option backward.match.sparseCases false in
noncomputable def b2s:Expr→Bool|.Slice ..=>false|_=>true
theorem b8d{i:Expr}(h:b2s i=true):∀ov iv new,augStore i ov iv new=(do
  holding [new,ov,iv] (setItem ov iv new)
  release [new,ov,iv] []
  pure Flow.next):=fun ov iv new=>by cases i <;> first|rfl|cases h
theorem c1x{o:Op2}{ix e:E}{y z:Expr}{p p2 pos:Pos}(hi:nmv sc x i=true)(hs:b2s y=true)(hv:SE C Γ sc n hz e z)(hx:SE C Γ sc n hz ix y):SS C Γ sc n hz (.augIdx i ix o e) (.AugAssign (.Subscript (.Name x p) y p2) (c4f o) z pos):=fun A env g s al st Eh Q Q' H hw kk=>by
 obtain⟨n1,hi⟩:=a4b hi;dsimp only[wpS]at hw
 split at hw
 ·rename_i j ej
  refine wpAny_AugAssign_SubscriptAny (a0z H.eok H.rel n1 (by rw[ej]; simp) hi.1 hi.2 fun v hv'=>?_) (b8d hs)
  rw[ej]at hv';obtain⟨a,ha,rfl⟩:=hv';refine hx A env g s al st Eh _ _ H hw fun vb ub st1 s1 g1 a1 i1 hw1=>?_
  split at hw1
  ·rename_i jj l e1 el
   obtain⟨h1,hw1⟩:=hw1
   split at hw1
   ·rename_i d ed
    obtain⟨b,hb,q1⟩:=a1.rel.own j _ el;rw[ha]at hb; cases hb;obtain⟨t,rfl⟩:=RD.intE (a1.rel.dat? i1 e1);obtain⟨_,vs,⟨m,hp⟩,r⟩:=q1;obtain⟨ov,hov,rov⟩:=r.get ed;refine wpAny_getItem_list (l:=a) (items:=vs.toArray) (x:=ov) ⟨_,hp,rfl,m,rfl⟩ h1.1 (by exact a2h (.t Z0 (.z (Int.pow 2 63))) (.a (.l (.z 0) Z0) (.l Z0 (.z 1000000))) h1) (by simpa using hov) ?_
    refine hv A env g1 s1 al st1 Eh _ _ (H.go a1) hw1 fun vc uc st2 s2 g2 a2 i2 hw2=>?_
    split at hw2
    ·rename_i x' l2 ex el2
     obtain⟨h3,hw2⟩:=hw2;obtain⟨r',hq,ht⟩:=b4j (C:=C) (A:=A) (E:=Eh) a2.rel.sub (.of a2.rel.sub (rov.mono a2.step.sub)) (a2.rel.dat? i2 ex) hw2;refine((H.go a1).go a2).to ht fun v3 s3 g3 a3 r3=>?_;obtain⟨b,hb,q3⟩:=a3.rel.own j _ el2;rw[ha]at hb; cases hb;refine a7d a3.rel.sub q3 h1 h3 r3 _ fun s' x sb q4=>?_;exact kk .next .next _ _ _ _ (SAft.of H (a1.trans (a2.trans (a3.trans (a3q a3.rel x sb ha q4))))) trivial hq
    ·exact hw2.elim
   ·exact hw1.elim
  ·exact hw1.elim
 ·exact hw.elim
end
end
section
section
variable {C:Cfg} {Γ:Ctx} {sc:SI} {n:Nat} {hz:Bool} {k:Ck}
theorem a4l{E:d8g→d8f→Prop}{s:d8f}{t:Addr}{Q:List d8g→d8f→Prop}(hk:HOK A g)(sg:Sub g s.heap)(ht':s.heap.IsTuple t vs.toArray)
 (hQ:∀h',Sub s.heap h'→Q vs { s with heap:=h' }):d8i (model C.prog C.w) A (unpackItems (.ref t) vs.length none) Q E s:=by
 have hnew:∀b o,s.heap.get? b=some o→b≠s.heap.objs.size:=fun b o e=>Nat.ne_of_lt (Heap.lt_size e);have hgn:g.get? s.heap.objs.size=none:=a3d sg (a0d _);have hlen:vs.toArray.size=vs.length:=by simp
 have hlt:t≠s.heap.objs.size:=by obtain⟨o,ho,_⟩:=ht'; exact hnew _ _ ho
 unfold unpackItems;refine d8d ?_;unfold notIterableAtAll;refine d8d (wpAny_specialOf ht'.typeIs F.slot_tuple_iter.lookup ?_);refine d8h ?_;refine d8d (d8l (wpAny_pyIter_tuple ht' ?_));rw[←hlen];refine d8d (d8l (wpAny_draw_tuple hlt vs.toArray.size 0 _ _ ⟨_,Heap.get?_push_size _ rfl,rfl,rfl⟩ (ht'.push _) (by exact a1x (.l (.p (.k 0) N0) N0)) fun h₁ hit₁ hs₁=>?_))
 have hall:List.take vs.toArray.size (List.drop 0 vs.toArray.toList)=vs.toArray.toList:=by
  rw[List.drop_zero]; exact List.take_of_length_le (by simp)
 rw[hall];rw[if_neg (by simp)]
 have ht₁:h₁.IsTuple t vs.toArray:=(ht'.push _).extBut hs₁.extBut hlt;have sg₁:Sub g h₁:=fun b o e=>(hs₁.2 b (hnew b o (sg _ _ e))).trans (a0e _ _ _ (sg _ _ e));refine d8d (d8l (a3e hk sg₁ hgn hit₁ ht₁ (by simp) fun h₂ he₂=>?_))
 exact d8h (by simpa using hQ h₂ (fun b o e=>he₂ b o (hnew b o e) (hs₁.extBut b o (hnew b o e) (a0e _ _ _ e))))
noncomputable def a5h(st:St)(l:List (Nat×V)):St:=l.foldl (fun st p=>st.set p.1 p.2) st
noncomputable def b3m(sc:SI):List Nat→List Str→Bool
 |[],[]=>true
 |i::is,x::xs=>a5w sc x i&&b3m sc is xs
 |_,_=>false
theorem c5e{is:List Nat}:∀{xs:List Str},b3m sc is xs=true→is.length=xs.length:=by
 induction is with
 |nil=>intro xs h; cases xs with|nil=>rfl|cons _ _=>cases h
 |cons i is ih=>intro xs h; cases xs with
  |nil=>cases h
  |cons x xs=>dsimp only[b3m]at h; simp only[Bool.and_eq_true]at h; simp[ih h.2]
theorem b9r{is:List Nat} :∀{xs:List Str},b3m sc is xs=true→a5w sc x i=true→b3m sc (is++[i]) (xs++[x])=true:=by
 induction is with
 |nil=>intro xs h h2; cases xs with|nil=>dsimp only[b3m,List.nil_append]; simp[h2]|cons _ _=>cases h
 |cons j is ih=>intro xs h h2; cases xs with
  |nil=>cases h
  |cons y xs=>dsimp only[b3m,List.cons_append]at h ⊢; simp only[Bool.and_eq_true]at h ⊢; exact⟨h.1,ih h.2 h2⟩
theorem c5w{is:List Nat}:∀{xs:List Str},b3m sc is xs=true→b3m sc is.reverse xs.reverse=true:=by
 induction is with
 |nil=>intro xs h; cases xs with|nil=>rfl|cons _ _=>cases h
 |cons i is ih=>intro xs h; cases xs with
  |nil=>cases h
  |cons x xs=>dsimp only[b3m]at h; simp only[Bool.and_eq_true]at h; rw[List.reverse_cons,List.reverse_cons]; exact b9r (ih h.2) h.1
theorem InVs.snoc{al:List Addr}{us:List V}{u:V}(h:InVs C g al vs us)(i:InV C g al v u):InVs C g al (vs++[v]) (us++[u]):=h.append ⟨i,trivial⟩
theorem InVs.rev{al:List Addr}:∀{vs:List d8g} {us:List V},InVs C g al vs us→InVs C g al vs.reverse us.reverse
 |[],[]=>fun _=>trivial
 |v::vs,u::us=>fun h=>by rw[List.reverse_cons,List.reverse_cons]; exact(InVs.rev h.2).snoc h.1
 |[],_::_=>fun h=>h.elim
 |_::_,[]=>fun h=>h.elim
theorem InVs.of{al:List Addr}:∀{vs:List d8g} {ds:List d8e},RDs g vs ds→InVs C g al vs (ds.map .dat)
 |[],_,⟨_,h⟩=>by cases h; trivial
 |v::vs,_,h=>by obtain⟨d,r,rfl,h1,h2⟩:=h.cases; exact⟨h1,InVs.of h2⟩
theorem b4b(st:St){i j:Nat}(h:i≠j)(u v:V):(st.set i u).set j v=(st.set j v).set i u:=by
 unfold St.set;rw[List.set_comm _ _ h]
theorem c1h(l:List (Nat×V)):∀(st:St) (i:Nat) (u:V),i∉l.map (·.1)→a5h (st.set i u) l=(a5h st l).set i u:=by
 induction l with
 |nil=>intro st i u _; rfl
 |cons p r ih=>
  intro st i u h;rw[List.map_cons,List.mem_cons,not_or]at h;show a5h ((st.set i u).set p.1 p.2) r=(a5h (st.set p.1 p.2) r).set i u;rw[b4b st h.1,ih _ _ _ h.2]
theorem b3v(l m:List (Nat×V))(st:St):a5h st (l++m)=a5h (a5h st l) m:=List.foldl_append ..
theorem c0g(l:List (Nat×V)):∀st:St,(l.map (·.1)).Nodup→a5h st l.reverse=a5h st l:=by
 induction l with
 |nil=>intro st _; rfl
 |cons p r ih=>
  intro st h;rw[List.map_cons,List.nodup_cons]at h;rw[List.reverse_cons,b3v,ih st h.2];exact(c1h r st p.1 p.2 h.1).symm
theorem a7y{α β:Type}:∀(l:List α) (m:List β),l.length=m.length→(l.zip m).map (·.1)=l
 |[],_=>fun _=>rfl
 |a::l,[]=>fun h=>by cases h
 |a::l,b::m=>fun h=>by simp[a7y l m (by simpa using h)]
theorem c8d{α β:Type}(l:List α)(m:List β)(h:l.length=m.length):l.reverse.zip m.reverse=(l.zip m).reverse:=by
 induction l generalizing m with
 |nil=>simp
 |cons a l ih=>
  cases m with
  |nil=>cases h
  |cons b m=>
   have h:l.length=m.length:=by simpa using h
   rw[List.reverse_cons,List.reverse_cons,List.zip_append (by simpa using h),ih m h]
   simp
theorem a8b(so:SIOK sc){al:List Addr}(is:List Nat):∀{xs:List Str} {vs:List d8g} {us:List V} {g:Heap} {s:d8f} {st:St} {Q:Unit→d8f→Prop} (ts:List (d8g→Sem Unit)),
  (∀(j:Nat) x v Q s,xs[j]?=some x→(∀t,ts[j]?=some t→d8i (model C.prog C.w) A (storeName env x v) Q Eh s→d8i (model C.prog C.w) A (t v) Q Eh s))→ts.length=xs.length→
  b3m sc is xs=true→Here C sc hz n A env g s al st→InVs C g al vs us→is.length=us.length→
  (∀s',Step (wr sc env) s g s' g→Here C sc hz n A env g s' al (a5h st (is.zip us))→Q () s')→d8i (model C.prog C.w) A (assignInOrder ts vs) Q Eh s:=by
 induction is with
 |nil=>
  intro xs vs us g s st Q ts ht htl hc H r hl h;cases xs with
  |nil=>
   cases ts with
   |nil=>exact assignInOrder_nil (h s .refl H)
   |cons _ _=>cases htl
  |cons x r=>cases hc
 |cons i is ih=>
  intro xs vs us g s st Q ts ht htl hc H r hl h;cases xs with
  |nil=>cases hc
  |cons x xs=>
   dsimp only[b3m]at hc;simp only[Bool.and_eq_true]at hc;cases us with
   |nil=>cases hl
   |cons u us=>
    cases vs with
    |nil=>exact r.elim
    |cons v vs=>
     cases ts with
     |nil=>cases htl
     |cons t ts=>
      refine assignInOrder_cons (ht 0 x v _ s rfl t rfl (a5b (u:=u) so H hc.1 r.1 fun s' x' H'=>?_));refine ih ts (fun j y w Q s e t' e'=>ht (j+1) y w Q s (by simpa using e) t' (by simpa using e')) (by simpa using htl) hc.2 H' (r.2) (by simpa using hl) fun s2 x2 H2=>h s2 (x'.tr x2) H2
noncomputable def a2d:List Expr→Option (List Str)
 |[]=>some []
 |x::r=>if isK 23 x=true then(a2d r).map (xN x :: ·)else none
theorem b3y{x:Expr}{r:List Expr}{ns:List Str}(h:a2d (x::r)=some ns):∃y p m,x=.Name y p∧a2d r=some m∧ns=y::m:=by
 obtain⟨h1,h2⟩:=Option.ite_none_right_eq_some.mp h;obtain⟨y,p,rfl⟩:=c1q h1;obtain⟨m,h3,h4⟩:=Option.map_eq_some_iff.mp h2;exact⟨y,p,m,rfl,h3,h4.symm⟩
theorem a4o{env:Env}:∀{xs:List Expr} {ns:List Str},a2d xs=some ns→(assignEach xs env).length=ns.length∧(assignEach xs env).findIdx? (·.1)=none∧∀(j:Nat) x,ns[j]?=some x→∃p,((assignEach xs env).map (·.2))[j]?=some (assign (.Name x p) env)
 |[],ns,h=>by cases h; exact⟨rfl,rfl,fun j x e=>by simp at e⟩
 |x::r,ns,h=>by
  obtain⟨y,p,m,rfl,hm,rfl⟩:=b3y h;obtain⟨h1,h2,h3⟩:=a4o (env:=env) hm;refine⟨congrArg (· + 1) h1,b0i h2,fun j x e=>?_⟩;cases j with
  |zero=>cases e; exact⟨p,rfl⟩
  |succ j=>exact h3 j x e
theorem b3t(f:Expr→Option Str)(hf:∀y q,f (.Name y q)=some y∨f (.Name y q)=none):∀(xs:List Expr) (ns:List Str),a2d xs=some ns→((xs.filterMap f).length=xs.length→xs.filterMap f=ns)∧(xs.filterMap f).length≤xs.length:=by
 intro xs
 induction xs with
 |nil=>intro ns h; cases h; exact⟨fun _=>rfl,Nat.le_refl _⟩
 |cons x r ih=>
  intro ns h;obtain⟨y,q,m,rfl,hm,rfl⟩:=b3y h;obtain⟨e2,e3⟩:=ih m hm
  rcases hf y q with hc|hc
  ·rw[List.filterMap_cons,hc]
   exact⟨fun hl=>congrArg (y :: ·) (e2 (Nat.succ.inj hl)),Nat.succ_le_succ e3⟩
  ·rw[List.filterMap_cons,hc]
   exact⟨fun hl=>absurd (hl▸e3) (Nat.not_succ_le_self _),Nat.le_succ_of_le e3⟩
theorem c6j [Decidable c]{α:Type _}{n a r:α}(h:¬c→a=n∨a=r):(if c then n else a)=n∨(if c then n else a)=r:=by
 by_cases k:c
 ·exact .inl (if_pos k)
 ·rw[if_neg k]; exact h k
theorem d7y:∀(f q a b c:Bool),(f ||!q ||!a||b)=true→¬((!a||b||c)=true)→¬(f=true)→¬(q=true):=by decide
theorem d7s{m n:Nat}{e:Bool}(h:¬((m != n||e)=true)):m=n:=Decidable.of_not_not fun k=>h (by rw[bne_iff_ne.mpr k]; rfl)
theorem a6c{x1:Nat}{p:Pos}{ns:List Str}(hns:a2d ts=some ns)
 (hv:∀vs k p,value=.Tuple vs k p→(vs.all (foldedForSure 8) ||!vs.all (constantsAlone 8) ||!(ts.length==2||ts.length==3)||vs.length != ts.length)=true) :
  swappedStores [.Tuple ts x1 p] value env=pure none∨swappedStores [.Tuple ts x1 p] value env=pure (some ns):=by
 cases value with
 |Tuple vs k pp=>
  have hv:=hv vs k pp rfl;refine c6j (n:=pure none) (r:=pure (some ns)) fun h1=>c6j (n:=pure none) fun h2=>?_;refine c6j (n:=pure none) fun h3=>?_;have e2:=(b3t _ (fun y q=>by dsimp only; split <;> simp) ts ns hns).1 (d7s h3)
  refine c6j (n:=pure none) fun h4=>.inr ?_;rw[if_neg (d7y _ _ _ _ _ hv h1 h4)];exact congrArg (fun x=>pure (some x)) e2
 |_=>exact .inl rfl
end
end
section
section
variable {C:Cfg} {Γ:Ctx} {sc:SI} {n:Nat} {hz:Bool} {k:Ck}
theorem b7p{x:Expr}{x1:Nat}{p:Pos}{l:Nat} :swapsWith x (some (.Tuple ts x1 p)) l env=pure false:=by
 cases x <;> rfl
def d5z(C:Cfg)(sc:SI)(hz:Bool)(n:Nat)(A:d8q)(env:Env)(al:List Addr)(g:Heap)(s:d8f)(st:St)(Eh:d8g→d8f→Prop)(is:List Nat)(Q':Flow→d8f→Prop)(v:d8g)(s1:d8f):Prop:=
 ∃al1 g1 st1 us,SAft C sc hz n A env al g s st al1 g1 s1 st1∧is.length=us.length ∧
  (∀Q:List d8g→d8f→Prop,(∀vs h',Sub s1.heap h'→InVs C g1 al1 vs us→Q vs { s1 with heap:=h' })→d8i (model C.prog C.w) A (unpackItems v us.length none) Q Eh s1) ∧
  (∀s2,SAft C sc hz n A env al g s st al1 g1 s2 (a5h st1 (is.zip us))→Q' .next s2)
theorem a7e{x1:Nat}{p pos:Pos}{ns:List Str}{is:List Nat}{al:List Addr}{s:d8f}{st:St}{Q':Flow→d8f→Prop}(so:SIOK sc)(H:Here C sc hz n A env g s al st)
 (hns:a2d ts=some ns) (hck:b3m sc is ns=true) (hnd:is.Nodup)
 (hv:∀vs k p,value=.Tuple vs k p→(vs.all (foldedForSure 8) ||!vs.all (constantsAlone 8) ||!(ts.length==2||ts.length==3)||vs.length != ts.length)=true)
 (h:d8i (model C.prog C.w) A (eval value env) (d5z C sc hz n A env al g s st Eh is Q') Eh s):d8i (model C.prog C.w) A (exec (.Assign [.Tuple ts x1 p] value pos) env) Q' Eh s:=by
 rw[arm_exec_Assign];refine d8d (d8r (d8d (d8v (a:=false) (b7p (ts:=ts) (x1:=x1) (p:=p) (l:=pos.line) (env:=env)) ?_)));refine d8d (d8p h (fun v s1 h1=>?_) fun _ _ e=>e);obtain⟨al1,g1,st1,us,a1,hl,hu,hq⟩:=h1;have hlen:=c5e hck;have fin:∀h',Sub s1.heap h'→∀s2,SAft C sc hz n A env al g s st al1 g1 s2 (a5h st1 (is.zip us))→Q' .next s2:=fun _ _ s2 a=>hq s2 a;have step1:∀h',Sub s1.heap h'→SAft C sc hz n A env al g s st al1 g1 { s1 with heap:=h' } st1:=fun h' sb=>by
  have x1:Step [] s1 g1 { s1 with heap:=h' } g1:=Step.ext (tk:=s1.toks) sb
  have a2:=a1.here.stay { s1 with heap:=h' } x1 (a1.here.rel.sub.trans sb)
  exact a1.trans (SAft.of a1.here a2) H
 rcases a6c (env:=env) (x1:=x1) (p:=p) hns hv with hs|hs
 ·refine d8d (d8v hs ?_)
  show d8i _ _ (assignAll v [assign (.Tuple ts x1 p) env] >>= fun _=>pure Flow.next) _ _ _;refine d8d ?_;show d8i _ _ (assign (.Tuple ts x1 p) env v) _ _ _;rw[arm_assign_Tuple];refine d8d (d8r ?_);unfold unpack;obtain⟨e1,e2,e3⟩:=a4o (env:=env) hns;rw[e1,e2,←hlen,hl];refine d8d (d8l (hu _ fun vs h' sb hi=>?_));have a2:=step1 h' sb;refine a8b so is _ (fun j x v Q s e t et hh=>?_) (by simpa using e1) hck a2.here hi hl fun s' x' H'=>d8h (fin h' sb s' (a2.trans ⟨List.prefix_refl _,fun b hb=>.inl hb,?_,H',x'.mono fun b hb=>List.mem_append_left _ hb⟩ H))
  ·obtain⟨q,hq⟩:=e3 j x e
   rw[hq]at et;obtain rfl:=Option.some.inj et;exact wpAny_assign_Name hh
  ·have:∀(l:List (Nat×V)) (st:St),(a5h st l).hz=st.hz:=by
    intro l; induction l with
    |nil=>intro st; rfl
    |cons p r ih=>intro st; exact(ih _).trans rfl
   exact this _ _
 ·refine d8d (d8v hs ?_)
  unfold assignStores;refine d8d (wpAny_rule (d8d ?_));rw[←hlen,hl];refine hu _ fun vs h' sb hi=>?_;have a2:=step1 h' sb;refine d8d (a8b so is.reverse (xs:=ns.reverse) (us:=us.reverse) _ (fun j x v Q s e t et hh=>?_) (by simp) (c5w hck) a2.here hi.rev (by simpa using hl) fun s' x' H'=>d8h (fin h' sb s' (a2.trans ⟨List.prefix_refl _,fun b hb=>.inl hb,?_,?_,x'.mono fun b hb=>List.mem_append_left _ hb⟩ H)))
  ·rw[List.getElem?_map,e]at et
   obtain rfl:=Option.some.inj et;exact wpAny_bindName hh
  ·have:∀(l:List (Nat×V)) (st:St),(a5h st l).hz=st.hz:=by
    intro l; induction l with
    |nil=>intro st; rfl
    |cons p r ih=>intro st; exact(ih _).trans rfl
   exact this _ _
  ·rw[c8d is us hl,c0g _ _ (by rw[a7y is us hl]; exact hnd)]at H'
   exact H'
theorem c7u(l:List Nat)(ds:List d8e):∀st:St,a5h st (l.zip (ds.map .dat))=(l.zip ds).foldl (fun st p=>st.set p.1 (.dat p.2)) st:=by
 induction l generalizing ds with
 |nil=>intro st; rfl
 |cons i l ih=>
  intro st;cases ds with
  |nil=>rfl
  |cons d ds=>exact ih ds _
theorem b4e{x1:Nat}{p pos:Pos}{ns:List Str}{is:List Nat}{e:E}(so:SIOK sc)(hns:a2d ts=some ns)(hck:b3m sc is ns=true)(hnd:is.Nodup)
 (hv:∀vs k p,value=.Tuple vs k p→(vs.all (foldedForSure 8) ||!vs.all (constantsAlone 8) ||!(ts.length==2||ts.length==3)||vs.length != ts.length)=true)
 (h:SE C Γ sc n hz e value):SS C Γ sc n hz (.assignTup is e) (.Assign [.Tuple ts x1 p] value pos):=fun A env g s al st Eh Q Q' H hw kk=>by
 refine a7e so H hns hck hnd hv (h A env g s al st Eh _ _ H hw fun v u st1 s1 g1 a1 i1 hw1=>?_)
 split at hw1
 ·rename_i ds eds
  obtain⟨hl,hq⟩:=hw1;rw[Option.bind_eq_some_iff]at eds;obtain⟨d,ed,eds⟩:=eds;refine⟨al,g1,st1,ds.map .dat,SAft.of H a1,by simpa using hl,fun Q hQ=>?_,fun s2 a2=>kk .next .next _ _ _ _ a2 trivial ?_⟩
  ·rw[List.length_map]
   exact a7a (H.go a1).ok.handled a1.rel.sub (a1.rel.dat? i1 ed) eds fun vs h' sb r=>hQ vs h' sb (InVs.of r)
  ·rw[c7u]; exact hq
 ·exact hw1.elim
noncomputable def Ms.ids:Ms→List Nat
 |.nil=>[]
 |.plain i _ r=>i::r.ids
 |.own i _ r=>i::r.ids
 |.iter i _ r=>i::r.ids
def SMs(C:Cfg)(Γ:Ctx)(sc:SI)(n:Nat)(hz:Bool)(ms:Ms)(xs:List Expr):Prop:=
 ∀(A:d8q) (env:Env) (g:Heap) (s:d8f) (al:List Addr) (st:St) (Eh:d8g→d8f→Prop) (pos:Pos) (acc:List (Nat×V)) (Q:List (Nat×V)→St→Prop) (Q':List d8g→d8f→Prop),Here C sc hz n A env g s al st→wpMs Γ C.toks ms st acc Q→
  (∀vs bs al' g' s' st',SAft C sc hz n A env al g s st al' g' s' st'→InVs C g' al' vs (bs.map (·.2))→vs.length=xs.length→bs.map (·.1)=ms.ids→Q (acc++bs) st'→Q' vs s')→d8i (model C.prog C.w) A (spliced (d8x pos (d8s xs env))) Q' Eh s
theorem c9i:SMs C Γ sc n hz .nil []:=fun A env g s al st Eh pos acc Q Q' H hw kk=>spliced_nil (kk [] [] al g s st (SAft.of H (Aft.refl H.rel)) trivial rfl rfl ((List.append_nil acc).symm▸hw))
theorem b9g{e:E}{ms:Ms}{x:Expr}{xs:List Expr}(hx:a0k x=true)(h:SE C Γ sc n hz e x)(hr:SMs C Γ sc n hz ms xs):SMs C Γ sc n hz (.plain i e ms) (x::xs):=fun A env g s al st Eh pos acc Q Q' H hw kk=>by
 refine spliced_more (h A env g s al st Eh _ _ H hw fun v u st1 s1 g1 a1 i1 hw1=>?_) (a0h hx)
 split at hw1
 ·rename_i d
  refine hr A env g1 s1 al st1 Eh pos _ _ _ (H.go a1) hw1 fun vs bs al2 g2 s2 st2 a2 i2 hl hid hq=>?_;exact kk _ ((i,.dat d)::bs) al2 g2 s2 st2 ((SAft.of H a1).trans a2 H) ⟨InV.mono a2.step.sub i1,i2⟩ (congrArg (· + 1) hl) (congrArg (i :: ·) hid) (by simpa using hq)
 ·exact hw1.elim
theorem d0a{e:E}{ms:Ms}{x:Expr}{xs:List Expr}(hx:a0k x=true)(h:SF C Γ sc n hz e x)(hr:SMs C Γ sc n hz ms xs):SMs C Γ sc n hz (.own i e ms) (x::xs):=fun A env g s al st Eh pos acc Q Q' H hw kk=>by
 refine spliced_more (h A env g s al st Eh _ _ H hw fun D l st1 s1 g1 a1 hD q hw1=>?_) (a0h hx);have b2:=(SAft.of H a1).push H hD (a0v H.rel hD).1 q;refine hr A env g1 s1 (al++[D]) _ Eh pos _ _ _ b2.here hw1 fun vs bs al2 g2 s2 st2 a2 i2 hl hid hq=>?_;refine kk _ ((i,.own st1.own.length)::bs) al2 g2 s2 st2 (b2.trans a2 H) ⟨⟨D,a9g a2.pre ?_,rfl⟩,i2⟩ (congrArg (· + 1) hl) (congrArg (i :: ·) hid) (by simpa using hq)
 rw[←a1.rel.olen,List.getElem?_append_right (Nat.le_refl _),Nat.sub_self]; rfl
theorem c6c{s:d8f}{l:List d8e}{Q:d8g→d8f→Prop}(sg:Sub g s.heap)(hv:RD g v (.list l))
 (h:∀(D:Addr) h',Sub s.heap h'→s.heap.get? D=none→OwnOK g h' D (.iter l)→Q (.ref D) { s with heap:=h' }):d8i (model C.prog C.w) A (call (.builtin "iter") [v]) Q Eh s:=by
 obtain⟨a,vs,rfl,hl,r⟩:=hv.listE;refine call_function_entry (by decide +kernel) (by decide +kernel) kdk_entry_iter (kdk_args_iter _) ?_
 unfold Builtin.«iter»;refine d8d (m:=someArgs "iter" 1 2 _) (d8v (a:=[Value.ref a]) (by first|rfl|kernel_rfl!) ?_)
 show d8i _ _ (pyIter (.ref a) >>= _) _ _ _;refine d8d (wpAny_pyIter_list (a0f sg hl) ?_);exact d8h ⟨_,rfl,h _ _ (a0e _) (a0d _) ⟨a3d sg (a0d _),a,vs,0,l,⟨_,Heap.get?_push_size _ rfl,rfl,rfl⟩,hl,r,rfl⟩⟩
theorem c6m {e:E} {ms:Ms} {x:Expr} {p pos':Pos} {xs:List Expr} (G:Good C k) (hk:sc.names.lookup ("iter" : Str)=some .globalImplicit) (hx:a0k x=true) (h:SE C Γ sc n hz e x) (hr:SMs C Γ sc n hz ms xs):SMs C Γ sc n hz (.iter i e ms) (.Call (.Name "iter" p) [x] [] pos'::xs):=fun A env g s al st Eh pos acc Q Q' H hw kk=>by
 refine spliced_more ?_ rfl;refine d8u (a2g G H hk (by decide) (by decide) (v:=.builtin "iter") rfl ?_)
 refine a2u (un1 hx) (by simp) (spliced_more (h A env g s al st Eh _ _ H hw fun v u st1 s1 g1 a1 i1 hw1=>spliced_nil ?_) (a0h hx))
 obtain⟨d,st2,g2,e2,⟨z2,hw2⟩,r2,x2,R2⟩:=a1.rel.keepV i1 (a3l hw1);have a2:Aft C sc env al g1 s1 st1 g2 s1 st2:=⟨e2,z2,R2,x2⟩
 split at hw2
 ·rename_i l
  refine c6c R2.sub r2 fun D h' sb hD q=>?_;have x3:Step [] s1 g2 { s1 with heap:=h' } g2:=Step.ext (tk:=s1.toks) sb
  have a3:=((H.go a1).go a2).stay { s1 with heap:=h' } x3 (R2.sub.trans sb)
  have hD0:s.heap.get? D=none:=a0w (a1.trans a2) hD;have b3:=(SAft.of H (a1.trans (a2.trans a3))).push H hD0 (a0v H.rel hD0).1 q;refine hr A env g2 _ (al++[D]) _ Eh pos _ _ _ b3.here hw2 fun vs bs al4 g4 s4 st4 a4 i4 hl hid hq=>?_;refine kk _ ((i,.own st2.own.length)::bs) al4 g4 s4 st4 (b3.trans a4 H) ⟨⟨D,a9g a4.pre ?_,rfl⟩,i4⟩ (congrArg (· + 1) hl) (congrArg (i :: ·) hid) (by simpa using hq)
  rw[←R2.olen,List.getElem?_append_right (Nat.le_refl _),Nat.sub_self]; rfl
 ·exact hw2.elim
theorem b7k{α β:Type}:∀(bs:List (α×β)),(bs.map (·.1)).zip (bs.map (·.2))=bs
 |[]=>rfl
 |(a,b)::r=>by simp[b7k r]
theorem c6f{x1 k1:Nat}{p p2 pos:Pos}{vs:List Expr}{ns:List Str}{ms:Ms}(so:SIOK sc)(hns:a2d ts=some ns)(hck:b3m sc ms.ids ns=true)(hnd:ms.ids.Nodup)
 (hv:(vs.all (foldedForSure 8) ||!vs.all (constantsAlone 8) ||!(ts.length==2||ts.length==3)||vs.length != ts.length)=true) (hl:vs.length≤1000)
 (h:SMs C Γ sc n hz ms vs):SS C Γ sc n hz (.multi ms) (.Assign [.Tuple ts x1 p] (.Tuple vs k1 p2) pos):=fun A env g s al st Eh Q Q' H hw kk=>by
 refine a7e so H hns hck hnd (fun vs' k' p' e=>by cases e; exact hv) (Tuple_ (h A env g s al st Eh _ [] _ _ H hw fun ws bs al1 g1 s1 st1 a1 i1 hlen hid hq=>?_))
 have hq:Q .next (a5h st1 bs):=by rw[List.nil_append]at hq; exact hq
 have hwl:ws.length=(bs.map (·.2)).length:=i1.len;refine wpAny_newTuple ?_ (by rw[hlen]; exact Nat.le_trans hl (by decide))
 have hp:(s1.heap.push { cls:=.type "tuple",data:=.seq ws.toArray }).get? s1.heap.objs.size=some { cls:=.type "tuple",data:=.seq ws.toArray }:=Heap.get?_push_size _ rfl;have x1:Step [] s1 g1 { s1 with heap:=s1.heap.push { cls:=.type "tuple",data:=.seq ws.toArray } } g1:=Step.ext (tk:=s1.toks) (a0e _)
 have a2:=a1.here.stay { s1 with heap:=s1.heap.push { cls:=.type "tuple",data:=.seq ws.toArray } } x1 (a1.here.rel.sub.trans (a0e _))
 refine⟨al1,g1,st1,bs.map (·.2),a1.trans (SAft.of a1.here a2) H,by rw[←hid]; simp,fun Q2 hQ=>?_,fun s2 a3=>kk .next .next _ _ _ _ a3 trivial ?_⟩
 ·rw[←hwl]
  exact a4l a1.here.ok.handled a2.rel.sub ⟨_,hp,rfl,0,rfl⟩ fun h' sb=>hQ ws h' sb i1
 ·rw[←hid,b7k]; exact hq
end
end
section
section
variable {C:Cfg} {Γ:Ctx} {sc:SI} {n:Nat} {hz:Bool} {k:Ck}
theorem b8s{s:d8f}{body:List Stmt}(I:Nat→d8f→Prop)
 (turn:∀n s,I n s→∃(P:d8f→Prop) (T:d8g→d8f→Prop),d8i (model C.prog C.w) A (pyNext it) (b6y C A (notedBy (model C.prog C.w) A env fun e s'=>R (.error e) s') target it P T) (notedBy (model C.prog C.w) A env fun e s'=>R (.error e) s') s ∧
 (∀s₁,P s₁→R (.ok .next) s₁)∧∀v s₂,T v s₂→d8i (model C.prog C.w) A (assign target env v) (fun _ s₃=>d8i (model C.prog C.w) A (execs body env) (fun f s₄=>match f with
 |.next=>∃m,m<n∧I m s₄
 |.cont=>∃m,m<n∧I m s₄
 |.brk=>R (.ok .next) s₄
 |.ret v=>R (.ok (.ret v)) s₄) (notedBy (model C.prog C.w) A env fun e s'=>R (.error e) s') s₃) (notedBy (model C.prog C.w) A env fun e s'=>R (.error e) s') s₂)
 (n:Nat) (h:I n s):codeAny (model C.prog C.w) A (.forLoop target it body [] env) R s:=by
 refine codeAny_forLoop_any I (fun n s hI=>?_) n h;obtain⟨P,T,h1,h2,h3⟩:=turn n s hI;refine d8p h1 (fun r s₁ hr=>?_) fun _ _ e=>e;cases r with
 |none=>exact wpAny_execs_nil (h2 s₁ hr)
 |some v=>exact d8p hr (fun _ s₂ h₂=>h3 v s₂ h₂) fun _ _ e=>e
inductive FI(C:Cfg)(sc:SI)(hz:Bool)(n:Nat)(A:d8q)(env:Env)(N:Nat)(al ws W:List Addr)(s1:d8f)(g1:Heap)(z:Bool)(IS:Nat→Heap→Heap→Prop)(P:Nat→St→Prop)(m:Nat)(s':d8f):Prop
 |mk:∀al' g' st' i,i+m=N→al <+: al'→(∀b∈al',b∈al∨s1.heap.get? b=none)→(∀b∈ws,b∉al')→st'.hz=z→Here C sc hz n A env g' s' al' st'→IS i g' s'.heap→Step W s1 g1 s' g'→P i st'→FI C sc hz n A env N al ws W s1 g1 z IS P m s'
theorem d4b{t:T}{target iter:Expr}{it:I}{b:Ss}{body:List Stmt}{pos:Pos}(so:SIOK sc)(ht:ckT sc t target=true)(hf:∀env x,foldedSetIterable iter env x=pure x)(hI:SIt C Γ sc n hz target it iter)(hb:SSs C Γ sc n hz b body) :
  SS C Γ sc n hz (.for t it b) (.For target iter body [] pos):=fun A env g s al st Eh Q Q' H hw kk=>by
 refine wpAny_For (hI A env g s al st Eh _ _ H hw fun I ws IS ds st1 s1 g1 a1 hit his hfr hw1=>?_) (fun x=>hf env x);have H1:=H.go a1
 let W:=ws++(wr sc env++(al++C.TA))
 have i1:∀b∈ws,b∈W:=fun b hb=>List.mem_append_left _ hb;have i2:∀b∈wr sc env++(al++C.TA),b∈W:=fun b hb=>List.mem_append_right _ hb;have i3:∀b∈wr sc env,b∈W:=fun b hb=>i2 b (List.mem_append_left _ hb);have wfr:∀b∈ws,b∉C.TA∧b∉a4w env:=fun b hb=>⟨(a0v H.rel (hfr b hb)).2.1,(a0v H.rel (hfr b hb)).2.2⟩;have wwr:∀b∈ws,b∉wr sc env:=fun b hb hm=>(wfr b hb).2 (a2b hm);refine b8s (FI C sc hz n A env ds.length al ws W s1 g1 st.hz IS fun i st'=>b3u (fun d st K=>bindT t d st fun st=>a1n Γ C.toks b st K) (ds.drop i) st' Q) (fun m s2 hI2=>?_) ds.length ⟨al,g1,st1,0,by exact a1x (.e (.p (.k 0) N0) N0),List.prefix_refl _,fun b hb=>.inl hb,fun b hb=>(a0v H.rel (hfr b hb)).1,a1.hz,H1,his,.refl,hw1⟩
 obtain⟨al2,g2,st2,i,hi,p2,n2,w2,z2,H2,is2,x2,hw2⟩:=hI2;have fin:∀(fl:Fl) (f:Flow) al' g' s' st',al <+: al'→(∀b∈al',b∈al∨s1.heap.get? b=none)→st'.hz=st.hz→Here C sc hz n A env g' s' al' st'→Step W s1 g1 s' g'→d4w g' fl f→Q fl st'→Q' f s':=fun fl f al' g' s' st' p' n' z' H' x' hf hq=>by
  refine kk fl f al' g' s' st' ⟨p',fun b hb=>?_,z',H',?_⟩ hf hq
  ·rcases n' b hb with h|h
   ·exact .inl h
   ·exact .inr (a0w a1 h)
  ·refine(a1.step.mono (W':=wr sc env++(al++C.TA)) fun b hb=>List.mem_append_right _ hb).trans x' fun b hb=>?_
   rcases List.mem_append.mp hb with h|h
   ·exact .inr (hfr b h)
   ·exact .inl h
 by_cases hlt:i<ds.length
 ·have e0:ds[i]?=some ds[i]:=List.getElem?_eq_getElem hlt
  rw[List.drop_eq_getElem_cons hlt]at hw2;have hw2:bindT t ds[i] st2 (fun st=>a1n Γ C.toks b st fun f st=>match f with
   |.next=>b3u (fun d st K=>bindT t d st fun st=>a1n Γ C.toks b st K) (ds.drop (i+1)) st Q
   |.ret r=>Q (.ret r) st):=hw2
  refine⟨fun _=>False,fun v s3=>∃g3,Step ws s2 g2 s3 g3∧Sub g3 s3.heap∧RD g3 v ds[i]∧IS (i+1) g3 s3.heap,?_,fun _ f=>f.elim,fun v s3 h3=>?_⟩
  ·refine d8p (hit.item i ds[i] s2 g2 (fun v s3=>∃g3,Step ws s2 g2 s3 g3∧Sub g3 s3.heap∧RD g3 v ds[i]∧IS (i+1) g3 s3.heap) _ e0 H2.rel.sub is2 fun v s3 g3 x3 sb3 r3 is3=>⟨g3,x3,sb3,r3,is3⟩) (fun r s3 h3=>?_) fun _ _ e=>e
   cases r with
   |none=>exact h3.elim
   |some v=>exact h3
  ·obtain⟨g3,x3,sb3,r3,is3⟩:=h3
   have H3:Here C sc hz n A env g3 s3 al2 st2:=⟨H2.ok.mono x3.sub,H2.hz,H2.eok,H2.rel.move x3 sb3 fun b hb=>⟨w2 b hb,(wfr b hb).1,(wfr b hb).2⟩,H2.fr.step x3 fun b hb=>.inr (.inr (.inr fun o ho=>b1i hit is2 hb ho))⟩;refine b0j so H3 ht r3 hw2 fun s4 st4 z4 x4 H4 hw4=>?_;have is4:=a3p hit is3 x4 wwr;refine hb A env g3 s4 al2 st4 _ _ _ H4 hw4 fun fl f al5 g5 s5 st5 a5 hf5 hq5=>?_;have x45:Step W s1 g1 s5 g5:=by
    refine((x2.tr (x3.mono i1)).tr (x4.mono i3)).trans a5.step fun b hb=>?_
    rcases List.mem_append.mp hb with h|h
    ·exact .inl (i3 b h)
    ·rcases List.mem_append.mp h with h|h
     ·rcases n2 b h with h|h
      ·exact .inl (i2 b (List.mem_append_right _ (List.mem_append_left _ h)))
      ·exact .inr h
     ·exact .inl (i2 b (List.mem_append_right _ (List.mem_append_right _ h)))
   have p5:=p2.trans a5.pre;have n5:∀b∈al5,b∈al∨s1.heap.get? b=none:=fun b hb=>by
    rcases a5.new b hb with h|h
    ·exact n2 b h
    ·right
     cases e:s1.heap.get? b with
     |none=>rfl
     |some o=>
      have halive:∃o',s4.heap.get? b=some o':=by
       by_cases hm:b∈W
       ·rcases List.mem_append.mp hm with hm|hm
        ·obtain⟨_,o',ho',_⟩:=hit.here _ _ _ is4 b hm; exact⟨o',ho'⟩
        ·rcases List.mem_append.mp hm with hm|hm
         ·exact H4.rel.plt b (a2b hm)
         ·rcases List.mem_append.mp hm with hm|hm
          ·exact H4.rel.alh b (p2.subset hm)
          ·obtain⟨_,o',ho',_⟩:=H4.rel.tabs b hm; exact⟨o',ho'⟩
       ·exact(((x2.tr (x3.mono i1)).tr (x4.mono i3)).keep b o hm e).alive
      obtain⟨o',ho'⟩:=halive;rw[ho']at h; cases h
   have w5:∀b∈ws,b∉al5:=fun b hb hm=>by
    rcases a5.new b hm with h|h
    ·exact w2 b hb h
    ·obtain⟨_,o',ho',_⟩:=hit.here _ _ _ is4 b hb; rw[ho']at h; cases h
   have z5:st5.hz=st.hz:=a5.sthz.trans (z4.trans z2);cases fl with
   |next=>
    cases f with
    |next=>
     refine⟨m-1,by exact a2q (.t (.s N0 O1) N0) (.e (.p N1 N0) N2) (.t N1 N2) hi hlt,.mk al5 g5 st5 (i+1) (by exact a2q (.e (.p (.p N0 O1) (.s N1 O1)) N2) (.e (.p N0 N1) N2) (.t N0 N2) hi hlt) p5 n5 w5 z5 a5.here ?_ x45 hq5⟩
     refine a3p hit is4 a5.step fun b hb hm=>?_
     rcases List.mem_append.mp hm with h|h
     ·exact wwr b hb h
     ·exact(List.mem_append.mp h).elim (w2 b hb) (wfr b hb).1
    |_=>exact hf5.elim
   |ret d=>
    cases f with
    |ret v=>exact fin (.ret d) (.ret v) al5 g5 s5 st5 p5 n5 z5 a5.here x45 hf5 hq5
    |_=>exact hf5.elim
 ·have ei:i=ds.length:=by exact a2q (.e N0 N1) (.e (.p N0 N2) N1) (.n (.t N0 N1)) hi hlt
  subst ei;rw[List.drop_length]at hw2;refine⟨fun s3=>Step ws s2 g2 s3 g2∧Sub g2 s3.heap,fun _ _=>False,?_,fun s3 h3=>?_,fun _ _ f=>f.elim⟩
  ·refine d8p (hit.done s2 g2 (fun s3=>Step ws s2 g2 s3 g2∧Sub g2 s3.heap) _ H2.rel.sub H2.ok.handled is2 fun s3 x3 sb3=>⟨x3,sb3⟩) (fun r s3 h3=>?_) fun _ _ e=>e
   cases r with
   |none=>exact h3
   |some v=>exact h3.elim
  ·obtain⟨x3,sb3⟩:=h3
   have H3:Here C sc hz n A env g2 s3 al2 st2:=⟨H2.ok,H2.hz,H2.eok,H2.rel.move x3 sb3 fun b hb=>⟨w2 b hb,(wfr b hb).1,(wfr b hb).2⟩,H2.fr.step x3 fun b hb=>.inr (.inr (.inr fun o ho=>b1i hit is2 hb ho))⟩;exact fin .next .next al2 g2 s3 st2 p2 n2 z2 H3 (x2.tr (x3.mono i1)) trivial hw2
theorem c3u{c:E}{b:Ss}{body:List Stmt}{pos:Pos}(hc:ST C Γ sc n hz c y)(hb:SSs C Γ sc n hz b body):SS C Γ sc n hz (.while c b) (.While y body [] pos):=fun A env g s al st Eh Q Q' H hw kk=>by
 obtain⟨m,hw⟩:=hw;refine wpAny_While (codeAny_whileLoop (fun m s'=>∃al' g' st',SAft C sc hz n A env al g s st al' g' s' st'∧a4r (fun st K=>wpT Γ c st K) (fun st K=>a1n Γ C.toks b st K) m st' Q) (fun m s1 hI=>?_) m ⟨al,g,st,SAft.of H (Aft.refl H.rel),hw⟩);obtain⟨al1,g1,st1,a1,hw1⟩:=hI;cases m with
 |zero=>exact hw1.elim
 |succ m=>
  refine hc A env g1 s1 al1 st1 _ _ _ a1.here hw1 fun t st2 s2 g2 a2 hw2=>?_;have b2:=a1.trans (SAft.of a1.here a2) H;cases t with
  |true=>
   refine hb A env g2 s2 al1 st2 _ _ _ (a1.here.go a2) hw2 fun fl f al3 g3 s3 st3 a3 hf3 hq3=>?_;have b3:=b2.trans a3 H;cases fl with
   |next=>
    cases f with
    |next=>exact⟨m,Nat.lt_succ_self m,al3,g3,st3,b3,hq3⟩
    |_=>exact hf3.elim
   |ret d=>
    cases f with
    |ret v=>exact kk (.ret d) (.ret v) al3 g3 s3 st3 b3 hf3 hq3
    |_=>exact hf3.elim
  |false=>exact wpAny_execs_nil (kk .next .next al1 g2 s2 st2 b2 trivial hw2)
end
end
section
set_option backward.match.sparseCases false
noncomputable def b1t:E→Bool|.comp _=>true|_=>false
noncomputable def a7m:E→Bool|.comp _=>true|.list _=>true|.me .split _ _=>true|.bin .mul (.list _) _=>true|_=>false
noncomputable def d0s(ts:List Expr):Expr→Bool
 |.Tuple vs _ _=>vs.all (foldedForSure 8) ||!vs.all (constantsAlone 8) ||!(ts.length==2||ts.length==3)||vs.length != ts.length
 |_=>true
noncomputable def sV:Stmt→Expr|.Assign _ v _=>v|.AugAssign _ _ v _=>v|.Return (some v) _=>v|.Expr v _=>v|.If t _ _ _=>t|.While t _ _ _=>t|.For _ it _ _ _=>it|.Assert t _ _=>t|_=>default
noncomputable def sT:Stmt→Expr|.Assign l _ _=>xh l|.AugAssign t _ _ _=>t|.For t _ _ _ _=>t|.Delete l _=>xh l|_=>default
noncomputable def sP:Stmt→Pos|.Assign _ _ p=>p|.AugAssign _ _ _ p=>p|.Return _ p=>p|.Expr _ p=>p|.If _ _ _ p=>p|.While _ _ _ p=>p|.For _ _ _ _ p=>p|.Assert _ _ p=>p|.Delete _ p=>p|.Try _ _ _ _ p=>p|.FunctionDef _ _ _ _ _ _ _ _ _ p=>p|.Raise _ _ p=>p|_=>default
noncomputable def sB:Stmt→List Stmt|.If _ l _ _=>l|.While _ l _ _=>l|.For _ _ l _ _=>l|.Try l _ _ _ _=>l|.FunctionDef _ _ l _ _ _ _ _ _ _=>l|_=>[]
noncomputable def sE:Stmt→List Stmt|.If _ _ l _=>l|_=>[]
noncomputable def sM:Stmt→Option Expr|.Assert _ m _=>m|_=>none
noncomputable def hE(l:List ExceptHandler):Expr:=match l with|.ExceptHandler (some e) _ _ _::_=>e|_=>default
noncomputable def hB(l:List ExceptHandler):List Stmt:=match l with|.ExceptHandler _ _ b _::_=>b|_=>[]
noncomputable def hP(l:List ExceptHandler):Pos:=match l with|.ExceptHandler _ _ _ p::_=>p|_=>default
noncomputable def sH:Stmt→List ExceptHandler|.Try _ h _ _ _=>h|_=>[]
noncomputable def sh(l:List Stmt):Stmt:=match l with|x::_=>x|[]=>default
noncomputable def c6z (x:Stmt):Stmt:=.Assign [rbN (sT x)] (.DictComp (b0o "number" (x1 (sV x))) (b0o "sign" (x2 (sV x))) [⟨.Tuple [b0o "sign" (xa0 (cT (xG (sV x)))),b0o "number" (xa1 (cT (xG (sV x))))] (xK (cT (xG (sV x)))) (xP (cT (xG (sV x)))),
 .Call (.Attribute (b0o "EXACT_TOKEN_TYPES" (x1 (x1 (cI (xG (sV x)))))) "items" (xP (x1 (cI (xG (sV x)))))) [] [] (xP (cI (xG (sV x)))),[],0⟩] (xS (sV x)) (xP (sV x))) (sP x)
noncomputable def b9y (sc:SI) (i:Nat) (y:Str) (scope:Scope):Bool:=a5w sc y i&&(a5u sc "EXACT_TOKEN_TYPES" && (scope.kind==ScopeKind.function&&((scope.names.all fun p=>p.2 != NameKind.free&&p.2 != NameKind.cell)&&(scope.names.lookup ("number" : Str)==some NameKind.local&&(scope.names.lookup ("sign" : Str)==some NameKind.local
  && (decide ((scope.names.map (·.1)).Nodup)&&sc.names.lookup y==some NameKind.cell))))))
noncomputable def c1p:List Nat→List Expr→List Expr
 |[],l=>[.Call (b0o "_parse_varint" (x1 (xh l))) [rbN (xa0 (xh l))] [] (xP (xh l))]
 |_::p,l=>rbN (xh l)::c1p p l.tail
noncomputable def c0v(sc:SI)(i:Nat):List Nat→List Expr→Bool
 |[],l=>nmv sc (xN (xa0 (xh l))) i
 |j::p,l=>nmv sc (xN (xh l)) j&&c0v sc i p l.tail
mutual
noncomputable def rbS:S→Stmt→Stmt
 |.assign _ e,x=>.Assign [rbN (sT x)] (rbE e (sV x)) (sP x)
 |.assignOwn _ e,x=>.Assign [rbN (sT x)] (rbE e (sV x)) (sP x)
 |.assignTup _ e,x=>.Assign [.Tuple (xs (sT x)) (xK (sT x)) (xP (sT x))] (rbE e (sV x)) (sP x)
 |.multi ms,x=>.Assign [.Tuple (xs (sT x)) (xK (sT x)) (xP (sT x))] (.Tuple (c7t ms (xs (sV x))) (xK (sV x)) (xP (sV x))) (sP x)
 |.setIdx _ ix e,x=>.Assign [.Subscript (rbN (x1 (sT x))) (rbE ix (x2 (sT x))) (xP (sT x))] (rbE e (sV x)) (sP x)
 |.augIdx _ ix o e,x=>.AugAssign (.Subscript (rbN (x1 (sT x))) (rbE ix (x2 (sT x))) (xP (sT x))) (c4f o) (rbE e (sV x)) (sP x)
 |.aug _ o e,x=>.AugAssign (rbN (sT x)) (c4f o) (rbE e (sV x)) (sP x)
 |.ifs c t f,x=>.If (rbE c (sV x)) (a5i t (sB x)) (a5i f (sE x)) (sP x)
 |.ret e,x=>.Return (some (rbE e (sV x))) (sP x)
 |.append _ e,x=>.Expr (.Call (.Attribute (rbN (x1 (x1 (sV x)))) "append" (xP (x1 (sV x)))) [rbE e (xa0 (sV x))] [] (xP (sV x))) (sP x)
 |.reverse _,x=>.Expr (.Call (.Attribute (rbN (x1 (x1 (sV x)))) "reverse" (xP (x1 (sV x)))) [] [] (xP (sV x))) (sP x)
 |.delIdx _ j,x=>.Delete [.Subscript (rbN (x1 (sT x))) (d2f j (x2 (sT x))) (xP (sT x))] (sP x)
 |.for _ it b,x=>.For (sT x) (rbI it (sV x)) (a5i b (sB x)) [] (sP x)
 |.while c b,x=>.While (rbE c (sV x)) (a5i b (sB x)) [] (sP x)
 |.assert c,x=>.Assert (rbE c (sV x)) (sM x) (sP x)
 |.tryStop pre _ h,x=>.Try [.Return (some (.List (c1p pre (xs (sV (sh (sB x))))) (xP (sV (sh (sB x)))))) (sP (sh (sB x)))] [.ExceptHandler (some (b0o "StopIteration" (hE (sH x)))) none (a5i h (hB (sH x))) (hP (sH x))] [] [] (sP x)
 |.toks _,x=>c6z x
 |.expr e,x=>.Expr (rbE e (sV x)) (sP x)
 |.retNone,x=>.Return none (sP x)
 |.stuck,x=>x
noncomputable def a5i:Ss→List Stmt→List Stmt
 |.nil,_=>[]
 |.cons s ss,l=>rbS s (sh l)::a5i ss l.tail
 |.info _ _ _ _ as ks kvs ss,l=>.Assign [.Tuple [rbN (xa0 (sT (sh l))),rbN (xa1 (sT (sh l)))] (xK (sT (sh l))) (xP (sT (sh l)))] (.Call (rbN (x1 (sV (sh l)))) (a7p as (xs (sV (sh l)))) (d4u kvs ks (xW (sV (sh l)))) (xP (sV (sh l)))) (sP (sh l))
  :: .Assign [rbN (sT (sh l.tail))] (.IfExp (.Compare (.Name (xN (xa1 (sT (sh l)))) (xP (x1 (x1 (sV (sh l.tail)))))) [.Is] [.Name (xN (xa0 (sT (sh l)))) (xP (xa0 (x1 (sV (sh l.tail)))))] (xP (x1 (sV (sh l.tail)))))
   (.Call (b0o "sum" (x1 (x2 (sV (sh l.tail))))) [.Name (xN (xa0 (sT (sh l)))) (xP (xa0 (x2 (sV (sh l.tail)))))] [] (xP (x2 (sV (sh l.tail))))) (.Constant (.int 0) (xK (x3 (sV (sh l.tail)))) (xP (x3 (sV (sh l.tail))))) (xP (sV (sh l.tail)))) (sP (sh l.tail))::a5i ss l.tail.tail
noncomputable def c7t:Ms→List Expr→List Expr
 |.nil,_=>[]
 |.plain _ e r,l=>rbE e (xh l)::c7t r l.tail
 |.own _ e r,l=>rbE e (xh l)::c7t r l.tail
 |.iter _ e r,l=>.Call (b0o "iter" (x1 (xh l))) [rbE e (xa0 (xh l))] [] (xP (xh l))::c7t r l.tail
end
noncomputable def d4o(sc:SI)(is:List Nat)(ts:List Expr):Bool:=match a2d ts with|some ns=>b3m sc is ns|none=>false
noncomputable def d4x (x:Str):Bool:=!(x==("__debug__" : Str)) && !(x==("__classdict__" : Str))
noncomputable def d7a:Ss→Bool|.nil=>false|_=>true
mutual
noncomputable def ckS(k:Ck)(hz:Bool)(sc:SI):S→Stmt→Bool
 |.assign i e,x=>a5w sc (xN (sT x)) i&&ckE k hz sc e (sV x)
 |.assignOwn i e,x=>a5w sc (xN (sT x)) i&&(ckE k hz sc e (sV x)&&a7m e)
 |.assignTup is e,x=>d4o sc is (xs (sT x))&&(decide is.Nodup&&(ckE k hz sc e (sV x)&&d0s (xs (sT x)) (rbE e (sV x))))
 |.multi ms,x=>d4o sc ms.ids (xs (sT x))&&(decide ms.ids.Nodup&&(d0s (xs (sT x)) (.Tuple (c7t ms (xs (sV x))) (xK (sV x)) (xP (sV x)))&&(decide ((c7t ms (xs (sV x))).length≤1000)&&d2w k hz sc ms (xs (sV x)))))
 |.setIdx i ix e,x=>nmv sc (xN (x1 (sT x))) i&&(ckE k hz sc e (sV x)&&ckE k hz sc ix (x2 (sT x)))
 |.augIdx i ix _ e,x=>nmv sc (xN (x1 (sT x))) i&&(ckE k hz sc e (sV x)&&ckE k hz sc ix (x2 (sT x)))
 |.aug i _ e,x=>a5w sc (xN (sT x)) i&&(d4x (xN (sT x))&&ckE k hz sc e (sV x))
 |.ifs c t f,x=>b9a k hz sc c (sV x)&&(b7w k hz sc t (sB x)&&b7w k hz sc f (sE x))
 |.ret e,x=>ckE k hz sc e (sV x)
 |.append i e,x=>nmv sc (xN (x1 (x1 (sV x)))) i&&((xP (x1 (sV x))).endLine==(xP (sV x)).line&&ckE k hz sc e (xa0 (sV x)))
 |.reverse i,x=>nmv sc (xN (x1 (x1 (sV x)))) i&&(xP (x1 (sV x))).endLine==(xP (sV x)).line
 |.delIdx i _,x=>nmv sc (xN (x1 (sT x))) i
 |.for t it b,x=>ckT sc t (sT x)&&(ckI k hz sc (sT x) it (sV x)&&b7w k hz sc b (sB x))
 |.while c b,x=>b9a k hz sc c (sV x)&&b7w k hz sc b (sB x)
 |.assert c,x=>b9a k hz sc c (sV x)
 |.tryStop pre i h,x=>hz&&(a5u sc "StopIteration" && (a5u sc "_parse_varint" && (c0v sc i pre (xs (sV (sh (sB x))))&&(d7a h&&b7w k false sc h (hB (sH x))))))
 |.toks i,x=>b9y sc i (xN (sT x)) (xS (sV x))&&(xP (x1 (cI (xG (sV x))))).endLine==(xP (cI (xG (sV x)))).line
 |.expr e,x=>!b1t e&&ckE k hz sc e (sV x)
 |.retNone,_=>true
 |.stuck,_=>true
noncomputable def b7w(k:Ck)(hz:Bool)(sc:SI):Ss→List Stmt→Bool
 |.nil,_=>true
 |.cons s ss,l=>ckS k hz sc s (sh l)&&b7w k hz sc ss l.tail
 |.info a b c f as ks kvs ss,l=>hz&&(a5w sc (xN (xa0 (sT (sh l)))) a&&(a5w sc (xN (xa1 (sT (sh l)))) b&&(a5w sc (xN (sT (sh l.tail))) c&&(d4x (xN (xa0 (sT (sh l))))&&(d4x (xN (xa1 (sT (sh l))))&&(decide ([a,b,c].Nodup)&&(a5u sc "sum" && (a5u sc (xN (x1 (sV (sh l))))&&(k.fname f==some (xN (x1 (sV (sh l))))
  && ((d4u kvs ks (xW (sV (sh l)))).map (·.arg)==ks.map some&&(c5a as&&(b8r k hz sc as (xs (sV (sh l)))&&(d6t k hz sc kvs ks (xW (sV (sh l)))&&b7w k hz sc ss l.tail.tail)))))))))))))
noncomputable def d2w(k:Ck)(hz:Bool)(sc:SI):Ms→List Expr→Bool
 |.nil,_=>true
 |.plain _ e r,l=>ckE k hz sc e (xh l)&&d2w k hz sc r l.tail
 |.own _ e r,l=>ckE k hz sc e (xh l)&&(a7m e&&d2w k hz sc r l.tail)
 |.iter _ e r,l=>a5u sc "iter" && (ckE k hz sc e (xa0 (xh l))&&d2w k hz sc r l.tail)
end
def c8f(k:Ck)(hz:Bool)(sc:SI)(S:Ss)(l:List Stmt):Prop:=∃l0,b7w k hz sc S l0=true∧a5i S l0=l
end
section
section
variable {C:Cfg} {Γ:Ctx} {n:Nat} {hz:Bool} {k:Ck}
theorem c9w{v:Expr}(h:d0s ts v=true):∀vs k p,v=.Tuple vs k p→(vs.all (foldedForSure 8) ||!vs.all (constantsAlone 8) ||!(ts.length==2||ts.length==3)||vs.length != ts.length)=true:=fun vs k p e=>by
 subst e; exact h
theorem c3e{is:List Nat}{sc:SI}(h:d4o sc is ts=true):∃ns,a2d ts=some ns∧b3m sc is ns=true:=by
 unfold d4o at h;cases e:a2d ts with
 |none=>rw[e]at h; cases h
 |some ns=>rw[e]at h; exact⟨ns,rfl,h⟩
theorem c1n (h:d4x x=true):(x==("__debug__" : Str))=false∧(x==("__classdict__" : Str))=false:=⟨b2o (a0b h),b2o (a0a h)⟩
theorem a8t{e:E}(h:b1t e=false)(x:Expr):b4s (rbE e x)=true:=by cases e <;> first|rfl|cases h
theorem b6e(e:E)(x:Expr):b2s (rbE e x)=true:=by cases e <;> rfl
structure Extra(C:Cfg)(Γ:Ctx)(n:Nat)(k:Ck):Prop where
 toks:∀(hz:Bool) (sc:SI) (i:Nat) (x:Stmt),SIOK sc→b9y sc i (xN (sT x)) (xS (sV x))=true→((xP (x1 (cI (xG (sV x))))).endLine==(xP (cI (xG (sV x)))).line)=true→SS C Γ sc n hz (.toks i) (c6z x)
 tries:∀(sc:SI) (pre:List Nat) (i:Nat) (l:List Expr) (hb:List Stmt) (h:Ss) (ep lp rp hp pos:Pos),SIOK sc→a5u sc "StopIteration" = true→a5u sc "_parse_varint" = true→c0v sc i pre l=true→(∃a r,hb=a::r)→SSs C Γ sc n false h hb→
  SS C Γ sc n true (.tryStop pre i h) (.Try [.Return (some (.List (c1p pre l) lp)) rp] [.ExceptHandler (some (.Name "StopIteration" ep)) none hb hp] [] [] pos)
variable (Gd:Good C k) (Γok:a4c C Γ n) (X:Extra C Γ n k)
include Gd Γok
omit Gd Γok in
theorem c2v{P:E→Prop}(h1:∀g,P (.comp g))(h2:∀es,P (.list es))(h3:∀a es,P (.me .split a es))(h4:∀es b,P (.bin .mul (.list es) b))(e:E)(h:a7m e=true):P e:=by
 cases e with
 |comp g=>exact h1 g
 |list es=>exact h2 es
 |me m a es=>cases m <;> first|exact h3 a es|exact absurd h Bool.false_ne_true
 |bin o a b=>cases o <;> first|exact absurd h Bool.false_ne_true|(cases a <;> first|exact h4 _ _|exact absurd h Bool.false_ne_true)
 |_=>exact absurd h Bool.false_ne_true
theorem c7f{sc:SI}(so:SIOK sc)(e:E)(x:Expr)(h:ckE k hz sc e x=true)(hf:a7m e=true):SF C Γ sc n hz e (rbE e x):=
 c2v (P:=fun e=>ckE k hz sc e x=true→SF C Γ sc n hz e (rbE e x)) (fun g h=>b9j (c1l Gd Γok g x so h))
  (fun es h=>d0m (a1p Gd Γok es sc _ so (a0a h)).1 (of_decide_eq_true (a0b h)))
  (fun a es h=>c3i (xs:=a7p es (xs x)) rfl (a0b h) (a0b (a0a h)) (b4g es _) (of_decide_eq_true (a0b (a0a (a0a h)))) (a0m Gd Γok a sc _ so (a0b (a0a (a0a (a0a h))))) (a1p Gd Γok es sc _ so (a0a (a0a (a0a (a0a h))))).2.2)
  (fun es b h=>d3s (a1p Gd Γok es sc _ so (a0a (a0b h))).1 (of_decide_eq_true (a0b (a0b h))) (a0m Gd Γok b sc _ so (a0a h))) e hf h
omit Gd Γok in
theorem a2r {s:d8f} {sc:SI} {pos:Pos} {Q:d8g→d8f→Prop} (e:EnvOK sc env) (l:Look env s.heap x v) (hd:(x==("__debug__" : Str))=false) (hc:(x==("__classdict__" : Str))=false) (h:Q v s) :
  d8i (model C.prog C.w) A (eval (.Name x pos) env) Q Eh s:=by
 refine wpAny_Name ?_ hd
 rcases l with⟨hk,m,hn,hm⟩|⟨hk,c,hcl,hcell⟩
 ·exact d8z e.kind hk hn hm h
 ·rcases hk with hk|hk
  ·exact wpAny_loadName_cell e.kind hk hcl hcell h
  ·exact wpAny_loadName_free e.kind hk hcl hcell h hc
omit Gd Γok in
theorem a7s{sc:SI}{g g':Heap}{s s':d8f}{al:List Addr}{st:St}(R:Rel C sc env g s.heap al st)(l:Look env s.heap x v)(x1:Step W s g s' g')(hW:∀b∈W,b∉a4w env):Look env s'.heap x v:=
 l.mono (fun o e=>x1.keep _ o (fun hm=>hW _ hm (.head _)) e) fun c o hc e=>x1.keep c o (fun hm=>hW _ hm (List.mem_cons_of_mem _ (List.mem_map.mpr ⟨_,d8k hc,rfl⟩))) e
omit Gd Γok in
theorem b0y{s:d8f}{al:List Addr}{st:St}{sc:SI}{x y:Str}{i j:Nat}{u:V}(so:SIOK sc)(H:Here C sc hz n A env g s al st)(hx:a5w sc x i=true)(hy:a5w sc y j=true)(hxy:x≠y)
 (hv:InV C g al v u) {tx ty:d8g→Sem Unit} (htx:∀v Q s,d8i (model C.prog C.w) A (storeName env x v) Q Eh s→d8i (model C.prog C.w) A (tx v) Q Eh s) (hty:∀v Q s,d8i (model C.prog C.w) A (storeName env y v) Q Eh s→d8i (model C.prog C.w) A (ty v) Q Eh s)
 (h:∀s',Step (wr sc env) s g s' g→Here C sc hz n A env g s' al ((st.set i u).set j u)→Look env s'.heap x v→Look env s'.heap y v→Q () s'):d8i (model C.prog C.w) A (assignInOrder [tx,ty] [v,v]) Q Eh s:=by
 refine assignInOrder_cons (htx _ _ _ (a3i so H.eok H.rel (a3k hx) ((a4q hx).imp id fun h=>h.1) hv fun s1 b1 hb1 x1 R1 l1 _=>?_));have H1:Here C sc hz n A env g s1 al (st.set i u):=⟨H.ok,H.hz,H.eok,R1,H.fr.step x1 fun c hc=>.inl (by simp at hc; subst hc; exact a2b (a5q hx hb1))⟩
 refine assignInOrder_cons (hty _ _ _ (a3i so H1.eok R1 (a3k hy) ((a4q hy).imp id fun h=>h.1) hv fun s2 b2 hb2 x2 R2 l2 p2=>assignInOrder_nil ?_));exact h s2 ((x1.mono fun c hc=>by simp at hc; subst hc; exact a5q hx hb1).tr (x2.mono fun c hc=>by simp at hc; subst hc; exact a5q hy hb2)) ⟨H.ok,H.hz,H.eok,R2,H1.fr.step x2 fun c hc=>.inl (by simp at hc; subst hc; exact a2b (a5q hy hb2))⟩ (p2 x hxy v l1) l2
theorem d0p{sc:SI}{a b c f:Nat}{as kvs:Es}{a1 b1 w y:Str}{p1 p2 tp pa pb pc pd pe pf pg ph pi pj pk pl pm:Pos}{x1 x2:Nat}{z:Expr}{zs:List Expr}{kws:List Keyword}{ss:Ss}{rest:List Stmt}(so:SIOK sc)
 (ha:a5w sc a1 a=true) (hb:a5w sc b1 b=true) (hc:a5w sc w c=true) (hz1:hz=true) (na:(a1==("__debug__" : Str))=false) (na2:(a1==("__classdict__" : Str))=false) (nb:(b1==("__debug__" : Str))=false) (nb2:(b1==("__classdict__" : Str))=false)
 (hnd:[a,b,c].Nodup) (hsm:a5u sc "sum" = true) (hy:a5u sc y=true) (hf:k.fname f=some y) (hks:kws.map (·.arg)=ks.map some) (hz2:a0k z=true)
 (hs:SAs C Γ sc n hz as (z::zs)) (hr:SKs C Γ sc n hz ks kvs kws) (hrest:SSs C Γ sc n hz ss rest) :
  SSs C Γ sc n hz (.info a b c f as ks kvs ss) (.Assign [.Tuple [.Name a1 p1,.Name b1 p2] x1 tp] (.Call (.Name y pa) (z::zs) kws pb) pc :: .Assign [.Name w pd] (.IfExp (.Compare (.Name b1 pe) [.Is] [.Name a1 pf] pg) (.Call (.Name "sum" ph) [.Name a1 pi] [] pj) (.Constant (.int 0) x2 pk) pl) pm::rest):=fun A env g s al st Eh Q Q' H hw kk=>by
 obtain⟨fa,o,fd,ea,hfd,ho⟩:=Gd.fo f y hf;have hab:a1≠b1:=fun e=>by
  subst e;have h1:=a3k ha;rw[a3k hb]at h1;have e:=Option.some.inj h1;subst e;simp at hnd
 refine d8m ?_;rw[arm_exec_Assign];refine d8d (d8r (d8d (d8v (a:=false) (b7p (x:=.Call (.Name y pa) (z::zs) kws pb) (ts:=[.Name a1 p1,.Name b1 p2]) (x1:=x1) (p:=tp) (l:=pc.line) (env:=env)) ?_)));rw[if_neg (by simp)]
 refine d8d (wpAny_Call_Name_kw (a1f H (a0u hy).1 (a0u hy).2 (ea▸Gd.fn f y hf) (b5p hfd ⟨z,zs,rfl,hz2⟩ hks ?_)));refine hs A env g s al st _ pb [] _ _ H hw fun vs us st1 s1 g1 a1' i1 hw1=>hr A env g1 s1 al st1 _ pb [] _ _ (H.go a1') hw1 fun ws xs st2 s2 g2 a2 i2 hl hw2=>⟨a2.rel.sub _ _ (ho _ a2.rel.amb),?_⟩;have cc:=Γok f A g2 s2 al st2.own st2.hz vs ks ws (([]++us)++([]++xs)) Eh _ (fun v s'=>d8i (model C.prog C.w) A (do assignStores env v (←swappedStores [.Tuple [.Name a1 p1,.Name b1 p2] x1 tp] (.Call (.Name y pa) (z::zs) kws pb) env) ((assignEach [.Tuple [.Name a1 p1,.Name b1 p2] x1 tp] env).map (·.2)))
   (fun f s'=>match f with|.next=>d8i (model C.prog C.w) A (execs (.Assign [.Name w pd] (.IfExp (.Compare (.Name b1 pe) [.Is] [.Name a1 pf] pg) (.Call (.Name "sum" ph) [.Name a1 pi] [] pj) (.Constant (.int 0) x2 pk) pl) pm::rest) env) Q' Eh s'|f=>Q' f s') Eh s') ((H.go a1').go a2).ok a2.rel.b (((H.go a1').go a2).fr.b a2.rel) hl.symm (by simpa using (i1.mono a2.step.sub).append i2) hw2 fun v u ow' s3 g3 B x3 iv hq=>?_
 ·rw[ea]at cc; exact cc
 have a3:=a1'.trans (a2.trans (a8f a2.rel B x3));have H3:=H.go a3
 split at hq
 ·rename_i l
  obtain⟨t,uv,rfl,ht,rd⟩:=iv
  split at hq
  ·rename_i nn hnn
   obtain⟨hall,hq⟩:=hq;have tail:∀s4,SAft C sc hz n A env al g s st al g3 s4 (((({ st2 with own:=ow' }:St).set a (.dat (.list l))).set b (.dat (.list l))))→Look env s4.heap a1 uv→Look env s4.heap b1 uv→
     d8i (model C.prog C.w) A (execs (.Assign [.Name w pd] (.IfExp (.Compare (.Name b1 pe) [.Is] [.Name a1 pf] pg) (.Call (.Name "sum" ph) [.Name a1 pi] [] pj) (.Constant (.int 0) x2 pk) pl) pm::rest) env) Q' Eh s4:=fun s4 a4 l1 l2=>by
    obtain⟨ua,uvs,rfl,hul,hur⟩:=rd.listE;refine d8m (wpAny_Assign_Name (wpAny_IfExp (wpAny_isTrue_Compare1 (a2r a4.here.eok l2 nb nb2 (a2r a4.here.eok l1 na na2 (wpAny_is_ref_self (a3y (g:=g3) (RD.bool true) fun tk=>?_)))))) rfl);have a5:=a4.here.stay { s4 with toks:=tk } Step.toks a4.here.rel.sub
    have H5:=a4.here.go a5;have hga:((({ st2 with own:=ow' }:St).set a (.dat (.list l))).set b (.dat (.list l))).get a=.dat (.list l)∨((({ st2 with own:=ow' }:St).set a (.dat (.list l))).set b (.dat (.list l))).get a=.undef:=by
     rw[c1b (by intro e; subst e; simp at hnd)]
     exact a7h
    refine d8u (a2g Gd H5 (a0u hsm).1 (by decide) (b3j .sum) (b0q .sum) ?_)
    refine a2u rfl (by simp) (spliced_more (a2r a4.here.eok (show Look env s4.heap a1 (.ref ua) from l1) na na2 (spliced_nil ?_)) rfl)
    obtain⟨d,hd,ht2⟩:=b7q (C:=C) (A:=A) (E:=Eh) (b:=.sum) (vs:=[.ref ua]) (ds:=[.list l]) (Q:=fun d=>d=.int nn) (g:=g3) (s:={ s4 with toks:=tk }) (H5.hh hz1) H5.rel.sub (.cons (.of H5.rel.sub rd) .nil) (by
     show match c3g l with|some i=>_|none=>False
     rw[hnn];exact⟨⟨hall.1,hall.2⟩,rfl⟩)
    subst hd;refine H5.to ht2 fun v s6 g6 a6 r6=>?_;have b6:=a4.trans (SAft.of a4.here (a5.trans a6)) H;refine a2w so H b6 hc (u:=.dat (.int nn)) r6 fun s7 a7=>?_;exact hrest A env g6 s7 al _ _ _ _ a7.here hq fun fl f al8 g8 s8 st8 a8 h8 hq8=>kk fl f al8 g8 s8 st8 (a7.trans a8 H) h8 hq8
   have mid:∀h',Sub s3.heap h'→Here C sc hz n A env g3 { s3 with heap:=h' } al { st2 with own:=ow' } ∧ SAft C sc hz n A env al g s st al g3 { s3 with heap:=h' } { st2 with own:=ow' }:=fun h' sb=>by
    have x4:Step [] s3 g3 { s3 with heap:=h' } g3:=Step.ext (tk:=s3.toks) sb
    have a4:=H3.stay { s3 with heap:=h' } x4 (a3.rel.sub.trans sb)
    exact⟨H3.go a4,SAft.of H (a3.trans a4)⟩
   have hns:a2d [Expr.Name a1 p1,.Name b1 p2]=some [a1,b1]:=rfl;have rdu:InV C g3 al uv (.dat (.list l)):=rd;have htup:s3.heap.IsTuple t [uv,uv].toArray:=a0q a3.rel.sub ht;have hba:b≠a:=by intro e; subst e; simp at hnd
   rcases a6c (value:=.Call (.Name y pa) (z::zs) kws pb) (env:=env) (x1:=x1) (p:=tp) hns (fun vs k p e=>by cases e)with hs'|hs'
   ·refine d8d (d8v hs' ?_)
    show d8i _ _ (assignAll (.ref t) [assign (.Tuple [.Name a1 p1,.Name b1 p2] x1 tp) env] >>= fun _=>pure Flow.next) _ _ _;refine d8d ?_;show d8i _ _ (assign (.Tuple [.Name a1 p1,.Name b1 p2] x1 tp) env (.ref t)) _ _ _;rw[arm_assign_Tuple];refine d8d (d8r ?_);unfold unpack;obtain⟨e1,e2,_⟩:=a4o (env:=env) hns;rw[e1,e2];refine d8d (d8l (a4l (vs:=[uv,uv]) H3.ok.handled a3.rel.sub htup fun h' sb=>?_));show d8i _ _ (assignInOrder [assign (.Name a1 p1) env,assign (.Name b1 p2) env] [uv,uv]) _ _ _;refine b0y so (mid h' sb).1 ha hb hab rdu (fun v Q s hh=>wpAny_assign_Name hh) (fun v Q s hh=>wpAny_assign_Name hh) fun s4 x4 H4 l1 l2=>d8h ?_;exact tail s4 ((mid h' sb).2.trans ⟨List.prefix_refl _,fun b hb=>.inl hb,rfl,H4,x4.mono fun b hb=>List.mem_append_left _ hb⟩ H) l1 l2
   ·refine d8d (d8v hs' ?_)
    unfold assignStores;dsimp only;refine d8d (wpAny_rule (d8d (a4l (vs:=[uv,uv]) H3.ok.handled a3.rel.sub htup fun h' sb=>?_)));show d8i _ _ (assignInOrder [fun v=>bindName env b1 v,fun v=>bindName env a1 v] [uv,uv] >>= fun _=>pure Flow.next) _ _ _;refine d8d (b0y so (mid h' sb).1 hb ha (Ne.symm hab) rdu (fun v Q s hh=>wpAny_bindName hh) (fun v Q s hh=>wpAny_bindName hh) fun s4 x4 H4 l1 l2=>d8h ?_);rw[b4b _ hba]at H4;exact tail s4 ((mid h' sb).2.trans ⟨List.prefix_refl _,fun b hb=>.inl hb,rfl,H4,x4.mono fun b hb=>List.mem_append_left _ hb⟩ H) l2 l1
  ·exact hq.elim
 ·exact hq.elim
end
end
section
section
variable {C:Cfg} {Γ:Ctx} {n:Nat} {k:Ck}
theorem d3l{h:Ss}(e:d7a h=true)(l:List Stmt):∃a r,a5i h l=a::r:=by
 cases h with
 |nil=>cases e
 |cons s ss=>exact⟨_,_,rfl⟩
 |info a b c f as ks kvs ss=>exact⟨_,_,rfl⟩
variable (Gd:Good C k) (Γok:a4c C Γ n) (X:Extra C Γ n k)
include Gd Γok
theorem d3i{sc:SI}(so:SIOK sc)(i:Nat)(e:E)(x:Stmt)(h:ckS k hz sc (.assign i e) x=true):SS C Γ sc n hz (.assign i e) (rbS (.assign i e) x):=by
 by_cases hc:b1t e=true
 ·cases e with
  |comp g=>exact b8h so (a0b h) (c1l Gd Γok g _ so (a0a h)) (a0m Gd Γok _ sc _ so (a0a h))
  |_=>cases hc
 ·exact c3c so (a0b h) (a8t (Bool.not_eq_true _▸hc) _) (a0m Gd Γok e sc _ so (a0a h))
theorem d0e{sc:SI}(so:SIOK sc)(i:Nat)(e:E)(x:Stmt)(h:ckS k hz sc (.assignOwn i e) x=true):SS C Γ sc n hz (.assignOwn i e) (rbS (.assignOwn i e) x):=by
 by_cases hc:b1t e=true
 ·cases e with
  |comp g=>exact b2t so (a0b h) (c1l Gd Γok g _ so (a0b (a0a h)))
  |_=>cases hc
 ·exact b3c so (a0b h) (a8t (Bool.not_eq_true _▸hc) _) (c7f Gd Γok so e _ (a0b (a0a h)) (a0a (a0a h)))
include X
mutual
theorem c6y:(hz:Bool)→(S:S)→(sc:SI)→(x:Stmt)→SIOK sc→ckS k hz sc S x=true→SS C Γ sc n hz S (rbS S x)
 |hz,.assign i e=>fun sc x so h=>d3i Gd Γok so i e x h
 |hz,.assignOwn i e=>fun sc x so h=>d0e Gd Γok so i e x h
 |hz,.assignTup is e=>fun sc x so h=>by
  obtain⟨ns,h5,h6⟩:=c3e (a0b h);exact b4e so h5 h6 (of_decide_eq_true (a0b (a0a h))) (c9w (a0a (a0a (a0a h)))) (a0m Gd Γok e sc _ so (a0b (a0a (a0a h))))
 |hz,.multi ms=>fun sc x so h=>by
  obtain⟨ns,h6,h7⟩:=c3e (a0b h);exact c6f so h6 h7 (of_decide_eq_true (a0b (a0a h))) (a0b (a0a (a0a h))) (of_decide_eq_true (a0b (a0a (a0a (a0a h))))) (b2j hz ms sc _ so (a0a (a0a (a0a (a0a h)))))
 |hz,.setIdx i ix e=>fun sc x so h=>c1f (a0b h) (a0m Gd Γok e sc _ so (a0b (a0a h))) (a0m Gd Γok ix sc _ so (a0a (a0a h)))
 |hz,.augIdx i ix o e=>fun sc x so h=>c1x (a0b h) (b6e _ _) (a0m Gd Γok e sc _ so (a0b (a0a h))) (a0m Gd Γok ix sc _ so (a0a (a0a h)))
 |hz,.aug i o e=>fun sc x so h=>d3a so (a0b h) (c1n (a0b (a0a h))).2 (a0m Gd Γok e sc _ so (a0a (a0a h)))
 |hz,.ifs c t f=>fun sc x so h=>d6k (a3z Gd Γok c sc _ so (a0b h)) (a4u hz t sc _ so (a0b (a0a h))) (a4u hz f sc _ so (a0a (a0a h)))
 |hz,.ret e=>fun sc x so h=>d3h (a0m Gd Γok e sc _ so h)
 |hz,.append i e=>fun sc x so h=>c1g rfl (a0b h) (a0b (a0a h)) (a4i _ _) (a0m Gd Γok e sc _ so (a0a (a0a h)))
 |hz,.reverse i=>fun sc x so h=>b8b rfl (a0b h) (a0a h)
 |hz,.delIdx i j=>fun sc x so h=>b9z h (d5j j _)
 |hz,.for t it b=>fun sc x so h=>d4b so (a0b h) (fun env x=>a5k it _ env x) (a9p Gd Γok it sc _ _ so (a0b (a0a h))) (a4u hz b sc _ so (a0a (a0a h)))
 |hz,.while c b=>fun sc x so h=>c3u (a3z Gd Γok c sc _ so (a0b h)) (a4u hz b sc _ so (a0a h))
 |hz,.assert c=>fun sc x so h=>b9q (a3z Gd Γok c sc _ so h)
 |true,.tryStop pre i hh=>fun sc x so h=>X.tries sc pre i _ _ hh _ _ _ _ _ so (a0b h) (a0b (a0a h)) (a0b (a0a (a0a h))) (d3l (a0b (a0a (a0a (a0a h)))) _) (a4u false hh sc _ so (a0a (a0a (a0a (a0a h)))))
 |false,.tryStop pre i hh=>fun sc x so h=>Bool.noConfusion (show false=true from h)
 |hz,.toks i=>fun sc x so h=>X.toks hz sc i x so (a0b h) (a0a h)
 |hz,.expr e=>fun sc x so h=>fun A env g s al st Eh Q Q' H hw kk=>a6d H.eok (a8t (b2o (a0b h)) _) (a0m Gd Γok e sc _ so (a0a h) A env g s al st Eh _ _ H hw fun v u st1 s1 g1 a1 i1 hq=>kk .next .next _ _ _ _ (SAft.of H a1) trivial hq)
 |hz,.retNone=>fun sc x so h=>fun A env g s al st Eh Q Q' H hw kk=>wpAny_Return_none (kk (.ret .none) (.ret .none) al g s st (SAft.of H (Aft.refl H.rel)) RD.none hw)
 |hz,.stuck=>fun sc x so h=>fun A env g s al st Eh Q Q' H hw kk=>hw.elim
theorem a4u:(hz:Bool)→(S:Ss)→(sc:SI)→(l:List Stmt)→SIOK sc→b7w k hz sc S l=true→SSs C Γ sc n hz S (a5i S l)
 |hz,.nil=>fun sc l so h=>c9h
 |hz,.cons s ss=>fun sc l so h=>c3t (c6y hz s sc _ so (a0b h)) (a4u hz ss sc _ so (a0a h))
 |hz,.info a b c f as ks kvs ss=>fun sc l so h=>by
  have h1:=a0a h; have h2:=a0a h1; have h3:=a0a h2; have h4:=a0a h3; have h5:=a0a h4; have h6:=a0a h5; have h7:=a0a h6; have h8:=a0a h7; have h9:=a0a h8; have h10:=a0a h9; have h11:=a0a h10; have h12:=a0a h11; have h13:=a0a h12;obtain⟨z,zs,e,hz2⟩:=b8q (a0b h11) (xs (sV (sh l)));have q:=(a1p Gd Γok as sc _ so (a0b h12)).2.1;have o1:=c1n (a0b h4);have o2:=c1n (a0b h5);dsimp only[a5i];rw[e]at q ⊢;exact d0p Gd Γok so (a0b h1) (a0b h2) (a0b h3) (a0b h) o1.1 o1.2 o2.1 o2.2 (of_decide_eq_true (a0b h6)) (a0b h7) (a0b h8) (beq_iff_eq.mp (a0b h9)) (beq_iff_eq.mp (a0b h10)) hz2 q (c1v Gd Γok kvs ks sc _ so (a0b h13)) (a4u hz ss sc _ so (a0a h13))
theorem b2j:(hz:Bool)→(ms:Ms)→(sc:SI)→(l:List Expr)→SIOK sc→d2w k hz sc ms l=true→SMs C Γ sc n hz ms (c7t ms l)
 |hz,.nil=>fun sc l so h=>c9i
 |hz,.plain i e r=>fun sc l so h=>b9g (a4i _ _) (a0m Gd Γok e sc _ so (a0b h)) (b2j hz r sc _ so (a0a h))
 |hz,.own i e r=>fun sc l so h=>d0a (a4i _ _) (c7f Gd Γok so e _ (a0b h) (a0b (a0a h))) (b2j hz r sc _ so (a0a (a0a h)))
 |hz,.iter i e r=>fun sc l so h=>c6m Gd (a0u (a0b h)).1 (a4i _ _) (a0m Gd Γok e sc _ so (a0b (a0a h))) (b2j hz r sc _ so (a0a (a0a h)))
end
theorem b5j{S:Ss}{sc:SI}{l:List Stmt}(so:SIOK sc)(h:c8f k hz sc S l):SSs C Γ sc n hz S l:=by
 obtain⟨l0,h1,rfl⟩:=h;exact a4u Gd Γok X hz S sc l0 so h1
end
end
section
noncomputable def a2f(names:List (Str×NameKind))(xs:List Str):SI:=⟨names,xs.zip (List.range xs.length),(names.filter fun p=>p.2 == .cell).map (·.1)⟩
structure FnOK(fd:FuncData)(ps ls:List Str)(body:List Stmt):Prop where
 body:fd.body=.stmts body
 closure:fd.closure=[]
 kind:fd.scope.kind=.function
 co:fd.scope.isCoroutine=false
 gen:fd.scope.isGenerator=false
 globals:fd.globals=d8o
 builtins:fd.builtins=builtinsNs
 nodup:(fd.scope.names.map (·.1)).Nodup
 xnodup:(ps++ls).Nodup
 kinds:∀x∈ps++ls,fd.scope.names.lookup x=some .local∨fd.scope.names.lookup x=some .cell
 nofree:∀p∈fd.scope.names,p.2 ≠ .free
 bind:∀vals:List d8g,vals.length=ps.length→bindArgs fd ⟨vals,[]⟩=pure (ps.zip vals)
 bindK:∀(vals:List d8g) (ks:List Str) (kvs:List d8g),ks=ps.drop vals.length→ks.length=kvs.length→(vals++kvs).length=ps.length→bindArgs fd ⟨vals,ks.zip kvs⟩=pure (ps.zip (vals++kvs))
def fnW(Γ:Ctx)(tk:List (d8e×d8e))(np nl:Nat)(body:Ss):Spec:=fun hz ks us ow Q=>ks=[]∧us.length=np∧a1n Γ tk body ⟨us++List.replicate nl .undef,ow,hz⟩ fun fl st=>
 Q (.dat (match fl with|.ret d=>d|.next=>.none)) (st.own.take ow.length)
theorem a7q{kindOf:Str→Option NameKind}{x:Str}(hx:kindOf x=some .local):∀(binds:List (Str×d8g)) (m:Str→Option d8g),(binds.map (·.1)).Nodup→bindL kindOf binds m x=match binds.lookup x with|some v=>some v|none=>m x
 |[]=>fun m _=>rfl
 |(y,v)::r=>fun m hn=>by
  rw[List.map_cons,List.nodup_cons]at hn;unfold bindL;rw[a7q hx r _ hn.2]
  by_cases hxy:x=y
  ·subst hxy
   rw[a3c hn.1,List.lookup_cons,beq_self_eq_true,if_pos hx];simp
  ·have hb:(x==y)=false:=beq_false_of_ne hxy
   rw[List.lookup_cons,hb];cases r.lookup x with
   |some w=>rfl
   |none=>
    show(if kindOf y=some NameKind.local then(fun z=>if z=y then some v else m z)else m) x=m x
    by_cases hky:kindOf y=some NameKind.local
    ·rw[if_pos hky]; exact if_neg hxy
    ·rw[if_neg hky]
theorem b6s{kindOf:Str→Option NameKind}{x:Str}(hx:kindOf x=some .cell):∀(binds:List (Str×d8g)) (m:Str→Option d8g),(binds.map (·.1)).Nodup→bindC kindOf binds m x=match binds.lookup x with|some v=>some v|none=>m x
 |[]=>fun m _=>rfl
 |(y,v)::r=>fun m hn=>by
  rw[List.map_cons,List.nodup_cons]at hn;unfold bindC;rw[b6s hx r _ hn.2]
  by_cases hxy:x=y
  ·subst hxy
   rw[a3c hn.1,List.lookup_cons,beq_self_eq_true,if_neg (by rw[hx]; simp)]
   simp
  ·have hb:(x==y)=false:=beq_false_of_ne hxy
   rw[List.lookup_cons,hb];cases r.lookup x with
   |some w=>rfl
   |none=>
    show(if kindOf y=some NameKind.local then m else(fun z=>if z=y then some v else m z)) x=m x
    by_cases hky:kindOf y=some NameKind.local
    ·rw[if_pos hky]
    ·rw[if_neg hky]; exact if_neg hxy
theorem a4x:∀(ps:List Str) (vs:List d8g),ps.length=vs.length→ps.Nodup→∀(i:Nat) x,ps[i]?=some x→∃v,vs[i]?=some v∧(ps.zip vs).lookup x=some v
 |[],vs=>fun _ _ i x e=>by simp at e
 |p::ps,[]=>fun h _ _ _ _=>by cases h
 |p::ps,v::vs=>fun h hn i x e=>by
  rw[List.nodup_cons]at hn;cases i with
  |zero=>simp at e; subst e; exact⟨v,rfl,by simp⟩
  |succ i=>
   have e:ps[i]?=some x:=by simpa using e
   obtain⟨w,h1,h2⟩:=a4x ps vs (by simpa using h) hn.2 i x e
   refine⟨w,by simpa using h1,?_⟩
   have hxp:(x==p)=false:=beq_false_of_ne fun q=>hn.1 (q▸List.mem_of_getElem? e);rw[List.zip_cons_cons,List.lookup_cons,hxp];exact h2
theorem InVs.get{C:Cfg}{al:List Addr}:∀{vs:List d8g} {us:List V} {i:Nat} {v:d8g},InVs C g al vs us→vs[i]?=some v→∃u,us[i]?=some u∧InV C g al v u
 |[],_,_,_,_,e=>by simp at e
 |_::_,[],_,_,h,_=>h.elim
 |w::vs,u::us,i,v,h,e=>by
  cases i with
  |zero=>simp at e; subst e; exact⟨u,rfl,h.1⟩
  |succ i=>obtain⟨u',h1,h2⟩:=InVs.get h.2 (by simpa using e:vs[i]?=some v); exact⟨u',by simpa using h1,h2⟩
theorem b7m{names:List (Str×NameKind)}{xs:List Str}(h:(a2f names xs).ids.lookup x=some i):xs[i]?=some x:=by
 have hm:=d8k h;have hm:(x,i)∈xs.zip (List.range xs.length):=hm;obtain⟨j,hj,e⟩:=List.getElem_of_mem hm;rw[List.getElem_zip,List.getElem_range]at e;have e1:=congrArg Prod.fst e;have e2:=congrArg Prod.snd e;dsimp only at e1 e2;subst e2;rw[List.length_zip,List.length_range,Nat.min_self]at hj;rw[List.getElem?_eq_getElem hj,e1]
theorem a8i{ps ls:List Str}{body:List Stmt}(ok:FnOK fd ps ls body):SIOK (a2f fd.scope.names (ps++ls)) where
 nd:=by
  show(((ps++ls).zip (List.range (ps++ls).length)).map (·.2)).Nodup;rw[List.map_snd_zip (by simp)]
  exact List.nodup_range
 kinds:=fun x i h=>(ok.kinds x (List.mem_of_getElem? (b7m h))).imp id .inl
theorem a3f:∀{names:List (Str×NameKind)} {m:Nat},(names.map (·.1)).Nodup→((cellsFrom m names []).map (·.1)).Nodup∧∀x∈(cellsFrom m names []).map (·.1),x∈names.map (·.1)
 |[],_,_=>⟨List.nodup_nil,fun _ h=>nomatch h⟩
 |(y,k)::r,m,hn=>by
  rw[List.map_cons,List.nodup_cons]at hn;unfold cellsFrom;split
  ·obtain⟨h1,h2⟩:=a3f (m:=m+1) hn.2
   rw[a1b,List.map_append];refine⟨List.nodup_append.mpr ⟨h1,by simp,fun a ha b hb e=>?_⟩,fun x hx=>?_⟩
   ·simp at hb; subst hb; subst e; exact hn.1 (h2 _ ha)
   ·rcases List.mem_append.mp hx with h|h
    ·exact List.mem_cons_of_mem _ (h2 x h)
    ·simp at h; subst h; exact .head _
  ·obtain⟨h1,h2⟩:=a3f (m:=m) hn.2
   exact⟨h1,fun x hx=>List.mem_cons_of_mem _ (h2 x hx)⟩
section
variable {C:Cfg} {Γ:Ctx} {n:Nat} {k:Ck}
theorem BRel.take{g h:Heap}{al al':List Addr}{ow:List OV}(B:BRel C g h al' ow)(p:al <+: al')(hb:C.base <+: al):BRel C g h al (ow.take al.length) where
 sub:=B.sub
 amb:=B.amb
 nd:=B.nd
 tabs:=B.tabs
 olen:=by
  rw[List.length_take,←B.olen]
  have:=p.length_le
  exact a1d (.e N0 (.b 2 N0 N1)) (.l N0 N1) this
 own:=fun j o e=>by
  rw[List.getElem?_take]at e
  split at e
  ·rename_i hj
   obtain⟨a,ha,q⟩:=B.own j o e;refine⟨a,?_,q⟩;obtain⟨t,rfl⟩:=p;rw[List.getElem?_append_left hj]at ha;exact ha
  ·cases e
 alnd:=by
  obtain⟨t,rfl⟩:=p;exact(List.nodup_append.mp B.alnd).1
 ata:=fun b hb'=>B.ata b (p.subset hb')
 base:=hb
def SSW(C:Cfg)(sc:SI)(n:Nat)(hz:Bool)(fd:FuncData)(W:St→(Fl→St→Prop)→Prop)(x:List Stmt):Prop:=
 ∀(A:d8q) (env:Env) (g:Heap) (s:d8f) (al:List Addr) (st:St) (Eh:d8g→d8f→Prop) (Q:Fl→St→Prop) (Q':Flow→d8f→Prop),(∃L a,env=d8j fd L a)→Here C sc hz n A env g s al st→W st Q→
  (∀fl f al' g' s' st',al <+: al'→BRel C g' s'.heap al' st'.own→Step (wr sc env++(al++C.TA)) s g s' g'→d4w g' fl f→Q fl st'→Q' f s')→d8i (model C.prog C.w) A (execs x env) Q' Eh s
def d4k(W:St→(Fl→St→Prop)→Prop)(np nl:Nat):Spec:=fun hz ks us ow Q=>ks=[]∧us.length=np∧W ⟨us++List.replicate nl .undef,ow,hz⟩ fun fl st=>
 Q (.dat (match fl with|.ret d=>d|.next=>.none)) (st.own.take ow.length)
theorem a5n{s:d8f}{a:Addr}{body:List Stmt}{args:Args}{binds:List (Str×d8g)}
 (hroom:A.depth<recursionLimit) (ho:s.heap.get? a=some o) (hdata:o.data=.func fd) (hlim:s.heap.NoLimit) (hcd:s.heap.CodeRec fd.code fd.qualname)
 (hbody:fd.body=.stmts body) (hbind:bindArgs fd args=pure binds) (hclo:fd.closure=[])
 (hkind:∀x∈binds,fd.scope.names.lookup x.1=some .local∨(fd.scope.names.lookup x.1=some .cell∧((cellsFrom (s.heap.objs.size+1) fd.scope.names []).lookup x.1).isSome=true))
 (h:∀s₁,InCallC s (d8j fd s.heap.objs.size a).locals (bindL (d8j fd s.heap.objs.size a).kindOf binds fun _=>none) (d8j fd s.heap.objs.size a).cells
 (bindC (d8j fd s.heap.objs.size a).kindOf binds fun _=>none) s₁→
 d8i (model prog w) (A.deeper (d8j fd s.heap.objs.size a)) (execs body (d8j fd s.heap.objs.size a)) (fun f s'=>R (.ok (.ret (match f with|.ret v=>v|_=>.none))) s')
 (fun e s'=>d8i (model prog w) (A.deeper (d8j fd s.heap.objs.size a)) (leaving (d8j fd s.heap.objs.size a) e) (fun _ s''=>R (.error e) s'') (fun e' s''=>R (.error e') s'') s') s₁)
 (hco:fd.scope.isCoroutine=false) (hgen:fd.scope.isGenerator=false) (hk:fd.scope.kind=.function) :
  codeAny (model prog w) A (.call (.ref a) args) R s:=by
 refine codeAny_call_function hroom ho hdata hco hgen hbody hcd ?_;rw[hbind,hclo];refine d8h (wpAny_newFunctionEnv_cells hk hkind fun env he s' x=>?_);subst he;exact⟨hlim.keeps x.toInCall.keep,codeAny_func (h s' x)⟩
theorem b3e{a:Addr}{ps ls:List Str}{W:St→(Fl→St→Prop)→Prop}(hfv:C.fnv f=.ref a)(hfo:o.data=.func fd)(hg:∀g,C.Amb g→g.get? a=some o∧g.CodeRec fd.code fd.qualname)(ok:FnOK fd ps ls stmts)
 (hs:SSW C (a2f fd.scope.names (ps++ls)) n hzf fd W stmts)
 (A:d8q) (g:Heap) (s:d8f) (al:List Addr) (ow:List OV) (hz:Bool) (vs0:List d8g) (ks:List Str) (kvs:List d8g) (us:List V) (Eh:d8g→d8f→Prop) (Q:V→List OV→Prop) (Q':d8g→d8f→Prop) (hzz:hzf=true→hz=true)
 (aok:AOK A (n+1) hz g) (B:BRel C g s.heap al ow) (hfrB:FrB C A g s.heap al) (hkl:ks.length=kvs.length) (hi:InVs C g al (vs0++kvs) us) (hks:ks=ps.drop vs0.length) (hw:d4k W ps.length nl hz [] us ow Q)
 (kk:∀v u ow' s' g',BRel C g' s'.heap al ow'→Step (al++C.TA) s g s' g'→InV C g' al v u→Q u ow'→Q' v s') :
  d8i (model C.prog C.w) A (call (C.fnv f) vs0 (ks.zip kvs)) Q' Eh s:=by
 obtain⟨hk0,hul,hw⟩:=hw;obtain⟨vs,hvs⟩:∃vs,vs=vs0++kvs:=⟨_,rfl⟩;rw[←hvs]at hi;have hvl:vs.length=ps.length:=hi.len.trans hul;have hbind:bindArgs fd ⟨vs0,ks.zip kvs⟩=pure (ps.zip vs):=by rw[hvs]; exact ok.bindK vs0 ks kvs hks hkl (by rw[←hvs]; exact hvl)
 rw[hfv];obtain⟨ho,hcr⟩:=hg g B.amb;have T:=B.amb.T.keeps B.sub;have hpsn:ps.Nodup:=(List.nodup_append.mp ok.xnodup).1;have hzk:((ps.zip vs).map (·.1))=ps:=a7y ps vs hvl.symm;refine wpAny_call (a5n (by have:=aok.depth; exact a1z (.t N0 N1) (.l (.p N0 (.p N2 O1)) N1) this) (B.sub _ _ ho) hfo T.nolimit ?_ ok.body hbind ok.closure (fun x hx=>?_) (fun s1 x=>?_) ok.co ok.gen ok.kind)
 ·obtain⟨c,oc,fs,t,e1,e2,e3,e4⟩:=hcr; exact⟨c,oc,fs,t,e1,B.sub _ _ e2,e3,e4⟩
 ·have hxp:x.1∈ps:=by rw[←hzk]; exact List.mem_map.mpr ⟨x,hx,rfl⟩
  rcases ok.kinds x.1 (List.mem_append_left _ hxp)with h|h
  ·exact .inl h
  ·obtain⟨c,hc,_⟩:=(a0n fd.scope.names (s.heap.objs.size+1) [] ok.nodup x.1).2 h
   exact .inr ⟨h,by rw[hc]; rfl⟩
 ·have hlt:∀b,(∃o,s.heap.get? b=some o)→b<s.heap.objs.size:=fun b ⟨o,ho⟩=>Heap.lt_size ho
  have hnew:∀b,s.heap.objs.size≤b→s.heap.get? b=none:=fun b hb=>a0s hb;have sb:Sub s.heap s1.heap:=x.toInCall.keep;obtain⟨h1,tk1,rfl⟩:=x.toInCall.same;have x1:Step [] s g { s with heap:=h1,toks:=tk1 } g:=Step.ext sb
  have B1:=B.move x1 (B.sub.trans sb) (by simp)
  have cellk:∀{y:Str},fd.scope.names.lookup y=some .cell→∃c,(d8j fd s.heap.objs.size a).cells.lookup y=some c:=fun{y} hy=>by
   obtain⟨c,hc,_⟩:=(a0n fd.scope.names (s.heap.objs.size+1) [] ok.nodup y).2 hy; exact⟨c,hc⟩
  have above:∀y c,(y,c)∈(d8j fd s.heap.objs.size a).cells→s.heap.objs.size<c:=x.above;have pge:∀b∈a4w (d8j fd s.heap.objs.size a),s.heap.objs.size≤b:=fun b hb=>by
   rcases List.mem_cons.mp hb with h|h
   ·exact Nat.le_of_eq h.symm
   ·obtain⟨⟨y,c⟩,hp,rfl⟩:=List.mem_map.mp h
    exact Nat.le_of_lt (above y c hp)
  have pfr:∀b∈a4w (d8j fd s.heap.objs.size a),s.heap.get? b=none:=fun b hb=>hnew b (pge b hb);have hk:∀y,(d8j fd s.heap.objs.size a).kindOf y=fd.scope.names.lookup y:=fun y=>rfl;have vget:∀{y:Str} {i:Nat} {v:d8g},ps[i]?=some y→vs[i]?=some v→Look (d8j fd s.heap.objs.size a) h1 y v:=fun{y i v} hy hv=>by
   obtain⟨v',h2,h3⟩:=a4x ps vs hvl.symm hpsn i y hy;rw[hv]at h2; cases h2
   rcases ok.kinds y (List.mem_append_left _ (List.mem_of_getElem? hy))with h|h
   ·refine .inl ⟨(hk y).trans h,_,x.toInCall.ns,?_⟩
    rw[a7q ((hk y).trans h) _ _ (by rw[hzk]; exact hpsn),h3]
   ·obtain⟨c,hc⟩:=cellk h
    have hcell:=x.cell y c hc;rw[b6s ((hk y).trans h) _ _ (by rw[hzk]; exact hpsn),h3]at hcell
    exact .inr ⟨.inl ((hk y).trans h),c,hc,hcell⟩
  have R:Rel C (a2f fd.scope.names (ps++ls)) (d8j fd s.heap.objs.size a) g h1 al ⟨us++List.replicate nl .undef,ow,hz⟩:={
   sub:=B1.sub,amb:=B1.amb,nd:=B1.nd,tabs:=B1.tabs
   ns:=⟨_,x.toInCall.ns⟩
   cell:=fun y hy=>by
    rcases hy with h|h
    ·obtain⟨c,hc⟩:=cellk h; exact⟨c,_,hc,x.cell y c hc⟩
    ·exact absurd rfl (ok.nofree _ (d8k h))
   vars:=fun y i hyi=>by
    have hy:=b7m hyi
    by_cases hip:i<ps.length
    ·rw[List.getElem?_append_left hip]at hy
     have hv:vs[i]?=some vs[i]:=List.getElem?_eq_getElem (by exact a2q (.t N0 N1) (.e N1 N2) (.t N0 N2) hvl hip)
     obtain⟨u,hu,iu⟩:=hi.get hv;refine .inr ⟨vs[i],vget hy hv,?_⟩;show InV C g al vs[i] ((us++List.replicate nl V.undef).getD i V.undef);rw[List.getD_eq_getElem?_getD,List.getElem?_append_left (by exact a2q (.t N0 N1) (.e N1 N2) (.t N0 N2) hul hip),hu]
     exact iu
    ·refine .inl fun u hu=>?_
     subst hu;show(us++List.replicate nl V.undef).getD i V.undef=.undef;rw[List.getD_eq_getElem?_getD,List.getElem?_append_right (by exact a2q (.l N0 N1) (.e N0 N2) (.n (.t N1 N2)) hul hip),List.getElem?_replicate]
     split <;> rfl
   olen:=B1.olen,own:=B1.own,alnd:=B1.alnd
   pnd:=by
    show(s.heap.objs.size::(d8j fd s.heap.objs.size a).cells.map (·.2)).Nodup;rw[List.nodup_cons];refine⟨fun hm=>?_,List.pairwise_map.mpr x.apart⟩;obtain⟨⟨y,c⟩,hp,e⟩:=List.mem_map.mp hm;have h2:=above y c hp;have e:c=s.heap.objs.size:=e;exact Nat.lt_irrefl _ (e▸h2)
   pgl:=a3d B.sub (pfr _ (.head _))
   pgc:=fun y c _ hc=>a3d B.sub (pfr c (List.mem_cons_of_mem _ (List.mem_map.mpr ⟨_,d8k hc,rfl⟩)))
   plt:=fun b hb=>by
    rcases List.mem_cons.mp hb with h|h
    ·obtain⟨o,_,_,ho,_⟩:=x.toInCall.ns; exact⟨o,h▸ho⟩
    ·obtain⟨⟨y,c⟩,hp,rfl⟩:=List.mem_map.mp h
     have hn:((d8j fd s.heap.objs.size a).cells.map (·.2)).Nodup:=List.pairwise_map.mpr x.apart;have hkeys:(((d8j fd s.heap.objs.size a).cells).map (·.1)).Nodup:=(a3f ok.nodup).1;obtain⟨o,ho,_⟩:=x.cell y c (a0p hkeys hp);exact⟨o,ho⟩
   pal:=fun b hb hm=>by
    obtain⟨j,hj,e⟩:=List.getElem_of_mem hm;obtain⟨a',ha',q⟩:=B.own j _ (List.getElem?_eq_getElem (by rw[←B.olen]; exact hj))
    rw[List.getElem?_eq_getElem hj,e]at ha';cases ha';obtain⟨ob,hob⟩:=q.alive B.sub;rw[pfr b hb]at hob; cases hob
   pta:=fun b hb hm=>by
    obtain⟨_,o',ho',_⟩:=B.tabs b hm;rw[pfr b hb]at ho'; cases ho'
   ata:=B1.ata,base:=B1.base }
  have hfr:FrOK C (A.deeper (d8j fd s.heap.objs.size a)) (d8j fd s.heap.objs.size a) g h1 al:=hfrB.deep ok.kind rfl rfl sb fun b hb _=>pfr b hb;have H:Here C (a2f fd.scope.names (ps++ls)) hzf n (A.deeper (d8j fd s.heap.objs.size a)) (d8j fd s.heap.objs.size a) g { s with heap:=h1,toks:=tk1 } al ⟨us++List.replicate nl .undef,ow,hz⟩:=
   ⟨⟨by have:=aok.depth; show A.depth+1+n≤_; exact a1z (.l (.p (.p N0 O1) N1) N2) (.l (.p N0 (.p N1 O1)) N2) this,by have:=aok.units; show A.units+3+4*n+70<_; exact a1z (.t (.p (.p (.p N0 (.k 3)) (.m 0 4 N1)) (.k 70)) N2) (.t (.p (.p N0 (.m 0 4 (.p N1 O1))) (.k 70)) N2) this,aok.none,aok.handled⟩,hzz,⟨ok.kind,rfl,ok.globals,ok.builtins⟩,R,hfr⟩
  refine hs _ _ g _ al _ _ _ _ ⟨_,_,rfl⟩ H hw fun fl fr al' g' s' st' pa' B' st'x hf hq=>?_;have x2:Step (al++C.TA) s g s' g':=(x1.mono (W':=al++C.TA) fun _ h=>nomatch h).trans st'x fun b hb=>by
   rcases List.mem_append.mp hb with h|h
   ·exact .inr (pfr b (a2b h))
   ·exact .inl h
  have B2:=B'.take pa' B.base;rw[B.olen]at B2;cases fl with
  |next=>
   cases fr with
   |next=>exact kk .none (.dat .none) _ s' g' B2 x2 RD.none hq
   |_=>exact hf.elim
  |ret d=>
   cases fr with
   |ret v=>exact kk v (.dat d) _ s' g' B2 x2 hf hq
   |_=>exact hf.elim
theorem a6j{a:Addr}{ps ls:List Str}{W:St→(Fl→St→Prop)→Prop}(hfv:C.fnv f=.ref a)(hfo:o.data=.func fd)(hg:∀g,C.Amb g→g.get? a=some o∧g.CodeRec fd.code fd.qualname)(ok:FnOK fd ps ls stmts)
 (hs:SSW C (a2f fd.scope.names (ps++ls)) n hzf fd W stmts)
 (A:d8q) (g:Heap) (s:d8f) (al:List Addr) (ow:List OV) (hz:Bool) (vs:List d8g) (ks:List Str) (kvs:List d8g) (us:List V) (Eh:d8g→d8f→Prop) (Q:V→List OV→Prop) (Q':d8g→d8f→Prop) (hzz:hzf=true→hz=true)
 (aok:AOK A (n+1) hz g) (B:BRel C g s.heap al ow) (hfrB:FrB C A g s.heap al) (hkl:ks.length=kvs.length) (hi:InVs C g al (vs++kvs) us) (hw:d4k W ps.length nl hz ks us ow Q)
 (kk:∀v u ow' s' g',BRel C g' s'.heap al ow'→Step (al++C.TA) s g s' g'→InV C g' al v u→Q u ow'→Q' v s') :
  d8i (model C.prog C.w) A (call (C.fnv f) vs (ks.zip kvs)) Q' Eh s:=by
 obtain⟨hk0,hul,hw⟩:=hw;subst hk0;have hkv:kvs=[]:=List.length_eq_zero_iff.mp hkl.symm;subst hkv;have hvl:vs.length=ps.length:=by rw[List.append_nil]at hi; exact hi.len.trans hul
 exact b3e hfv hfo hg ok hs A g s al ow hz vs [] [] us Eh Q Q' hzz aok B hfrB rfl hi (by rw[List.drop_of_length_le (Nat.le_of_eq hvl.symm)]) ⟨rfl,hul,hw⟩ kk
theorem c6b{a:Addr}{ps ls:List Str}{body:Ss}(hfv:C.fnv f=.ref a)(hfo:o.data=.func fd)(hg:∀g,C.Amb g→g.get? a=some o∧g.CodeRec fd.code fd.qualname)(ok:FnOK fd ps ls stmts)
 (hs:SSs C Γ (a2f fd.scope.names (ps++ls)) n hzf body stmts)
 (A:d8q) (g:Heap) (s:d8f) (al:List Addr) (ow:List OV) (hz:Bool) (vs:List d8g) (ks:List Str) (kvs:List d8g) (us:List V) (Eh:d8g→d8f→Prop) (Q:V→List OV→Prop) (Q':d8g→d8f→Prop) (hzz:hzf=true→hz=true)
 (aok:AOK A (n+1) hz g) (B:BRel C g s.heap al ow) (hfrB:FrB C A g s.heap al) (hkl:ks.length=kvs.length) (hi:InVs C g al (vs++kvs) us) (hw:fnW Γ C.toks ps.length nl body hz ks us ow Q)
 (kk:∀v u ow' s' g',BRel C g' s'.heap al ow'→Step (al++C.TA) s g s' g'→InV C g' al v u→Q u ow'→Q' v s') :
  d8i (model C.prog C.w) A (call (C.fnv f) vs (ks.zip kvs)) Q' Eh s:=
 a6j hfv hfo hg ok (W:=fun st Q=>a1n Γ C.toks body st Q) (fun A env g s al st Eh Q Q' _ H hw kk=>hs A env g s al st Eh Q Q' H hw fun fl f al' g' s' st' a' hf hq=>kk fl f al' g' s' st' a'.pre a'.here.rel.b a'.step hf hq)
  A g s al ow hz vs ks kvs us Eh Q Q' hzz aok B hfrB hkl hi hw kk
end
end
section
def b8w(C:Cfg)(sp:Spec)(n:Nat)(f:Nat):Prop:=∀(A:d8q) (g:Heap) (s:d8f) (al:List Addr) (ow:List OV) (hz:Bool) (ps:List d8g) (ks:List Str) (kvs:List d8g) (us:List V)
 (Eh:d8g→d8f→Prop) (Q:V→List OV→Prop) (Q':d8g→d8f→Prop),AOK A n hz g→BRel C g s.heap al ow→FrB C A g s.heap al→ks.length=kvs.length→InVs C g al (ps++kvs) us→sp hz ks us ow Q→
 (∀v u ow' s' g',BRel C g' s'.heap al ow'→Step (al++C.TA) s g s' g'→InV C g' al v u→Q u ow'→Q' v s')→
 d8i (model C.prog C.w) A (call (C.fnv f) ps (ks.zip kvs)) Q' Eh s
inductive Def
 |ir (np nl:Nat) (body:Ss) (hzf:Bool)
 |spec (S:Nat→Ctx→Spec)
noncomputable def lev(tk:List (d8e×d8e))(D:Nat→Option Def):Nat→Ctx
 |0=>fun _ _ _ _ _ _=>False
 |n+1=>fun f hz ks us ow Q=>0<n∧match D f with
  |some (.ir np nl body hzf)=>(hzf=true→hz=true)∧fnW (lev tk D n) tk np nl body hz ks us ow Q
  |some (.spec S)=>S n (lev tk D n) hz ks us ow Q
  |none=>False
inductive DefAt(C:Cfg)(k:Ck)(f:Nat)(np:Nat)(body:Ss)(hzf:Bool):Prop
 |mk:∀a o fd ps ls stmts,C.fnv f=.ref a→o.data=.func fd→(∀g,C.Amb g→g.get? a=some o∧g.CodeRec fd.code fd.qualname)→FnOK fd ps ls stmts→ps.length=np→c8f k hzf (a2f fd.scope.names (ps++ls)) body stmts→DefAt C k f np body hzf
abbrev d6s(C:Cfg)(k:Ck)(D:Nat→Option Def)(f:Nat)(d:Option Def):Prop:=match d with
 |some (.ir np _ body hzf)=>DefAt C k f np body hzf
 |some (.spec S)=>∀n,a4c C (lev C.toks D n) n→0<n→b8w C (S n (lev C.toks D n)) (n+1) f
 |none=>True
theorem c7h{C:Cfg}{k:Ck}{D:Nat→Option Def}(Gd:Good C k)(hd:∀f,d6s C k D f (D f))
  (hx:∀n,0<n→a4c C (lev C.toks D n) n→Extra C (lev C.toks D n) n k):∀n,a4c C (lev C.toks D n) n
 |0=>fun f A g s al ow hz ps ks kvs us Eh Q Q' _ _ _ _ _ h _=>h.elim
 |n+1=>fun f A g s al ow hz ps ks kvs us Eh Q Q' ok B fb hl iv h kk=>by
  have ih:=c7h Gd hd hx n;obtain⟨hn,h⟩:=h;have hd:=hd f;cases e:D f with
  |none=>rw[e]at h; exact h.elim
  |some d=>
   rw[e]at h hd;cases d with
   |ir np nl body hzf=>
    obtain⟨a,o,fd,pps,ls,stmts,h1,h2,h3,h4,h5,h6⟩:=hd;have hS:=b5j Gd ih (hx n hn ih) (a8i h4) h6;subst h5;exact c6b (nl:=nl) h1 h2 h3 h4 hS A g s al ow hz ps ks kvs us Eh Q Q' h.1 ok B fb hl iv h.2 kk
   |spec S=>exact hd n ih hn A g s al ow hz ps ks kvs us Eh Q Q' ok B fb hl iv h kk
end
section
structure Exc(h0 h:Heap)(fs:List Env)(e:Addr)(cls a0 tb fl:d8g):Prop where
 keep:∀b o,h0.get? b=some o→b∉fs.filterMap (·.frame)→h.get? b=some o
 slots:∀b o,h0.get? b=some o→∃sl,h.get? b=some { o with slots:=sl }
 new:h0.get? e=none
 exc:∃oe vs,h.get? e=some oe∧oe.cls=cls∧oe.data=.fields vs∧vs[0]?=some a0∧vs[1]?=some tb∧vs[2]?=some .none
 trace:tb ≠ .none→∃T oT ts,tb=.ref T∧h0.get? T=none∧T≠e∧h.get? T=some oT∧oT.data=.fields ts∧ts[3]?=some fl
def FsIn(h:Heap)(fs:List Env):Prop:=∀e∈fs,e.scope.kind ≠ .module∧∃L o es ep,e.frame=some L∧h.get? L=some o∧o.data=.dict es ep
theorem FsIn.fun{h base:Heap}:∀{fs:List Env},FsIn h fs→(∀L∈fs.filterMap (·.frame),base.get? L=none)→h.FunFrames base fs
 |[]=>fun _ _=>trivial
 |e::r=>fun f hb=>by
  obtain⟨h1,L,o,es,ep,h2,h3,h4⟩:=f e (.head _);refine⟨h1,⟨L,o,h2,hb L ?_,h3,fun vs q=>by rw[h4]at q; cases q⟩,FsIn.fun (fun e' he=>f e' (List.mem_cons_of_mem _ he)) fun L' hL=>hb L' ?_⟩
  ·rw[List.filterMap_cons,h2]; exact .head _
  ·rw[List.filterMap_cons,h2]; exact List.mem_cons_of_mem _ hL
theorem FsIn.keep{h h':Heap}(f:FsIn h fs)(k:∀b o,h.get? b=some o→∃sl,h'.get? b=some { o with slots:=sl }):FsIn h' fs:=fun e he=>by
 obtain⟨h1,L,o,es,ep,h2,h3,h4⟩:=f e he;obtain⟨sl,e1⟩:=k L o h3;exact⟨h1,L,_,es,ep,h2,e1,h4⟩
section
variable {C:Cfg} {A:d8q} {E:d8g→d8f→Prop} {s:d8f} {h0:Heap} {fs:List Env} {e:Addr} {cls a0 tb fl:d8g}
theorem a3j{fr:Option Addr}(x:Exc h0 s.heap fs e cls a0 tb fl)(ht:tb ≠ .none)
 (h:∀h',Exc h0 h' fs e cls a0 tb (fr.elim .none fun f=>rawInt f)→Q () { s with heap:=h' }):d8i (model C.prog C.w) A (setFlight (.ref e) fr) Q E s:=by
 obtain⟨oe,vs,he,hc,hd,h00,h1,h2⟩:=x.exc;obtain⟨T,oT,ts,rfl,hT0,hTe,hT,hdT,h3⟩:=x.trace ht;unfold setFlight;refine d8d (d8w he hd h1 ?_);rw[if_pos (show(Value.ref T != Value.none)=true from by simp)]
 refine wpAny_setField hT hdT (Array.getElem?_eq_some_iff.mp h3).1 (h _ ?_);have other:∀b,b≠T→∀f,(s.heap.update T f).get? b=s.heap.get? b:=fun b hb f=>Heap.get?_update_other _ _ (Ne.symm hb);have hbT:∀b o,h0.get? b=some o→b≠T:=fun b o e' q=>by rw[q,hT0]at e'; cases e'
 exact{
  keep:=fun b o e' hb=>(other b (hbT b o e') _).trans (x.keep b o e' hb)
  slots:=fun b o e'=>by obtain⟨sl,e1⟩:=x.slots b o e'; exact⟨sl,(other b (hbT b o e') _).trans e1⟩
  new:=x.new
  exc:=⟨oe,vs,(other e (Ne.symm hTe) _).trans he,hc,hd,h00,h1,h2⟩
  trace:=fun _=>⟨T,_,_,rfl,hT0,hTe,Heap.get?_update_self _ hT (Obj.isFreed_of_fields (Obj.data_mapFields hdT _)),Obj.data_mapFields hdT _,by
   rw[Array.getElem?_setIfInBounds_self_of_lt (Array.getElem?_eq_some_iff.mp h3).1]⟩ }
theorem b5s{base:Heap}{env e0:Env}{Q:d8g→d8f→Prop}(hfr:A.frames=some (e0::outer))(hl:s.heap.FunFrames base (e0::outer))
 (h0:e0.frame=env.frame) (hf:env.frame=some L) (h:∀h',Heap.SlotsOnly ((e0::outer).filterMap (·.frame)) s.heap h'→Q (.ref L) { s with heap:=h' }):d8i (model C.prog C.w) A (PySem.frameOf env) Q E s:=by
 have x:d8i (model C.prog C.w) A (PySem.frameOf e0) Q E s:=wpAny_frameOf_fun hfr hl (h0.trans hf) h;unfold PySem.frameOf at x ⊢;rw[←h0];exact x
theorem b4n{env e0:Env}(h0f:e0.frame=env.frame){head:d8g}{hadNext:Bool}(hfr:A.frames=some (e0::outer))(hin:FsIn s.heap (e0::outer))(hf:env.frame=some L)(x:Exc h0 s.heap (e0::outer) e cls a0 tb fl)
 (h:∀h' T,Exc h0 h' (e0::outer) e cls a0 (.ref T) (rawInt L)→Q () { s with heap:=h' }) :
  d8i (model C.prog C.w) A (do let a ←frameOf env; let pl ←entryPlaceOf L hadNext; let b ←EntryCells.newEntry head a .none (rawInt L) .none pl; setField (.ref e) 1 b) Q E s:=by
 obtain⟨oe,vs,he,hc,hd,h00,h1,h2⟩:=x.exc;have hene:e∉(e0::outer).filterMap (·.frame):=fun hm=>by
  obtain⟨e',he',hfe⟩:=List.mem_filterMap.mp hm;obtain⟨_,L',o,es,ep,q1,q2,q3⟩:=hin e' he';rw[hfe]at q1; cases q1;rw[he]at q2; cases q2;rw[hd]at q3; cases q3
 have hbase:∃base:Heap,∀L∈(e0::outer).filterMap (·.frame),base.get? L=none:=by
  obtain⟨b,_,hb⟩:=a4y s.heap fun _=>false;exact⟨b,fun L _=>by rw[hb L]; rfl⟩
 obtain⟨base,hb⟩:=hbase;refine d8d (b5s hfr (hin.fun hb) h0f hf fun h₁ hs₁=>?_);refine d8d (wpAny_entryPlaceOf fun pl hpl=>?_);unfold EntryCells.newEntry newFields;refine d8d (wpAny_newObj_type ?_ (hpl.sizeOk5 _ _ _ _ _));have he₁:h₁.get? e=some oe:=(hs₁.2.1 e hene).trans he;generalize hT:({ cls:=.type "traceback",dict:=none,data:=.fields ([head,.ref L,.none,rawInt L,.none]++(if pl.isEmpty then List.replicate 6 Value.none else pl)).toArray }:Obj)=oT
 have he₂:=Heap.get?_push_of_some (h:=h₁) oT he₁;have hsz:1<vs.size:=(Array.getElem?_eq_some_iff.mp h1).1;refine wpAny_setField he₂ hd hsz (h _ h₁.objs.size ?_);have hTe:h₁.objs.size≠e:=Nat.ne_of_gt (Heap.lt_size he₁);have hd₃:=Obj.data_mapFields hd (·.setIfInBounds 1 (Value.ref h₁.objs.size));have he₃:=Heap.get?_update_self (Obj.mapFields (·.setIfInBounds 1 (Value.ref h₁.objs.size))) he₂ (Obj.isFreed_of_fields hd₃);have hT₂:(h₁.push oT).get? h₁.objs.size=some oT:=Heap.get?_push_size h₁ (by subst hT; rfl)
 have other:∀b o,b≠e→h₁.get? b=some o→((h₁.push oT).update e (Obj.mapFields (·.setIfInBounds 1 (Value.ref h₁.objs.size)))).get? b=some o:=fun b o hbe hb=>by
  rw[Heap.get?_update_other _ _ (Ne.symm hbe)];exact Heap.get?_push_of_some _ hb
 have hbe:∀b o,h0.get? b=some o→b≠e:=fun b o e' q=>by rw[q,x.new]at e'; cases e'
 exact{
  keep:=fun b o e' hb=>other b o (hbe b o e') ((hs₁.2.1 b hb).trans (x.keep b o e' hb))
  slots:=fun b o e'=>by
   obtain⟨sl,e1⟩:=x.slots b o e';obtain⟨sl2,e2⟩:=hs₁.2.2 b _ e1;exact⟨sl2,other b _ (hbe b o e') e2⟩
  new:=x.new
  exc:=⟨_,_,he₃,(Obj.cls_mapFields _ _).trans hc,hd₃,by rw[Array.getElem?_setIfInBounds_ne (by decide)]; exact h00,by simp[hsz],by rw[Array.getElem?_setIfInBounds_ne (by decide)]; exact h2⟩
  trace:=fun _=>by
   have hn:h0.get? h₁.objs.size=none:=by
    cases q:h0.get? h₁.objs.size with
    |none=>rfl
    |some o=>
     obtain⟨sl,e1⟩:=x.slots _ o q
     have:=Heap.lt_size e1
     rw[hs₁.1]at this
     exact absurd this (Nat.lt_irrefl _)
   refine⟨h₁.objs.size,oT,_,rfl,hn,hTe,?_,by subst hT; rfl,by simp⟩
   rw[Heap.get?_update_other _ _ (Ne.symm hTe)];exact hT₂ }
theorem b1l{env e0:Env}(h0f:e0.frame=env.frame)(hfr:A.frames=some (e0::outer))(hin:FsIn s.heap (e0::outer))(hf:env.frame=some L)(x:Exc h0 s.heap (e0::outer) e cls a0 tb fl)(hfl:tb=.none∨fl=.none)
 (h:∀h' T,Exc h0 h' (e0::outer) e cls a0 (.ref T) (rawInt L)→Q () { s with heap:=h' }):d8i (model C.prog C.w) A (noteFrame (.ref e) env) Q E s:=by
 obtain⟨oe,vs,he,hc,hd,h00,h1,h2⟩:=x.exc;unfold noteFrame;simp only[hf];refine d8d (d8w he hd h1 ?_)
 by_cases ht:tb=.none
 ·subst ht
  exact b4n h0f hfr hin hf x h
 ·have hfl:fl=.none:=hfl.resolve_left ht
  subst hfl;obtain⟨T,oT,ts,rfl,hT0,hTe,hT,hdT,h3⟩:=x.trace ht;rw[if_pos (show(Value.ref T != Value.none)=true from by simp)]
  refine d8d (d8w hT hdT h3 ?_);rw[if_neg (show ¬((Value.none==rawInt L)=true) from by simp[rawInt])]
  refine d8d (wpAny_setField hT hdT (Array.getElem?_eq_some_iff.mp h3).1 ?_);have other:∀b,b≠T→∀f,(s.heap.update T f).get? b=s.heap.get? b:=fun b hb f=>Heap.get?_update_other _ _ (Ne.symm hb);have hbT:∀b o,h0.get? b=some o→b≠T:=fun b o e' q=>by rw[q,hT0]at e'; cases e'
  have hLT:∀L'∈(e0::outer).filterMap (·.frame),L'≠T:=fun L' hm q=>by
   obtain⟨e',he',hfe⟩:=List.mem_filterMap.mp hm;obtain⟨_,L2,o,es,ep,q1,q2,q3⟩:=hin e' he';rw[hfe]at q1; cases q1;subst q;rw[hT]at q2; cases q2;rw[hdT]at q3; cases q3
  refine b4n h0f (s:={ s with heap:=_ }) (tb:=.ref T) (fl:=.none) hfr (fun e' he'=>?_) hf ?_ h
  ·obtain⟨k1,L2,o,es,ep,q1,q2,q3⟩:=hin e' he'
   exact⟨k1,L2,o,es,ep,q1,(other L2 (hLT L2 (List.mem_filterMap.mpr ⟨e',he',q1⟩)) _).trans q2,q3⟩
  ·exact{
    keep:=fun b o e' hb=>(other b (hbT b o e') _).trans (x.keep b o e' hb)
    slots:=fun b o e'=>by obtain⟨sl,e1⟩:=x.slots b o e'; exact⟨sl,(other b (hbT b o e') _).trans e1⟩
    new:=x.new
    exc:=⟨oe,vs,(other e (Ne.symm hTe) _).trans he,hc,hd,h00,h1,h2⟩
    trace:=fun _=>⟨T,_,_,rfl,hT0,hTe,Heap.get?_update_self _ hT (Obj.isFreed_of_fields (Obj.data_mapFields hdT _)),Obj.data_mapFields hdT _,by
     rw[Array.getElem?_setIfInBounds_self_of_lt (Array.getElem?_eq_some_iff.mp h3).1]⟩ }
theorem a8o(hfr:A.frames=some (env::outer))(hin:FsIn s.heap (env::outer))(hf:env.frame=some L)(x:Exc h0 s.heap (env::outer) e cls a0 tb fl)(hfl:tb=.none∨fl=.none)
 (h:∀h' T,Exc h0 h' (env::outer) e cls a0 (.ref T) .none→Q () { s with heap:=h' }):d8i (model C.prog C.w) A (leaving env (.ref e)) Q E s:=by
 unfold leaving;refine d8d (b1l rfl hfr hin hf x hfl fun h' T x'=>?_);exact a3j x' (by simp) fun h'' x''=>h h'' T x''
end
end
section
section
variable {C:Cfg} {A:d8q} {E:d8g→d8f→Prop} {s:d8f} {g:Heap} {h0 h1 h:Heap} {fs fs':List Env} {e:Addr} {cls a0 tb fl:d8g}
theorem Exc.shrink(x:Exc h0 h fs e cls a0 tb fl)(sb:Sub h1 h0)(hb:∀b o,h1.get? b=some o→b∈fs.filterMap (·.frame)→b∈fs'.filterMap (·.frame)):Exc h1 h fs' e cls a0 tb fl where
 keep:=fun b o e' hm=>x.keep b o (sb b o e') fun hm'=>hm (hb b o e' hm')
 slots:=fun b o e'=>x.slots b o (sb b o e')
 new:=by
  cases q:h1.get? e with
  |none=>rfl
  |some o=>have:=sb e o q; rw[x.new]at this; cases this
 exc:=x.exc
 trace:=fun ht=>by
  obtain⟨T,oT,ts,h1',h2,h3⟩:=x.trace ht;refine⟨T,oT,ts,h1',?_,h3⟩;cases q:h1.get? T with
  |none=>rfl
  |some o=>have:=sb T o q; rw[h2]at this; cases this
theorem c6i{α:Type}{Q:α→d8f→Prop}(hh:A.handled=none)
 (h:∀h' e a0,(∀fs fl,Exc s.heap h' fs e (.type "StopIteration") a0 .none fl)→Sub s.heap h'→E (.ref e) { s with heap:=h' }) :
  d8i (model C.prog C.w) A (newExc (.type "StopIteration") [] >>= fun e=>(raiseNew e:Sem α)) Q E s:=by
 refine d8d ?_;refine d8d (wpAny_newObj_type ?_ (by size_fits))
 refine d8d (m:=firstArgMember _ _) (d8v (a:=Value.none) (by first|rfl|(simp only[firstArgMember]; rfl)) ?_)
 refine wpAny_newObj_type ?_ (by size_fits)
 dsimp only[raiseNew];refine d8d (wpAny_handled ?_);generalize hH:(s.heap.push { cls:=.type "tuple",dict:=none,data:=.seq ([]:List d8g).toArray })=H;have hH':Sub s.heap H:=hH▸a0e _;have hsz:H.objs.size=s.heap.objs.size+1:=by subst hH; simp[Heap.push]
 have hget:∀vs:Array d8g,(H.push { cls:=.type "StopIteration",data:=.fields vs }).get? H.objs.size=some { cls:=.type "StopIteration",data:=.fields vs }:=fun vs=>Heap.get?_push_size _ rfl;rw[hh];have sb:=hH'.trans (a0e (h:=H) { cls:=.type "StopIteration",data:=.fields (#[.ref s.heap.objs.size,.none,.none,.none,.bool false,.none]++ownMembersOf (.type "StopIteration") []) });refine d8d (d8h (wpAny_throw (h _ _ (.ref s.heap.objs.size) (fun fs fl=>?_) sb)));exact{
  keep:=fun b o e' _=>sb b o e'
  slots:=fun b o e'=>⟨o.slots,sb b o e'⟩
  new:=a0s (by exact a1d (.l N0 N1) (.e N1 (.p N0 O1)) hsz)
  exc:=⟨_,_,hget _,rfl,rfl,rfl,rfl,rfl⟩
  trace:=fun q=>absurd rfl q }
theorem b9o{a:Addr}(hh:A.handled=none)(sg:Sub g s.heap)(o:OwnOK g s.heap a (.iter []))
 (h:∀s1 h' e a0,Step [a] s g s1 g→Sub g s1.heap→(∃o,s1.heap.get? a=some o∧b8l o)→(∀fs fl,Exc s1.heap h' fs e (.type "StopIteration") a0 .none fl)→Sub s1.heap h'→E (.ref e) { s1 with heap:=h' }) {Q:d8g→d8f→Prop} :
  d8i (model C.prog C.w) A (call (.builtin "next") [.ref a]) Q E s:=by
 obtain⟨hg,b,vs,i,l,hit,hl,hr,e⟩:=o;have hx:vs.toArray[i]?=none:=by
  have h1:l.length≤i:=List.drop_eq_nil_iff.mp e.symm;have h2:=hr.length
  simp; exact a2q (.l N0 N1) (.l N2 N1) (.e N0 N2) h1 h2
 refine Calls.call_function_entry b4d b0u b0h (b3w _) ?_;unfold Builtin.«next»;refine d8d (m:=someArgs "next" 1 2 _) (d8h ?_);refine d8d (wpAny_specialOf hit.typeIs slot_listiter_next.lookup ?_);obtain⟨ob,ho,hc,hdat⟩:=id hit;obtain⟨ol,hol,_,nl,hdl⟩:=a0f sg hl;refine d8d (m:=callSpecial? (.ref a) (Str.ofString "__next__")) (wpAny_callSpecial?_slot (name:=Str.ofString "__next__") hit.typeIs slot_listiter_next
  (wpAny_call_entry slot_listiter_next hit.typeIs entry_listiter_next ?_ (args_listiter_next _)))
 show d8i _ _ (field (.ref a) 0 >>= _) _ _ s;refine d8d (d8w ho hdat (x:=.ref b) rfl ?_);show d8i _ _ (if (Value.ref b==Value.none)=true then _ else _) _ _ s
 show d8i _ _ (field (.ref a) 1 >>= _) _ _ s;refine d8d (d8w ho hdat (x:=.int i 0) rfl ?_);show d8i _ _ (seqItems? (.ref b) >>= _) _ _ s;refine d8d (wpAny_seqItems hol hdl ?_);simp only[Int.toNat_natCast,hx];refine d8d (wpAny_rule (d8d (wpAny_setField ho hdat (by simp) ?_)))
 have hs:Heap.SameBut a s.heap (s.heap.update a (Obj.mapFields fun vs=>vs.setIfInBounds 0 .none)):=Heap.SameBut.update ..;obtain⟨x,sg'⟩:=Step.one (tk:=s.toks) sg hg hs;refine c6i (A:=A.in1.in1) (s:={ s with heap:=s.heap.update a (Obj.mapFields fun vs=>vs.setIfInBounds 0 .none) }) (by exact hh) fun h' e a0 hx hsub=>?_
 have hd':=Obj.data_mapFields hdat (·.setIfInBounds 0 Value.none);exact h _ h' e a0 x sg' ⟨_,Heap.get?_update_self _ ho (Obj.isFreed_of_fields hd'),by intro es ep q; rw[hd']at q; cases q⟩ hx hsub
inductive PvAt(C:Cfg)(k:Ck):Prop
 |mk:∀a o fd r p1 p2 p3 p4 p5 ls,C.mg "_parse_varint" = some (.ref a)→o.data=.func fd→(∀g,C.Amb g→g.get? a=some o∧g.CodeRec fd.code fd.qualname)→FnOK fd ["iterator"] ls (.Assign [.Name "b" p1] (.Call (.Name "next" p2) [.Name "iterator" p3] [] p4) p5::r)→fd.scope.names.lookup ("next" : Str)=some .globalImplicit→fd.scope.names.lookup ("iterator" : Str)=some .local→PvAt C k
theorem FsIn.of{al:List Addr}{fs:List Env}(f:∀e∈fs,e.scope.kind ≠ .module∧∃L,e.frame=some L∧g.get? L=none∧L∉al∧L∉C.TA∧∃o es ep,h.get? L=some o∧o.data=.dict es ep)(hk:∀b o,b∉al→h.get? b=some o→∃sl,h'.get? b=some { o with slots:=sl }):FsIn h' fs:=fun e he=>by
 obtain⟨k1,L,k2,k3,k4,k5,o,es,ep,k6,k7⟩:=f e he;obtain⟨sl,e1⟩:=hk L o k4 k6;exact⟨k1,L,_,es,ep,k2,e1,k7⟩
theorem FsIn.cons{h:Heap}{e:Env}{fs:List Env}(hk:e.scope.kind=.function)(hf:e.frame=some L)(h0:∃o es ep,h.get? L=some o∧o.data=.dict es ep)(f:FsIn h fs):FsIn h (e::fs):=fun e' he=>by
 rcases List.mem_cons.mp he with rfl|he
 ·exact⟨by rw[hk]; simp,L,h0.elim fun o h=>h.elim fun es h=>h.elim fun ep h=>⟨o,es,ep,hf,h⟩⟩
 ·exact f e' he
theorem FrOK.top{C:Cfg}{A:d8q}{g h:Heap}{al:List Addr}{fs:List Env}(f:FrOK C A env g h al)(hfs:A.frames=some fs)(hl:g.get? env.locals=none):∃e0 rr L0,fs=e0::rr∧e0.frame=env.frame∧env.frame=some L0∧∀b o,g.get? b=some o→b∉(e0::rr).filterMap (·.frame):=by
 obtain⟨fs',⟨f1,e0,rr,rfl,h0f⟩,f2⟩:=f;cases Option.some.inj (f1.symm.trans hfs);obtain⟨_,L0,k2,_⟩:=f2 e0 (.head _);refine⟨e0,rr,L0,rfl,h0f,h0f▸k2,fun b o e hm=>?_⟩;obtain⟨e',he',hfe⟩:=List.mem_filterMap.mp hm;obtain⟨_,L,q2,q3⟩:=f2 e' he';rw[hfe]at q2; cases q2
 rcases q3 with rfl|⟨q3,_⟩
 ·rw[hl]at e; cases e
 ·rw[q3]at e; cases e
theorem FsIn.nd{h:Heap}{fs:List Env}(f:FsIn h fs)(b:Addr)(o:Obj)(e:h.get? b=some o)(hn:b8l o):b∉fs.filterMap (·.frame):=fun hm=>by
 obtain⟨e',he',hfe⟩:=List.mem_filterMap.mp hm;obtain⟨_,L,o',es,ep,q2,q3,q4⟩:=f e' he';rw[hfe]at q2; cases q2;rw[q3]at e; cases e;exact hn es ep q4
theorem c8c{k:Ck}{al:List Addr}{ow:List OV}{a:Addr}{Q:d8g→d8f→Prop}(G:Good C k){pa:Addr}{po:Obj}{r:List Stmt}{p1 p2 p3 p4 p5:Pos}(hfo:po.data=.func fd)(hg:∀g,C.Amb g→g.get? pa=some po∧g.CodeRec fd.code fd.qualname)
 (ok:FnOK fd ["iterator"] ls (.Assign [.Name "b" p1] (.Call (.Name "next" p2) [.Name "iterator" p3] [] p4) p5::r)) (hkn:fd.scope.names.lookup ("next" : Str)=some .globalImplicit) (hki:fd.scope.names.lookup ("iterator" : Str)=some .local)
 (hd:A.depth+1≤recursionLimit) (hh:A.handled=none) (B:BRel C g s.heap al ow) (fb:FrB C A g s.heap al) (ha:a∈al) (q:OwnOK g s.heap a (.iter []))
 (hE:∀h1 h' e a0 T fs tk,A.frames=some fs→FsIn h1 fs→Sub g h1→(∀b o,b≠a→s.heap.get? b=some o→KeptIn h1 b o)→(∃o,h1.get? a=some o∧b8l o)→Exc h1 h' fs e (.type "StopIteration") a0 (.ref T) .none→E (.ref e) { s with heap:=h',toks:=tk }) :
  d8i (model C.prog C.w) A (call (.ref pa) [.ref a]) Q E s:=by
 obtain⟨ho,hcr⟩:=hg g B.amb;have T:=B.amb.T.keeps B.sub;refine wpAny_call (codeAny_call_cells (by omega) (B.sub _ _ ho) hfo T.nolimit ?_ ok.body (ok.bind [.ref a] rfl) ok.closure (fun x hx=>?_) (fun s1 x=>?_) ok.co ok.gen ok.kind)
 ·obtain⟨c,oc,fs,t,e1,e2,e3,e4⟩:=hcr; exact⟨c,oc,fs,t,e1,B.sub _ _ e2,e3,e4⟩
 ·simp at hx; subst hx; exact .inl hki
 ·obtain⟨fs,f1,f2⟩:=fb
  have hnew:∀b,s.heap.objs.size≤b→s.heap.get? b=none:=fun b hb=>a0s hb;have sb:Sub s.heap s1.heap:=x.toInCall.keep;obtain⟨h1,tk1,rfl⟩:=x.toInCall.same;have T1:=T.keeps sb;have hal:∃o,s.heap.get? a=some o:=q.alive B.sub;have haL:a≠s.heap.objs.size:=by obtain⟨o,ho⟩:=hal; exact Nat.ne_of_lt (Heap.lt_size ho)
  have q1:OwnOK g h1 a (.iter []):=q.keep (.refl g) (fun o ho=>.of (sb _ _ ho)) id;have hns:=x.toInCall.ns;have hit:(d8j fd s.heap.objs.size pa).kindOf "iterator" = some .local:=hki;have hv:bindL (d8j fd s.heap.objs.size pa).kindOf ([("iterator" : Str)].zip [Value.ref a]) (fun _=>none) ("iterator" : Str)=some (.ref a):=by
   rw[a7q hit _ _ (by simp)]; simp
  have nsd:∃o es ep,h1.get? s.heap.objs.size=some o∧o.data=.dict es ep:=hns.imp fun _=>Exists.imp fun _=>Exists.imp fun _ h=>⟨h.1,h.2.1⟩;have fs0:FsIn h1 (d8j fd s.heap.objs.size pa::fs):=FsIn.cons ok.kind rfl nsd (FsIn.of f2 fun b o _ e=>⟨o.slots,sb _ _ e⟩);refine d8m (wpAny_Assign_Name ?_ (a4f rfl));refine d8u (Name_function_global ok.kind hkn (loadGlobal_builtin (v:=.builtin "next") (by rw[show(d8j fd s.heap.objs.size pa).globals=d8o from ok.globals]; exact T1.g) (G.bn "next" (by decide)) (by rw[show(d8j fd s.heap.objs.size pa).builtins=builtinsNs from ok.builtins]; exact T1.b) (by rw[T1.builtins "next" (by decide)]; rfl) ?_) (by decide))
  refine a2u rfl (by simp) (spliced_more (wpAny_Name (d8z ok.kind hit hns hv (spliced_nil ?_)) (by decide)) rfl)
  refine b9o (A:=A.deeper _) (g:=g) (by exact hh) (B.sub.trans sb) q1 fun s2 h' e a0 st2 sg2 oa hx hsub=>?_
  obtain⟨h2,tk2,rfl⟩:=st2.same;have keep2:∀b o,b∉al→s.heap.get? b=some o→∃sl,h2.get? b=some { o with slots:=sl }:=fun b o hb e=>(st2.keep b o (by simpa using fun q:b=a=>hb (q▸ha)) (sb _ _ e)).imp fun _=>And.left
  have fs2:FsIn h2 (d8j fd s.heap.objs.size pa::fs):=FsIn.cons ok.kind rfl (by
    obtain⟨o,es,ep,k3,k4⟩:=nsd;obtain⟨sl,e1,_⟩:=st2.keep _ o (by simpa using Ne.symm haL) k3
    exact⟨_,es,ep,e1,k4⟩) (FsIn.of f2 keep2)
  have hfrA:(A.deeper (d8j fd s.heap.objs.size pa)).frames=some (d8j fd s.heap.objs.size pa::fs):=by show A.frames.map _=_; rw[f1]; rfl
  have X0:=hx (d8j fd s.heap.objs.size pa::fs) .none;refine a8o (s:={ s with heap:=h',toks:=tk2 }) (L:=s.heap.objs.size) hfrA (fs2.keep X0.slots) rfl X0 (.inl rfl) fun h3 T3 X3=>?_
  obtain⟨h4,_,e4⟩:=a4y h2 fun b=>(s.heap.get? b).isSome;have sb4:Sub h4 h2:=fun b o e'=>by
                                             rw[e4 b]at e'; split at e'; · exact e'
                                             · cases e'
  have in4:∀b o,s.heap.get? b=some o→h4.get? b=h2.get? b:=fun b o e'=>by rw[e4 b]; simp[e']
  have X4:Exc h4 h3 fs e (.type "StopIteration") a0 (.ref T3) .none:=X3.shrink sb4 fun b o e' hm=>by
   rw[List.filterMap_cons]at hm;have hm:b∈s.heap.objs.size::fs.filterMap (·.frame):=hm
   rcases List.mem_cons.mp hm with h|h
   ·rw[e4 b,h,a0s (Nat.le_refl _)]at e'; cases e'
   ·exact h
  refine hE h4 h3 e a0 T3 fs tk2 f1 (FsIn.of f2 fun b o hb e'=>(keep2 b o hb e').imp fun _ k=>(in4 b o e').trans k) (fun b o e'=>(in4 b o (B.sub _ _ e')).trans (sg2 _ _ e')) (fun b o hb e'=>?_) ?_ X4
  ·obtain⟨sl,e1,e2⟩:=st2.keep b o (by simpa using hb) (sb _ _ e')
   exact⟨sl,(in4 b o e').trans e1,e2⟩
  ·obtain⟨o,ho⟩:=hal
   obtain⟨o2,k1,k2⟩:=oa;exact⟨o2,(in4 a o ho).trans k1,k2⟩
end
end
section
section
variable {C:Cfg} {Γ:Ctx} {n:Nat} {hz:Bool} {k:Ck} {sc:SI}
theorem c4x:isSubtype (.type "StopIteration") (.type "StopIteration")=pure true:=by rw[isSubtype_type]; kernel_rfl
theorem c2o:isSubtype (.type "StopIteration") (.type "BaseException")=pure true:=by rw[isSubtype_type]; kernel_rfl
theorem c2f:isSubtype (.type ((Manifest.find? "StopIteration").elim "type" fun x=>x.metatype)) (.type "tuple")=pure false:=by
 first|(rw[isSubtype_type]; kernel_rfl)|kernel_rfl
theorem b4z{A:d8q}{env:Env}{g:Heap}{s:d8f}{al:List Addr}{st:St}{Eh:d8g→d8f→Prop}{pos:Pos}{i:Nat}(H:Here C sc hz n A env g s al st) :
  ∀(pre:List Nat) (l:List Expr) (Q':List d8g→d8f→Prop),c0v sc i pre l=true→(∀j∈pre,st.get j ≠ .undef)→
   (∀(z:Str) (p1 p2 p3:Pos) Q'',nmv sc z i=true→d8i (model C.prog C.w) A (eval (.Call (.Name "_parse_varint" p1) [.Name z p2] [] p3) env) Q'' Eh s)→d8i (model C.prog C.w) A (spliced (d8x pos (d8s (c1p pre l) env))) Q' Eh s
 |[]=>fun l Q' hz' hu h=>spliced_more (h _ _ _ _ _ hz') rfl
 |j::pre=>fun l Q' hz' hu h=>by
  obtain⟨hi,hd,hcd⟩:=a4b (a0b hz');refine spliced_more (a0z H.eok H.rel hi (hu j (.head _)) hd hcd fun v hv=>?_) rfl;exact b4z H pre l.tail _ (a0a hz') (fun i hi=>hu i (List.mem_cons_of_mem _ hi)) h
theorem d2p{e:d8g} :(A.mark (some e)).handled=some e:=rfl
theorem d2u (Gd:Good C k) (P:PvAt C k) {pre:List Nat} {l:List Expr} {hb:List Stmt} {h:Ss} {ep lp rp hp pos:Pos} (hn:0<n) (he:a5u sc "StopIteration" = true) (hy:a5u sc "_parse_varint" = true) (hpre:c0v sc i pre l=true) (hcons:∃a r,hb=a::r) (hH:SSs C Γ sc n false h hb) :
  SS C Γ sc n true (.tryStop pre i h) (.Try [.Return (some (.List (c1p pre l) lp)) rp] [.ExceptHandler (some (.Name "StopIteration" ep)) none hb hp] [] [] pos):=fun A env g s al st_ Eh Q Q' H hw kk=>by
 obtain⟨h0,hr,rfl⟩:=hcons;obtain⟨hzs,hpr,hw⟩:=hw
 split at hw
 case h_2=>exact hw.elim
 rename_i j ej
 split at hw
 case h_2=>exact hw.elim
 rename_i hl;have hh:A.handled=none:=H.ok.none hzs;obtain⟨pa,po,fd,r,p1,p2,p3,p4,p5,ls,hmg,hfo,hg,ok,hkn,hki⟩:=P;have hyk:=(a0u hy).1;have hek:=(a0u he).1;have hpr':∀j∈pre,st_.get j ≠ .undef:=fun j hj q=>by
  obtain⟨v,e1,e2⟩:=hpr j hj;rw[q]at e1; subst e1; exact e2
 rw[arm_exec_Try];refine d8d (d8r (wpAny_tryStmt_except ?_));refine d8m (wpAny_Return_some (List_ (b4z H pre l _ hpre hpr' fun z p1' p2' p3' Q'' hzi=>?_)));obtain⟨hiz,hdz,hcz⟩:=a4b hzi;refine d8u (a1f H hyk (by decide) hmg (a5g hfo ⟨_,_,rfl,rfl⟩ ?_))
 refine spliced_more (a0z H.eok H.rel hiz (by rw[ej]; simp) hdz hcz fun v hv=>spliced_nil ⟨H.rel.sub _ _ (hg _ H.rel.amb).1,?_⟩) rfl
 rw[ej]at hv;obtain⟨a,rfl,ha,q⟩:=a5c H.rel hv hl;have ham:=List.mem_of_getElem? ha;refine c8c Gd hfo hg ok hkn hki (by have:=H.ok.depth; exact a2q (.l (.p N0 O1) N1) (.t (.k 0) N2) (.l (.p N0 N2) N1) hn this) hh H.rel.b (H.fr.b H.rel) ham q fun h1 h' x a0 T fs tk hfs fin sg1 far oa X=>?_
 obtain⟨e0,rr,L0,rfl,h0f,hf0,gfr⟩:=FrOK.top H.fr hfs H.rel.pgl;refine b1l (s:={ s with heap:=h',toks:=tk }) h0f hfs (fin.keep X.slots) hf0 X (.inr rfl) fun h2 T2 X2=>?_
 refine a3j (s:={ s with heap:=h2,toks:=tk }) X2 (by simp) fun h3 X3=>?_
 obtain⟨o2,hoa,hna⟩:=oa;obtain⟨hga,-⟩:=q;have sg3:Sub g h3:=fun b o e=>X3.keep b o (sg1 _ _ e) (gfr b o e);refine wpAny_handleBy_builtin c2o c2f c4x ?_;have T3:=H.rel.amb.T.keeps sg3;refine Name_function_global H.eok.kind (by rw[H.eok.kindOf]; exact hek) (loadGlobal_builtin (v:=.type "StopIteration") (by rw[H.eok.globals]; exact T3.g) (Gd.bn "StopIteration" (by decide)) (by rw[H.eok.builtins]; exact T3.b) (by rw[T3.builtins "StopIteration" (by decide)]; rfl) ?_) (by decide)
 obtain⟨oe3,vs3,hoe3,hce3,_⟩:=X3.exc;refine⟨rfl,⟨oe3,hoe3,hce3⟩,?_⟩;refine a3j (s:={ s with heap:=h3,toks:=tk }) X3 (by simp) fun h4 X4=>?_
 have sg4:Sub g h4:=fun b o e=>X4.keep b o (sg1 _ _ e) (gfr b o e);have dfr:=fin.nd;obtain⟨oe,vs,hoe,hce,hde,_,_,hv2⟩:=X4.exc;obtain⟨g',gs1,gs2,gx,go,gnd⟩:=a7c sg4 x fun o e1 e2=>by rw[hoe]at e1; cases e1; rw[hce]at e2; simp at e2
 have xnew:s.heap.get? x=none:=by
  cases q:s.heap.get? x with
  |none=>rfl
  |some o=>
   by_cases hxa:x=a
   ·have:=X4.new; rw[hxa,hoa]at this; cases this
   ·obtain⟨_,e1,_⟩:=far x o hxa q
    have:=X4.new; rw[e1]at this; cases this
 have st:Step [a] s g { s with heap:=h4,toks:=tk } g':={
  same:=⟨h4,tk,rfl⟩
  sub:=gs1
  keep:=fun b o hb e=>by
   obtain⟨sl,e1,e2⟩:=far b o (by simpa using hb) e
   obtain⟨sl2,e3⟩:=X4.slots b _ e1;refine⟨sl2,e3,fun hn=>?_⟩;have e4:=X4.keep b _ e1 (dfr b _ e1 hn);rw[e3]at e4
   have:=congrArg Obj.slots (Option.some.inj e4)
   exact this.trans (e2 hn)
  low:=fun _=>gs2
  fresh:=fun b o hb e eg=>(go b fun q=>by rw[q,xnew]at e; cases e).trans eg
  nd:=gnd }
 have hxa:x≠a:=fun q=>by
  have:=X4.new; rw[q,hoa]at this; cases this
 have dead:OwnOK g' h4 a .dead:=⟨(go a (Ne.symm hxa)).trans hga,o2,X4.keep a o2 hoa (dfr a o2 hoa hna),hna⟩;have R2:=H.rel.turn st gs2 ha (fun b hb=>by simpa using hb) dead
 have gxx:g'.get? x=some oe:=gx.trans hoe;have FR2:FrOK C A env g' h4 al:=H.fr.step st fun b hb=>.inr (.inl (by simp at hb; subst hb; exact ham))
 have R3:Rel C sc env g' h4 al { st_.setOwn j .dead with hz:=false }:={ R2 with }
 have H3:Here C sc false n (A.mark (some (.ref x))) env g' { s with heap:=h4,toks:=tk } al { st_.setOwn j .dead with hz:=false }:=
  ⟨⟨H.ok.depth,H.ok.units,(fun q=>by cases q),.inr ⟨x,oe,vs,rfl,gxx,hde,hv2⟩⟩,(fun q=>by cases q),H.eok,R3,FR2⟩
 refine hH _ env g' _ al _ _ _ _ H3 hw fun fl f al5 g5 s5 st5 a5 hf5 hq5=>?_;refine kk fl f al5 g5 s5 { st5 with hz:=true } ⟨a5.pre,fun b hb=>?_,hzs.symm,?_,?_⟩ hf5 hq5
 ·refine(a5.new b hb).imp id fun q=>?_
  cases q2:s.heap.get? b with
  |none=>rfl
  |some o=>
   by_cases hba:b=a
   ·subst hba
    have q:h4.get? b=none:=q;rw[X4.keep b o2 hoa (dfr b o2 hoa hna)]at q; cases q
   ·obtain⟨_,e1⟩:=(st.keep b o (by simpa using hba) q2).alive
    have q:h4.get? b=none:=q;have e1:h4.get? b=_:=e1;rw[q]at e1; cases e1
 ·have R5:=a5.here.rel
  exact⟨⟨H.ok.depth,H.ok.units,fun _=>hh,.inl hh⟩,fun _=>rfl,H.eok,{ R5 with },a5.here.fr⟩
 ·refine(st.mono fun b hb=>?_).tr a5.step
  simp at hb; subst hb;exact List.mem_append_right _ (List.mem_append_left _ ham)
end
end
section
theorem a5p:entryFor table "dict_itemiterator.__iter__" = some Builtin.«dict_keyiterator.__iter__»:=entryFor_alias (id':="dict_keyiterator.__iter__") (by kernel_rfl) rfl (by decide +kernel) (by kernel_rfl)
section
variable {C:Cfg} {A:d8q} {E:d8g→d8f→Prop} {s:d8f} {g:Heap} {K:Type} [DecidableEq K] {knd:KeyKind C.prog C.w K}
theorem a9w{it d:Addr}{i ep:Nat}{kvs:List (K×d8g)}{ok ov:d8g}{Q:Option d8g→d8f→Prop}(hk:HOK A g)(sg:Sub g s.heap)(hg:g.get? it=none)(hit:IsItemIter s.heap it d i kvs.length ep ok ov)
 (hm:s.heap.DictAt knd d kvs ep) (hx:kvs[i]?=none)
 (hQ:∀h',Heap.ExtBut it s.heap h'→Q none { s with heap:=h' }):d8i (model C.prog C.w) A (pyNext (.ref it)) Q E s:=by
 obtain⟨od,es,hod,hcd,hdd,hk',hpr,hn⟩:=id hm;have hT:s.TypeIs (.ref it) "dict_itemiterator" :=⟨_,hit,rfl⟩;unfold pyNext;refine d8d (wpAny_attempt (wpAny_callSpecial?_slot (name:=Str.ofString "__next__") hT F.slot_dict_itemiterator_next
  (wpAny_call_entry F.slot_dict_itemiterator_next hT F.entry_dict_itemiterator_next ?_ (F.args_dict_itemiterator_next_1 _))))
 refine d8d (d8h ?_);refine d8d ?_;refine d8d ?_;refine d8d (wpAny_typeNameOfWhole_itemiter hT (d8h ?_));refine d8d (wpAny_fieldsOf hit rfl ?_);have hown:Builtin.Dict_items.ownsTuple "dict_itemiterator" = true:=by decide
 show d8i _ _ (if (Value.ref d==Value.none)=true then _ else _) _ _ s
 refine d8d (d8h ?_);refine d8d (wpAny_dictEntries hod hdd ?_);have hsz:es.size=kvs.length:=by rw[←hpr.length]; simp
 rw[if_neg (by rw[hsz]; simp)]
 refine d8d (d8h ?_);refine d8d (wpAny_dictEpoch hod hdd ?_);rw[if_neg (by simp)]
 refine d8h ?_;have hge:es.size≤i:=by rw[hsz]; simpa using hx
 dsimp only;rw[show(if (i:Int)<0 then none else es[(i:Int).toNat]?)=none from(if_neg (Int.not_lt.mpr (Int.natCast_nonneg i))).trans ((congrArg (es[·]?) (Int.toNat_natCast i)).trans (Array.getElem?_eq_none hge))]
 refine d8d ?_;refine d8d (wpAny_typeNameOfWhole_itemiter hT (d8h ?_));show d8i _ _ (setField (.ref it) 2 .none >>= _) _ _ s;refine d8d (wpAny_setField hit rfl (by simp) ?_)
 have hs:Heap.SameBut it s.heap (s.heap.update it (Obj.mapFields fun vs=>vs.setIfInBounds 2 .none)):=Heap.SameBut.update ..;obtain⟨_,sg'⟩:=Step.one (tk:=s.toks) sg hg hs;refine a7x (A:=A.in1) hk sg' fun h' e hsub ⟨oe,hoe,hce⟩=>?_;refine d8d (wpAny_isInstance (T:="StopIteration") (b:=true) ⟨oe,hoe,hce⟩ isSubtype_stop ?_);exact d8h (hQ _ fun b o hb e=>hsub _ _ ((hs.2 b hb).trans e))
theorem a8k{it d:Addr}{i n ep:Nat}{ok ov:d8g}{Q:d8g→d8f→Prop}(hit:IsItemIter s.heap it d i n ep ok ov)(h:Q (.ref it) s) :
  d8i (model C.prog C.w) A (pyIter (.ref it)) Q E s:=by
 have hT:s.TypeIs (.ref it) "dict_itemiterator" :=⟨_,hit,rfl⟩;refine wpAny_pyIter_slot hT F.slot_dict_itemiterator_iter (wpAny_call_entry F.slot_dict_itemiterator_iter hT a5p ?_ (F.args_dict_itemiterator_iter_1 _));show d8i _ _ (ret (.ref it)) _ _ s;exact d8h ⟨_,rfl, "dict_itemiterator",_,hT,F.slot_dict_itemiterator_next.lookup,h⟩
theorem d5e{kx vx target iter:Expr}{pos:Pos}{D:Addr}(I:Nat→d8f→Prop)
 (turn:∀n s,I n s→d8i (model C.prog C.w) A (pyNext it) (fun r s₁=>match r with
 |none=>R (.ok .next) s₁
 |some v=>d8i (model C.prog C.w) A (letOwnedTupleGo target it v) (fun _ s₁=>d8i (model C.prog C.w) A (assign target env v) (fun _ s₂=>
 d8i (model C.prog C.w) A (eval kx env) (fun kv s₄=>d8i (model C.prog C.w) A (eval vx env) (fun vv s₅=>
 d8i (model C.prog C.w) A (dictSet D kv vv) (fun _ s₆=>∃m,m<n∧I m s₆) (notedBy (model C.prog C.w) A env fun e s'=>R (.error e) s') s₅) (notedBy (model C.prog C.w) A env fun e s'=>R (.error e) s') s₄) (notedBy (model C.prog C.w) A env fun e s'=>R (.error e) s') s₂)
 (notedBy (model C.prog C.w) A env fun e s'=>R (.error e) s') s₁) (notedBy (model C.prog C.w) A env fun e s'=>R (.error e) s') s₁) (notedBy (model C.prog C.w) A env fun e s'=>R (.error e) s') s)
 (n:Nat) (h:I n s) :
  codeAny (model C.prog C.w) A (.compLoop (.DictComp kx vx [⟨target,iter,[],0⟩] scope pos) 0 it (.ref D) env) R s:=by
 refine codeAny_loop rfl I (fun n s hI=>?_) n h;show d8i _ A ((compTurn (.DictComp kx vx [⟨target,iter,[],0⟩] scope pos) 0 it (.ref D) env).onRaise (fun x=>do noteFrame x env; theTreesLotGoes x)) _ _ s
 refine wpAny_noted ?_;rw[compTurn_dict];refine d8d (d8r (d8d (d8p (turn n s hI) (fun r s₁ h₁=>?_) fun _ _ h'=>h')));cases r with
 |none=>exact d8h h₁
 |some v=>
  refine d8d (d8p h₁ (fun _ s₁ h₁=>?_) fun _ _ h'=>h');refine d8d (d8p h₁ (fun _ s₂ h₂=>?_) fun _ _ h'=>h');refine d8d (d8h ?_);exact d8d (d8d (d8p h₂ (fun kv s₄ h₄=>d8d (d8l (d8p h₄ (fun vv s₅ h₅=>d8d (d8r (d8l (d8p h₅ (fun _ s₆ h₆=>d8h ⟨rfl,h₆⟩) fun _ _ h'=>h')))) fun _ _ h'=>h'))) fun _ _ h'=>h'))
end
end
section
noncomputable def a3w(D:List (d8e×d8e)):List (d8e×d8e):=D.foldl (fun acc p=>PyProof.V.putD p.2 p.1 acc) []
theorem b4c{p:d8e×d8e}(h:D[i]?=some p):a3w (D.take (i+1))=PyProof.V.putD p.2 p.1 (a3w (D.take i)):=by
 unfold a3w;rw[List.take_succ,h,List.foldl_append]; rfl
inductive TokAt(C:Cfg):Prop
 |mk:∀d D,C.mg "EXACT_TOKEN_TYPES" = some (.ref d)→(∀g,C.Amb g→StrTab C.prog C.w g d D)→(∀p∈D,∃x j,p=(.str x,.int j))→D.length≤1000→C.toks=a3w D→TokAt C
section
variable {C:Cfg} {Γ:Ctx} {n:Nat} {hz:Bool} {k:Ck} {sc:SI}
theorem b8f{E:d8g→d8f→Prop}{s:d8f}{cenv:Env}{c d:Str}{p1 p2 pos:Pos}{x1:Nat}{T:Addr}{u v:d8g}{j:Int}(hk:HOK A g)(sg:Sub g s.heap)
 (hT:s.heap.get? T=some { cls:=.type "tuple",data:=.seq #[u,v] }) (ru:RD s.heap u (.str x)) (rv:RD s.heap v (.int j)) (hn:s.heap.Ns cenv.locals m) (hc:cenv.kindOf c=some .local) (hd:cenv.kindOf d=some .local)
 (hp:(cenv.scope.kind == .class||(cenv.scope.kind == .module&&cenv.locals != cenv.globals))=false)
 (h:∀h' tk t1 t2,h'.Ns cenv.locals (fun y=>if y=d then some (.int j t2)else if y=c then some (.str x t1)else m y)→(∀b o,b≠cenv.locals→s.heap.get? b=some o→h'.get? b=some o)→Q () { s with heap:=h',toks:=tk }) :
  d8i (model C.prog C.w) A (assign (.Tuple [.Name c p1,.Name d p2] x1 pos) cenv (.ref T)) Q E s:=by
 have rT:RD s.heap (.ref T) (.tuple [.str x,.int j]):=RD.tuple (vs:=[u,v]) ⟨_,hT,rfl,0,rfl⟩ (.cons ru (.one rv));rw[arm_assign_Tuple];refine d8d (d8r ?_);unfold unpack;have l1:(assignEach [Expr.Name c p1,Expr.Name d p2] cenv).length=2:=rfl;have l2:(assignEach [Expr.Name c p1,Expr.Name d p2] cenv).findIdx? (·.1)=none:=rfl;rw[l1,l2];refine d8d (d8l (a7a (g:=s.heap) (hk.mono sg) (.refl _) (d:=.tuple [.str x,.int j]) (ds:=[.str x,.int j]) rT rfl fun vs h1 sb r=>?_));obtain⟨v1,v2,rfl⟩:∃v1 v2,vs=[v1,v2]:=by
  have:=r.length
  exact two this
 obtain⟨_,_,e,r1,r2⟩:=r.cases;cases e;obtain⟨_,_,e,r2,_⟩:=r2.cases;cases e;obtain⟨t1,rfl⟩:=r1.strE;obtain⟨t2,rfl⟩:=r2.intE;show d8i _ _ (assignInOrder [assign (.Name c p1) cenv,assign (.Name d p2) cenv] [.str x t1,.int j t2]) Q E _;refine assignInOrder_cons (wpAny_assign_Name (wpAny_storeName_local hc (hn.keeps sb) (fun h2 hn2 hs2=>?_) hp));refine assignInOrder_cons (wpAny_assign_Name (wpAny_storeName_local hd hn2 (fun h3 hn3 hs3=>?_) hp));refine assignInOrder_nil (h h3 _ t1 t2 hn3 fun b o hb e=>hs3.extBut b o hb (hs2.extBut b o hb (sb b o e)))
end
end
section
section
variable {C:Cfg} {Γ:Ctx} {n:Nat} {hz:Bool} {k:Ck} {sc:SI}
theorem d2g(hf:PyProof.V.FlatPairs PyData.str kvs D)(hD:∀p∈D,∃x j,p=(PyData.str x,PyData.int j)){k:Str}(h:kvs[i]?=some (k,v)):∃j,D[i]?=some (.str k,.int j)∧PyProof.V.Flat v (.int j):=by
 obtain⟨dv,h1,h2⟩:=hf.at h;obtain⟨x,j,e⟩:=hD _ (List.mem_of_getElem? h1);cases e;exact⟨j,h1,h2⟩
inductive TkI(C:Cfg)(s:d8f)(kvs:List (Str×d8g))(It dt Dd L:Addr)(ep:Nat)(D:List (d8e×d8e)):Nat→d8f→Prop
 |mk:∀q h' tk mm kv2 i ok ov,q+i=kvs.length+1→i≤kvs.length→IsItemIter h' It dt i kvs.length ep ok ov→h'.DictOf (intKind C.prog C.w) Dd kv2→PyProof.V.FlatPairs PyData.int kv2 (a3w (D.take i))→kv2.length≤i→
   h'.Ns L mm→(∀b o,b≠It→b≠Dd→b≠L→s.heap.get? b=some o→h'.get? b=some o)→TkI C s kvs It dt Dd L ep D q { s with heap:=h',toks:=tk }
theorem c2x{E:d8g→d8f→Prop}{s:d8f}{cenv:Env}{c d:Str}{p1 p2 pos pb pn cp:Pos}{x1:Nat}{iter:Expr}{dt It Dd:Addr}{ep:Nat} 
 (hk:HOK A g) (sg:Sub g s.heap) (hgI:g.get? It=none)
 (hc:cenv.kindOf c=some .local) (hd:cenv.kindOf d=some .local) (hcd:c≠d) (hp:(cenv.scope.kind == .class||(cenv.scope.kind == .module&&cenv.locals != cenv.globals))=false) (hfun:cenv.scope.kind=.function)
 (dc:(c==("__debug__" : Str))=false) (dd:(d==("__debug__" : Str))=false)
 (h0:∀b o,g.get? b=some o→b≠It∧b≠Dd∧b≠cenv.locals) (hIL:It≠cenv.locals) (hID:It≠Dd) (hDL:Dd≠cenv.locals)
 (hat:g.DictAt (d8t C.prog C.w) dt kvs ep) (hf:PyProof.V.FlatPairs PyData.str kvs D) (hD:∀p∈D,∃x j,p=(PyData.str x,PyData.int j)) (hlen:D.length≤1000)
 (hit:IsItemIter s.heap It dt 0 kvs.length ep .none .none) (hacc:s.heap.DictOf (intKind C.prog C.w) Dd []) (hn:s.heap.Ns cenv.locals m)
 (hR:∀h' tk m' kv2,h'.Ns cenv.locals m'→h'.DictOf (intKind C.prog C.w) Dd kv2→PyProof.V.FlatPairs PyData.int kv2 (a3w D)→(∀b o,b≠It→b≠Dd→b≠cenv.locals→s.heap.get? b=some o→h'.get? b=some o)→R (.ok .next) { s with heap:=h',toks:=tk }) :
  codeAny (model C.prog C.w) A (.compLoop (.DictComp (.Name d pn) (.Name c pb) [⟨.Tuple [.Name c p1,.Name d p2] x1 pos,iter,[],0⟩] scope cp) 0 (.ref It) (.ref Dd) cenv) R s:=by
 refine d5e (TkI C s kvs It dt Dd cenv.locals ep D) ?_ (kvs.length+1) (.mk _ s.heap s.toks m [] 0 _ _ rfl (Nat.zero_le _) hit hacc .nil (Nat.le_refl _) hn fun _ _ _ _ _ e=>e)
 rintro q s' ⟨h',tk,mm,kv2,i,ok,ov,hq,hi,hit',hacc',hf2,hl2,hn',hk'⟩
 have hlD:kvs.length=D.length:=hf.length.symm;have sg':Sub g h':=fun b o e=>hk' b o (h0 b o e).1 (h0 b o e).2.1 (h0 b o e).2.2 (sg b o e);have hat':h'.DictAt (d8t C.prog C.w) dt kvs ep:=hat.keep sg'
 by_cases hlt:i<kvs.length
 ·obtain⟨kx,v,hx⟩:∃kx v,kvs[i]?=some (kx,v):=⟨kvs[i].1,kvs[i].2,List.getElem?_eq_getElem hlt⟩
  obtain⟨j,hDi,hfl⟩:=d2g hf hD hx;refine wpAny_pyNext_items_item (s:={ s with heap:=h',toks:=tk }) hit' hat' hx fun key h1 hkey hout hT hsz hk1=>?_
  refine wpAny_letOwnedTupleGo_items (s:={ s with heap:=h1,toks:=tk }) hout fun h2 hit2 hs2=>?_
  have hk1':∀b o,b≠It→h'.get? b=some o→h2.get? b=some o:=fun b o hb e=>hs2.extBut b o hb (hk1 b o hb e);have hTI:h'.objs.size≠It:=Nat.ne_of_gt (Heap.lt_size hit');have hT2:=hs2.extBut _ _ hTI hT;obtain⟨t0,rfl⟩:=Value.isStrOf_shape hkey;have rv:RD h2 v (.int j):=⟨_,hfl h2⟩;refine b8f (g:=g) hk (fun b o e=>hk1' b o (h0 b o e).1 (sg' b o e)) hT2 (RD.str kx t0) rv (hn'.at' fun o e=>hk1' _ o (Ne.symm hIL) e) hc hd hp fun h3 tk3 t1 t2 hn3 hk3=>?_;refine wpAny_Name (d8z hfun hd hn3 (v:=.int j t2) (by simp) ?_) dd
  refine wpAny_Name (d8z hfun hc hn3 (v:=.str kx t1) (by simp[hcd]) ?_) dc
  refine wpAny_dictSet_pairs (knd:=intKind C.prog C.w) (k:=j) (intKind_is C.prog C.w j t2) (hacc'.at fun o e=>hk3 _ o hDL (hk1' _ o (Ne.symm hID) e)) (fun h4 hl4 hs4=>?_) (by have:d8y=_:=sizeLine_eq; omega)
  refine⟨kvs.length-i,by exact a2q (.t (.s N0 N1) N2) (.e (.p N2 N1) (.p N0 O1)) (.l N1 N0) hq hi,.mk _ h4 _ _ (stored kv2 j (.str kx t1)) (i+1) (.str kx t0) v (by exact a1d (.e (.p (.s N0 N1) (.p N1 O1)) (.p N0 O1)) (.l N1 N0) hi) hlt ?_ hl4 ?_ ?_ (hn3.sameBut hs4 (Ne.symm hDL)) fun b o b1 b2 b3 e=>hs4.extBut b o b2 (hk3 b o b3 (hk1' b o b1 (hk' b o b1 b2 b3 e)))⟩
  ·exact hs4.extBut _ _ hID (hk3 _ _ hIL hit2)
  ·rw[b4c hDi]
   exact PyProof.V.FlatPairs.stored PyProof.V.same_int hf2 _ (fun h=>.str _ _)
  ·have:=stored_length_le kv2 j (Value.str kx t1); exact a2q (.l N0 (.p N1 O1)) (.l N2 N1) (.l N0 (.p N2 O1)) hl2 this
 ·have hin:i=kvs.length:=by exact a1s (.e N0 N1) (.l N0 N1) (.n (.t N0 N1)) hi hlt
  subst hin;refine a9w (g:=g) hk sg' hgI hit' hat' (by simp) fun h1 he=>?_
  rw[hlD,List.take_length]at hf2;exact hR h1 tk mm kv2 (hn'.extBut he (Ne.symm hIL)) (hacc'.extBut he (Ne.symm hID)) hf2 fun b o b1 b2 b3 e=>he b o b1 (hk' b o b1 b2 b3 e)
end
end
section
section
variable {C:Cfg} {Γ:Ctx} {n:Nat} {hz:Bool} {k:Ck} {sc:SI}
theorem c9p(P:TokAt C){x1:Nat}{y:Str}{yp ap0 bp0 cp0 dp0 tp ttp ap pos cp spos:Pos}(so:SIOK sc)(hck:b9y sc i y scope=true)(hln:(ap.endLine==pos.line)=true) :
  SS C Γ sc n hz (.toks i) (.Assign [.Name y yp] (.DictComp (.Name "number" ap0) (.Name "sign" bp0) [⟨.Tuple [.Name "sign" cp0,.Name "number" dp0] x1 tp,.Call (.Attribute (.Name "EXACT_TOKEN_TYPES" ttp) "items" ap) [] [] pos,[],0⟩] scope cp) spos):=fun A env g s al st Eh Q Q' H hw kk=>by
 have hy:=a0b hck; have hgl:=a0b (a0a hck);have k1:=a0a (a0a hck);have hkind:scope.kind=ScopeKind.function:=beq_iff_eq.mp (a0b k1);have hnofc:=a0b (a0a k1);have hnum:scope.names.lookup ("number" : Str)=some NameKind.local:=beq_iff_eq.mp (a0b (a0a (a0a k1)));have hsign:scope.names.lookup ("sign" : Str)=some NameKind.local:=beq_iff_eq.mp (a0b (a0a (a0a (a0a k1))));have hnd:(scope.names.map (·.1)).Nodup:=of_decide_eq_true (a0b (a0a (a0a (a0a (a0a k1)))));have hyc:sc.names.lookup y=some NameKind.cell:=beq_iff_eq.mp (a0a (a0a (a0a (a0a (a0a k1)))));obtain⟨dt,D,hmg,hT,hDs,hlen,htoks⟩:=P;have hgk:=(a0u hgl).1;have nofree:∀p∈scope.names,p.2≠NameKind.free:=fun p hp=>by
  have:=List.all_eq_true.mp hnofc p hp
  simp only[Bool.and_eq_true,bne_iff_ne]at this; exact this.1
 have nocell:∀p∈scope.names,p.2≠NameKind.cell:=fun p hp=>by
  have:=List.all_eq_true.mp hnofc p hp
  simp only[Bool.and_eq_true,bne_iff_ne]at this; exact this.2
 have hnames:∀p∈scope.names,p.2=NameKind.local→scope.names.lookup p.1=some .local:=fun p hp e=>by
  have:=a0p (x:=p.1) (a:=p.2) hnd hp
  rw[this,e]
 have hw:Q .next (st.set i (.tab C.toks)):=hw;obtain⟨lo,kvs,hdo,hf⟩:=hT g H.rel.amb;obtain⟨ep,hat⟩:=hdo.dictAt;have hat1:=hat.keep H.rel.sub;have hdo1:s.heap.DictOf (d8t C.prog C.w) dt kvs:=hdo.keep H.rel.sub;refine wpAny_Assign_Name ?_ ?_
 rotate_left
 ·show swapsWith _ _ _ _=pure false
  have e:(env.kindOf y==some NameKind.local)=false:=by rw[H.eok.kindOf,hyc]; rfl
  dsimp only[swapsWith];simp only[e,Bool.and_false,Bool.false_and]
 rw[arm_eval_DictComp];refine wpAny_comprehension_free (use:=none) rfl (fun _=>rfl) (closureFor_none nofree) hkind hnames ?_;show d8i _ _ (eval (.Call (.Attribute (.Name "EXACT_TOKEN_TYPES" ttp) "items" ap) [] [] pos) env) _ _ _;refine wpAny_Call_method_lateS (a1e (o:=.Name "EXACT_TOKEN_TYPES" ttp) rfl) (few rfl (by simp)) hln (a1f H hgk (by decide) hmg ?_)
 refine⟨"dict", "dict.items",F.plainAttrs_dict,F.slot_dict_items,F.type_dict_items,hdo1.typeIs,?_,a1o rfl (spliced_nil ?_)⟩
 ·intro b hb
  cases hb;obtain⟨o,es,ep',ho,hx,_⟩:=hdo1;exact⟨o,ho,hx.2.1⟩
 show d8i _ _ (call (.builtin "dict.items") [.ref dt]) _ _ _;refine call_meetsIn F.slot_dict_items hdo1.typeIs F.entry_dict_items (F.args_dict_items_1 _) (meets_dict_items (d8t C.prog C.w) dt lo) ⟨⟨kvs,hdo1⟩,?_⟩;have hV:(s.heap.push { cls:=.type "dict_items",data:=.fields #[.ref dt] }).IsItemsView s.heap.objs.size dt:=⟨_,Heap.get?_push_size _ rfl,rfl,rfl⟩;have hat2:=hat1.keep (a0e (h:=s.heap) { cls:=.type "dict_items",data:=.fields #[.ref dt] });have hV1:Sub s.heap (s.heap.push { cls:=.type "dict_items",data:=.fields #[.ref dt] }):=a0e _;generalize hh1:s.heap.push { cls:=.type "dict_items",data:=.fields #[.ref dt] }=h1 at hV hat2 hV1 ⊢;have z1:h1.objs.size=s.heap.objs.size+1:=by rw[←hh1,Heap.size_push]
 refine wpAny_pyIter_items (s:={ s with heap:=h1 }) hV hat2 ?_
 have hI:(h1.push { cls:=.type "dict_itemiterator",data:=.fields #[.none,.bool false,.ref dt,.int 0 0,.int kvs.length 0,.int ep 0,.none,.none] }).get? h1.objs.size=some { cls:=.type "dict_itemiterator",data:=.fields #[.none,.bool false,.ref dt,.int 0 0,.int kvs.length 0,.int ep 0,.none,.none] }:=Heap.get?_push_size _ rfl;have hV2:Sub h1 (h1.push { cls:=.type "dict_itemiterator",data:=.fields #[.none,.bool false,.ref dt,.int 0 0,.int kvs.length 0,.int ep 0,.none,.none] }):=a0e _;generalize hh2:h1.push { cls:=.type "dict_itemiterator",data:=.fields #[.none,.bool false,.ref dt,.int 0 0,.int kvs.length 0,.int ep 0,.none,.none] }=h2 at hI hV2 ⊢;have z2:h2.objs.size=h1.objs.size+1:=by rw[←hh2,Heap.size_push]
 refine wpAny_newObj_type ?_;have hDd:=Heap.DictOf.new (knd:=intKind C.prog C.w) h2;have hV3:Sub h2 (h2.push { cls:=.type "dict",dict:=none,data:=.dict #[] }):=a0e _;show d8i _ _ _ _ _ { s with heap:=h2.push { cls:=.type "dict",dict:=none,data:=.dict #[] } }
 generalize hh3:h2.push { cls:=.type "dict",dict:=none,data:=.dict #[] }=h3 at hDd hV3 ⊢;have z3:h3.objs.size=h2.objs.size+1:=by rw[←hh3,Heap.size_push]
 refine wpAny_newFunctionEnv (s:={ s with heap:=h3 }) nocell (by intro y hy; simp at hy) (fun h4 hn4 hs4=>?_) hkind
 dsimp only at hn4 hs4;have hV4:Sub h3 h4:=fun b o e=>hs4.extBut b o (Nat.ne_of_lt (Heap.lt_size e)) (Heap.get?_push_of_some _ e);have alive:∀b o,s.heap.get? b=some o→b≠h1.objs.size∧b≠h2.objs.size∧b≠h3.objs.size:=fun b o e=>by
  have:@LT.lt Nat _ b s.heap.objs.size:=Heap.lt_size e
  exact⟨Nat.ne_of_lt (by exact a2q (.t N0 N1) (.e N1 (.p N2 O1)) (.t N0 N2) z1 this),Nat.ne_of_lt (by exact c3r (.t N0 N1) (.e N2 (.p N3 O1)) (.e N1 (.p N2 O1)) (.t N0 N3) z1 z2 this),Nat.ne_of_lt (by exact lc4 5 [_,_,_,_,_] [] (.t N0 N1) (.e N2 (.p N3 O1)) (.e N4 (.p N2 O1)) (.e N1 (.p N4 O1)) (.t N0 N3) z1 z2 z3 this)⟩
 have hit4:IsItemIter h4 h1.objs.size dt 0 kvs.length ep .none .none:=hV4 _ _ (hV3 _ _ hI);have hV14:Sub s.heap h4:=((hV1.trans hV2).trans hV3).trans hV4;have fin:∀h' tk m' kv2,h'.Ns h3.objs.size m'→h'.DictOf (intKind C.prog C.w) h2.objs.size kv2→PyProof.V.FlatPairs PyData.int kv2 (a3w D)→(∀b o,b≠h1.objs.size→b≠h2.objs.size→b≠h3.objs.size→h4.get? b=some o→h'.get? b=some o)→
   compPost (model C.prog C.w) A Eh none (fun v s₁=>d8i (model C.prog C.w) A (storeName env y v) (fun _=>Q' Flow.next) Eh s₁) (.ref h2.objs.size) h3.objs.size (.ok .next) { s with heap:=h',toks:=tk }:=fun h' tk m' kv2 hn' hd' hf' hk'=>by
  refine⟨m',hn',fun h'' hs''=>?_⟩;have sub2:Sub s.heap h'':=fun b o e=>hs''.extBut b o (alive b o e).2.2 (hk' b o (alive b o e).1 (alive b o e).2.1 (alive b o e).2.2 (hV14 b o e));have hDn:s.heap.get? h2.objs.size=none:=a0s (by exact a2q (.l N0 N1) (.e N2 (.p N0 O1)) (.e N1 (.p N2 O1)) z1 z2)
  have hd2:h''.DictOf (intKind C.prog C.w) h2.objs.size kv2:=hd'.extBut hs''.extBut (Nat.ne_of_lt (by exact a1d (.t N0 N1) (.e N1 (.p N0 O1)) z3))
  obtain⟨oD,hoD,hiD⟩:=Heap.dictOf_iff.mp hd2;obtain⟨g',xg,sg2,eg⟩:=Step.grow (tk:=tk) H.rel.sub sub2 hDn fun o e1 e2=>by
   rw[hoD]at e1; cases e1;obtain⟨_,_,hx,_⟩:=hiD;rw[hx.1]at e2; simp at e2
  have aft:Aft C sc env al g s st g' { s with heap:=h'',toks:=tk } st:=⟨rfl,rfl,H.rel.step xg sg2,xg.nil⟩
  have hlow:(h2.objs.size==sysModules)=false:=by
   have:@LT.lt Nat _ sysModules s.heap.objs.size:=modules_low (H.rel.amb.T.keeps H.rel.sub).nolimit
   exact beq_false_of_ne (Nat.ne_of_gt (by exact c3r (.t N0 N1) (.e N2 (.p N3 O1)) (.e N1 (.p N2 O1)) (.t N0 N3) z1 z2 this))
  have iv:InV C g' al (.ref h2.objs.size) (.tab C.toks):=⟨_,rfl,hlow,kv2,Heap.dictOf_iff.mpr ⟨oD,eg.trans hoD,hiD⟩,htoks▸hf'⟩;exact a2w so H (SAft.of H aft) hy iv fun s2 a2=>kk .next .next _ _ _ _ a2 trivial hw
 refine codeAny_compStart_dict ?_ (a8k hit4 ?_)
 all_goals
  refine c2x (E:=Eh) (g:=g) (dt:=dt) (It:=h1.objs.size) (Dd:=h2.objs.size) (kvs:=kvs) (ep:=ep) (D:=D) (m:=fun x=>List.lookup x [].reverse) H.ok.handled (H.rel.sub.trans hV14) (a3d H.rel.sub (a0s (by exact a1d (.l N0 N1) (.e N1 (.p N0 O1)) z1))) (lookup_relabel_local hsign) (lookup_relabel_local hnum) (by decide) (by simp[newEnv,relabel,hkind]) (by simpa[newEnv,relabel]using hkind) (by decide) (by decide)
   (fun b o e=>alive b o (H.rel.sub _ _ e)) (Nat.ne_of_lt (by show h1.objs.size<h3.objs.size; exact a2q (.t N0 N1) (.e N2 (.p N0 O1)) (.e N1 (.p N2 O1)) z2 z3)) (Nat.ne_of_lt (by exact a1d (.t N0 N1) (.e N1 (.p N0 O1)) z2)) (Nat.ne_of_lt (by show h2.objs.size<h3.objs.size; exact a1d (.t N0 N1) (.e N1 (.p N0 O1)) z3)) hat hf hDs hlen hit4 ?_ hn4 (fun h' tk m' kv2 a1 a2 a3 a4=>fin h' tk m' kv2 a1 a2 a3 a4)
  exact hDd.at fun o e=>hV4 _ _ e
end
end
section
noncomputable def c9t:d8g→Bool|.none=>true|_=>false
theorem b7i(h:c9t v=true):v=.none:=by cases v <;> first|rfl|exact ff h
noncomputable def a4e(p:Arguments)(dV:d8g)(ps:List Str):Bool:=
 p.posonlyargs.isEmpty&&p.vararg.isNone&&p.kwonlyargs.isEmpty&&p.kwarg.isNone&&c9t dV&&p.args.map (·.arg)==ps
theorem a2y(hl:vs.length=ps.length)(hn:ps.Nodup):(ps.filter fun n=>((ps.zip vs).lookup n).isNone)=[]:=by
 refine List.filter_eq_nil_iff.mpr fun x hx=>?_;obtain⟨i,hi,e⟩:=List.getElem_of_mem hx;obtain⟨v,_,h⟩:=a4x ps vs hl.symm hn i x (e▸List.getElem?_eq_getElem hi);rw[h]; simp
theorem a5z:∀{ps:List Str} {vs:List d8g},vs.length=ps.length→ps.Nodup→(ps.filterMap fun n=>((ps.zip vs).lookup n).map (n,·))=ps.zip vs:=by
 have key:∀(qs:List Str) (ws:List d8g) (l:List (Str×d8g)),ws.length=qs.length→qs.Nodup→(∀x∈qs,l.lookup x=(qs.zip ws).lookup x)→(qs.filterMap fun n=>(l.lookup n).map (n,·))=qs.zip ws:=by
  intro qs
  induction qs with
  |nil=>intro ws l _ _ _; rfl
  |cons q r ih=>
   intro ws l hl hn hx;cases ws with
   |nil=>cases hl
   |cons w ws=>
    rw[List.nodup_cons]at hn;have h1:=hx q (.head _);rw[List.zip_cons_cons,List.lookup_cons,beq_self_eq_true]at h1;rw[List.filterMap_cons,h1,List.zip_cons_cons];have hr:=ih ws l (by simpa using hl) hn.2 fun x hxr=>by
     have hxq:(x==q)=false:=beq_false_of_ne fun e=>hn.1 (e▸hxr);rw[hx x (List.mem_cons_of_mem _ hxr),List.zip_cons_cons,List.lookup_cons,hxq]
    exact congrArg (_ :: ·) hr
 intro ps vs hl hn;exact key ps vs _ hl hn fun _ _=>rfl
theorem c5c{k:Str}(h:ps[vs.length]?=some k):ps.zip (vs++[v])=ps.zip vs++[(k,v)]:=by
 induction ps generalizing vs with
 |nil=>simp at h
 |cons p r ih=>
  cases vs with
  |nil=>simp at h; subst h; simp
  |cons w ws=>simp at h; simp[ih h]
theorem a8j(hn:ps.Nodup){k:Str}(h:ps[vs.length]?=some k):(ps.zip vs).lookup k=none:=by
 induction ps generalizing vs with
 |nil=>rfl
 |cons p r ih=>
  rw[List.nodup_cons]at hn;cases vs with
  |nil=>rfl
  |cons w ws=>
   simp at h;rw[List.zip_cons_cons,List.lookup_cons,show(k==p)=false from beq_false_of_ne fun e=>hn.1 (e▸List.mem_of_getElem? h)]
   exact ih hn.2 h
theorem a8v{ps:List Str}(hn:ps.Nodup){B:Str×d8g→List (Str×d8g)×List (Str×d8g)→Sem (ForInStep (List (Str×d8g)×List (Str×d8g)))}(hB:∀(x:Str×d8g) (s:List (Str×d8g)),x.1∈ps→s.lookup x.1=none→B x (s,[])=pure (.yield (s++[x],[]))):∀(ks:List Str) (kvs vals:List d8g),ks=ps.drop vals.length→ks.length=kvs.length→forIn (ks.zip kvs) (ps.zip vals,[]) B=pure (ps.zip (vals++kvs),[])
 |[],[]=>fun vals _ _=>by simp
 |[],_::_=>fun _ _ h=>by cases h
 |_::_,[]=>fun _ _ h=>by cases h
 |k::ks,v::kvs=>fun vals hk h=>by
  have hk1:ps[vals.length]?=some k:=by
   have:(ps.drop vals.length)[0]?=some k:=by rw[←hk]; rfl
   simpa using this
  have hk2:ks=ps.drop (vals++[v]).length:=by
   have:(ps.drop vals.length).drop 1=ks:=by rw[←hk]; rfl
   rw[←this,List.drop_drop]; simp
  rw[List.zip_cons_cons,List.forIn_cons,hB (k,v) _ (List.mem_of_getElem? hk1) (a8j hn hk1)];simp only[pure_bind];rw[←c5c hk1,a8v hn hB ks kvs (vals++[v]) hk2 (by simpa using h),List.append_assoc]
  rfl
theorem c3v{α β:Type}{m:Sem α}{v:α}{f:α→Sem β}{r:Sem β}(h:m=pure v)(k:f v=r):(m >>= f)=r:=by rw[h]; exact k
theorem d7i{α:Type}[Decidable c]{a b r:α}(h:c)(k:a=r):(if c then a else b)=r:=(if_pos h).trans k
theorem d1n{α:Type}[Decidable c]{a b r:α}(h:¬c)(k:b=r):(if c then a else b)=r:=(if_neg h).trans k
theorem a8g(h:a4e fd.params fd.defaults ps=true)(hn:ps.Nodup)(vals:List d8g)(ks:List Str)(kvs:List d8g)(hks:ks=ps.drop vals.length)(hkl:ks.length=kvs.length)(hl:(vals++kvs).length=ps.length):bindArgs fd ⟨vals,ks.zip kvs⟩=pure (ps.zip (vals++kvs)):=by
 obtain⟨_,_,⟨po,ar,va,ko,kd,kw,df⟩,_,_,_,_,dV,_,_,_,_,_,_,_⟩:=fd;cases po with|cons _ _=>cases h|nil=>?_
 cases va with|some _=>cases h|none=>?_
 cases ko with|cons _ _=>cases h|nil=>?_
 cases kw with|some _=>cases h|none=>?_
 obtain rfl:=b7i (a0a (a0b h));obtain rfl:ar.map (·.arg)=ps:=beq_iff_eq.mp (a0a h);clear h;have hvl:vals.length≤(ar.map (·.arg)).length:=by rw[←hl,List.length_append]; exact Nat.le_add_right _ _
 dsimp only[bindArgs,List.map_nil,List.nil_append,List.append_nil];refine c3v (a8v hn (fun x s h1 h2=>?_) ks kvs vals hks hkl) ?_
 ·exact d7i (by rw[List.contains_iff_mem.mpr h1]; rfl) (d1n (by show ¬(List.lookup x.fst s).isSome=true; rw[h2]; exact Bool.false_ne_true) rfl)
 refine c3v (show seqItems? Value.none=pure none from rfl) ?_
 refine d1n (show ¬(decide (vals.length>(ar.map (·.arg)).length)&&true)=true by rw[decide_eq_false (Nat.not_lt.mpr hvl)]; exact Bool.false_ne_true) ?_
 refine d1n (by
  show ¬(!(List.filter (fun n=>(List.lookup n ((ar.map (·.arg)).zip (vals++kvs))).isNone) (List.take ((ar.map (·.arg)).length-(List.drop (0-(ar.map (·.arg)).length) ([]:List d8g)).length) (ar.map (·.arg)))).isEmpty)=true;rw[List.drop_nil,List.length_nil,Nat.sub_zero,List.take_length,a2y hl hn]; exact Bool.false_ne_true) ?_
 refine c3v (v:=(ar.map (·.arg)).zip (vals++kvs)) ?_ ?_
 ·show forIn ((List.drop _ (ar.map (·.arg))).zip (List.drop (0-(ar.map (·.arg)).length) ([]:List d8g))) _ _=_
  rw[List.drop_nil,List.zip_nil_right]; rfl
 refine c3v (show forIn ([]:List Str) _ _=pure _ from rfl) ?_
 refine d1n Bool.false_ne_true ?_;show pure (List.filterMap _ (ar.map (·.arg)++[]))=_;rw[List.append_nil];exact congrArg pure (a5z hl hn)
theorem a9z(h:a4e fd.params fd.defaults ps=true)(hn:ps.Nodup)(vals:List d8g)(hl:vals.length=ps.length):bindArgs fd ⟨vals,[]⟩=pure (ps.zip vals):=by
 have:=a8g h hn vals [] [] (by rw[hl,List.drop_length]) rfl (by rw[List.append_nil]; exact hl)
 rwa[List.append_nil]at this
end
section
structure FnOKc(fd:FuncData)(ps ls fs:List Str)(cl:List (Str×Addr))(body:List Stmt):Prop where
 body:fd.body=.stmts body
 closure:fd.closure=cl
 kind:fd.scope.kind=.function
 co:fd.scope.isCoroutine=false
 gen:fd.scope.isGenerator=false
 globals:fd.globals=d8o
 builtins:fd.builtins=builtinsNs
 nodup:(fd.scope.names.map (·.1)).Nodup
 xnodup:(ps++ls++fs).Nodup
 kinds:∀x∈ps++ls,fd.scope.names.lookup x=some .local
 kindf:∀x∈fs,fd.scope.names.lookup x=some .free
 nocell:∀p∈fd.scope.names,p.2 ≠ .cell
 allfree:∀p∈fd.scope.names,p.2=.free→p.1∈fs
 clnd:(cl.map (·.2)).Nodup
 bind:∀vals:List d8g,vals.length=ps.length→bindArgs fd ⟨vals,[]⟩=pure (ps.zip vals)
def d7c(Γ:Ctx)(tk:List (d8e×d8e))(np nl:Nat)(fr:List V)(body:Ss):Spec:=fun hz ks us ow Q=>ks=[]∧us.length=np∧a1n Γ tk body ⟨us++List.replicate nl .undef++fr,ow,hz⟩ fun fl st=>
 Q (.dat (match fl with|.ret d=>d|.next=>.none)) (st.own.take ow.length)
theorem c4g{ps ls fs:List Str}{body:List Stmt}(ok:FnOKc fd ps ls fs cl body):SIOK (a2f fd.scope.names (ps++ls++fs)) where
 nd:=by
  show(((ps++ls++fs).zip (List.range (ps++ls++fs).length)).map (·.2)).Nodup;rw[List.map_snd_zip (by simp)]
  exact List.nodup_range
 kinds:=fun x i h=>by
  rcases List.mem_append.mp (List.mem_of_getElem? (b7m h))with h|h
  ·exact .inl (ok.kinds x h)
  ·exact .inr (.inr (ok.kindf x h))
section
variable {C:Cfg} {Γ:Ctx} {n:Nat} {k:Ck}
def c9f(C:Cfg)(cl:List (Str×Addr))(fs:List Str)(fr:List V):Prop:=fr.length=fs.length∧∀(i:Nat) (x:Str),fs[i]?=some x→∃u c v,fr[i]?=some u∧cl.lookup x=some c∧∀g,C.Amb g→g.IsCell c (some v)∧∀al,C.base <+: al→InV C g al v u
theorem b4l{a:Addr}{ps ls fs:List Str}{body:Ss}{fr:List V}(hnl:ls.length=nl)(hfv:C.fnv f=.ref a)(hfo:o.data=.func fd)(hg:∀g,C.Amb g→g.get? a=some o∧g.CodeRec fd.code fd.qualname)(ok:FnOKc fd ps ls fs cl stmts)
 (hfs:c9f C cl fs fr) (hcl:∀g,C.Amb g→∀c∈cl.map (·.2),∃v,g.IsCell c v)
 (hs:SSs C Γ (a2f fd.scope.names (ps++ls++fs)) n hzf body stmts)
 (A:d8q) (g:Heap) (s:d8f) (al:List Addr) (ow:List OV) (hz:Bool) (vs:List d8g) (ks:List Str) (kvs:List d8g) (us:List V) (Eh:d8g→d8f→Prop) (Q:V→List OV→Prop) (Q':d8g→d8f→Prop) (hzz:hzf=true→hz=true)
 (aok:AOK A (n+1) hz g) (B:BRel C g s.heap al ow) (hfrB:FrB C A g s.heap al) (hkl:ks.length=kvs.length) (hi:InVs C g al (vs++kvs) us) (hw:d7c Γ C.toks ps.length nl fr body hz ks us ow Q)
 (kk:∀v u ow' s' g',BRel C g' s'.heap al ow'→Step (al++C.TA) s g s' g'→InV C g' al v u→Q u ow'→Q' v s') :
  d8i (model C.prog C.w) A (call (C.fnv f) vs (ks.zip kvs)) Q' Eh s:=by
 obtain⟨hk0,hul,hw⟩:=hw;subst hk0;have hkv:kvs=[]:=List.length_eq_zero_iff.mp hkl.symm;subst hkv;rw[List.append_nil]at hi;have hvl:vs.length=ps.length:=hi.len.trans hul;rw[hfv];obtain⟨ho,hcr⟩:=hg g B.amb;have T:=B.amb.T.keeps B.sub;have hpsn:ps.Nodup:=(List.nodup_append.mp (List.nodup_append.mp ok.xnodup).1).1;have hzk:((ps.zip vs).map (·.1))=ps:=a7y ps vs hvl.symm;refine wpAny_call (codeAny_call_function (by have:=aok.depth; exact a1z (.t N0 N1) (.l (.p N0 (.p N2 O1)) N1) this) (B.sub _ _ ho) hfo ok.co ok.gen ok.body ?_ ?_)
 ·obtain⟨c,oc,fs,t,e1,e2,e3,e4⟩:=hcr; exact⟨c,oc,fs,t,e1,B.sub _ _ e2,e3,e4⟩
 show d8i _ _ (bindArgs fd ⟨vs,[]⟩) _ _ _;rw[ok.bind vs hvl,ok.closure];refine d8h (wpAny_newFunctionEnv ok.nocell (fun x hx=>ok.kinds x.1 (List.mem_append_left _ (by rw[←hzk]; exact List.mem_map.mpr ⟨x,hx,rfl⟩))) (fun h1 hns hsb=>?_) ok.kind)
 have hns:h1.Ns s.heap.objs.size fun x=>(ps.zip vs).reverse.lookup x:=hns;have sb:Sub s.heap h1:=fun b o e=>hsb.extBut b o (Nat.ne_of_lt (Heap.lt_size e)) (Heap.get?_push_of_some _ e);refine⟨T.nolimit.keeps sb,codeAny_func ?_⟩;generalize hs1:({ s with heap:=h1,toks:=s.toks+(ps.zip vs).length }:d8f)=s1
 have hs1h:s1.heap=h1:=hs1▸rfl;generalize henv:newEnv fd.scope s.heap.objs.size fd.globals cl (fd.qualname++Str.ofString ".<locals>.") (some a) fd.code none fd.builtins=env;have he1:env.scope=fd.scope:=henv▸rfl;have he2:env.locals=s.heap.objs.size:=henv▸rfl;have he3:env.cells=cl:=henv▸rfl;have he4:env.frame=some s.heap.objs.size:=henv▸rfl;have he5:env.globals=d8o:=henv▸ok.globals;have he6:env.builtins=builtinsNs:=henv▸ok.builtins;have hnew:∀b,s.heap.objs.size≤b→s.heap.get? b=none:=fun b hb=>a0s hb;have x1:Step [] s g s1 g:=hs1▸Step.ext sb;have B1:=B.move x1 (by rw[hs1h]; exact B.sub.trans sb) (by simp)
 rw[hs1h]at B1;have hk:∀y,env.kindOf y=fd.scope.names.lookup y:=fun y=>by unfold Env.kindOf; rw[he1]
 have Lnew:s.heap.get? env.locals=none:=by rw[he2]; exact hnew _ (Nat.le_refl _)
 have cellg:∀c∈cl.map (·.2),∃o v,g.get? c=some o∧o.data=.cell v:=fun c hc=>by
  obtain⟨v,o,ho,hd⟩:=hcl g B.amb c hc; exact⟨o,_,ho,hd⟩
 have vget:∀{y:Str} {i:Nat} {v:d8g},ps[i]?=some y→vs[i]?=some v→Look env h1 y v:=fun{y i v} hy hv=>by
  obtain⟨v',h2,h3⟩:=a4x ps vs hvl.symm hpsn i y hy;rw[hv]at h2; cases h2;refine .inl ⟨(hk y).trans (ok.kinds y (List.mem_append_left _ (List.mem_of_getElem? hy))),_,(by rw[he2]; exact hns),?_⟩
  have hrn:((ps.zip vs).reverse.map (·.1)).Nodup:=by rw[List.map_reverse,hzk]; exact List.pairwise_reverse.mpr (hpsn.imp fun h=>Ne.symm h)
  exact a0p hrn (List.mem_reverse.mpr (d8k h3))
 have R:Rel C (a2f fd.scope.names (ps++ls++fs)) env g h1 al ⟨us++List.replicate nl .undef++fr,ow,hz⟩:={
  sub:=B1.sub,amb:=B1.amb,nd:=B1.nd,tabs:=B1.tabs
  ns:=⟨_,by rw[he2]; exact hns⟩
  cell:=fun y hy=>by
   rcases hy with h|h
   ·exact absurd rfl (ok.nocell _ (d8k h))
   ·have hm:y∈fs:=ok.allfree _ (d8k h) rfl
    obtain⟨i,hi',e⟩:=List.getElem_of_mem hm;obtain⟨u,c,v,_,h2,h3⟩:=hfs.2 i y (e▸List.getElem?_eq_getElem hi');obtain⟨o,ho,hd⟩:=(h3 g B.amb).1;exact⟨c,_,by rw[he3]; exact h2,o,B1.sub _ _ ho,hd⟩
  vars:=fun y i hyi=>by
   have hy:=b7m hyi
   by_cases hip:i<ps.length
   ·rw[List.append_assoc,List.getElem?_append_left hip]at hy
    have hv:vs[i]?=some vs[i]:=List.getElem?_eq_getElem (by exact a2q (.t N0 N1) (.e N1 N2) (.t N0 N2) hvl hip)
    obtain⟨u,hu,iu⟩:=hi.get hv;refine .inr ⟨vs[i],vget hy hv,?_⟩;show InV C g al vs[i] ((us++List.replicate nl V.undef++fr).getD i V.undef);rw[List.getD_eq_getElem?_getD,List.append_assoc,List.getElem?_append_left (by exact a2q (.t N0 N1) (.e N1 N2) (.t N0 N2) hul hip),hu]
    exact iu
   ·by_cases hil:i<ps.length+ls.length
    ·refine .inl fun u hu=>?_
     subst hu;show(us++List.replicate nl V.undef++fr).getD i V.undef=.undef;rw[List.getD_eq_getElem?_getD,List.append_assoc,List.getElem?_append_right (by exact a2q (.l N0 N1) (.e N0 N2) (.n (.t N1 N2)) hul hip),List.getElem?_append_left (by simp; exact lc4 5 [_,_,_,_,_] [] (.t (.s N0 N1) N2) (.e N3 N2) (.e N1 N4) (.n (.t N0 N4)) (.t N0 (.p N4 N3)) hnl hul hip hil),List.getElem?_replicate]
     split <;> rfl
    ·rw[List.getElem?_append_right (by simp; omega)]at hy
     obtain⟨u,c,v,h1',h2,h3⟩:=hfs.2 _ y hy;obtain⟨hcc,hin⟩:=h3 g B.amb;refine .inr ⟨v,.inr ⟨.inr ((hk y).trans (ok.kindf y (List.mem_of_getElem? hy))),c,by rw[he3]; exact h2,?_⟩,?_⟩
     ·obtain⟨o,ho,hd⟩:=hcc; exact⟨o,B1.sub _ _ ho,hd⟩
     ·show InV C g al v ((us++List.replicate nl V.undef++fr).getD i V.undef)
      rw[List.getD_eq_getElem?_getD,List.getElem?_append_right (by simp; exact lc3 5 [_,_,_,_,_] [] (.l (.p N0 N1) N2) (.e N3 N1) (.e N0 N4) (.n (.t N2 (.p N4 N3))) hnl hul hil)]
      have e:i-(us++List.replicate nl V.undef).length=i-(ps++ls).length:=by simp; exact lc2 5 [_,_,_,_,_] [] (.e (.s N0 (.p N1 N2)) (.s N0 (.p N3 N4))) (.e N4 N2) (.e N1 N3) hnl hul
      rw[e,h1'];exact hin al B.base
  olen:=B1.olen,own:=B1.own,alnd:=B1.alnd
  pnd:=by
   show(env.locals::env.cells.map (·.2)).Nodup;rw[List.nodup_cons,he3];refine⟨fun hm=>?_,ok.clnd⟩;obtain⟨o,v,ho,_⟩:=cellg _ hm;rw[B.sub _ _ ho]at Lnew; cases Lnew
  pgl:=a3d B.sub Lnew
  pgc:=fun y c hky hc=>by
   rw[hk]at hky;exact absurd rfl (ok.nocell _ (d8k hky))
  plt:=fun b hb=>by
   rcases List.mem_cons.mp hb with h|h
   ·obtain⟨o,_,_,ho,_⟩:=hns; exact⟨o,by rw[h,he2]; exact ho⟩
   ·rw[he3]at h
    obtain⟨o,v,ho,_⟩:=cellg _ h;exact⟨o,B1.sub _ _ ho⟩
  pal:=fun b hb hm=>by
   obtain⟨j,hj,e⟩:=List.getElem_of_mem hm;obtain⟨a',ha',q⟩:=B.own j _ (List.getElem?_eq_getElem (by rw[←B.olen]; exact hj))
   rw[List.getElem?_eq_getElem hj,e]at ha';cases ha'
   rcases List.mem_cons.mp hb with h|h
   ·obtain⟨ob,hob⟩:=q.alive B.sub
    rw[h,Lnew]at hob; cases hob
   ·rw[he3]at h
    obtain⟨oc,v,hoc,hdc⟩:=cellg _ h;cases eo:ow[j]'(by rw[←B.olen]; exact hj)with
    |lst l=>rw[eo]at q; rw[q.1]at hoc; cases hoc
    |iter l=>rw[eo]at q; rw[q.1]at hoc; cases hoc
    |dead=>rw[eo]at q; rw[q.1]at hoc; cases hoc
    |froz l=>
     rw[eo]at q;obtain⟨a2,vs2,e2,⟨ol,hol,_,_,hdl⟩,_⟩:=RD.listE q;cases e2;rw[hol]at hoc; cases hoc;rw[hdl]at hdc; cases hdc
  pta:=fun b hb hm=>by
   obtain⟨hgn,o',ho',_⟩:=B.tabs b hm
   rcases List.mem_cons.mp hb with h|h
   ·rw[h]at ho'; rw[Lnew]at ho'; cases ho'
   ·rw[he3]at h
    obtain⟨oc,v,hoc,_⟩:=cellg _ h;rw[hgn]at hoc; cases hoc
  ata:=B1.ata,base:=B1.base }
 have hfr:FrOK C (A.deeper env) env g h1 al:=hfrB.deep (by rw[he1]; exact ok.kind) he4 he2.symm sb fun b hb hgn=>by
  rcases List.mem_cons.mp hb with h|h
  ·rw[h]; exact Lnew
  ·rw[he3]at h
   obtain⟨oc,v,hoc,_⟩:=cellg _ h;rw[hgn]at hoc; cases hoc
 have H:Here C (a2f fd.scope.names (ps++ls++fs)) hzf n (A.deeper env) env g s1 al ⟨us++List.replicate nl .undef++fr,ow,hz⟩:=
  ⟨⟨by have:=aok.depth; show A.depth+1+n≤_; exact a1z (.l (.p (.p N0 O1) N1) N2) (.l (.p N0 (.p N1 O1)) N2) this,by have:=aok.units; show A.units+3+4*n+70<_; exact a1z (.t (.p (.p (.p N0 (.k 3)) (.m 0 4 N1)) (.k 70)) N2) (.t (.p (.p N0 (.m 0 4 (.p N1 O1))) (.k 70)) N2) this,aok.none,aok.handled⟩,hzz,⟨by rw[he1]; exact ok.kind,by rw[he1]; rfl,he5,he6⟩,by rw[hs1h]; exact R,by rw[hs1h]; exact hfr⟩
 refine hs _ env g _ al _ _ _ _ H hw fun fl fr' al' g' s' st' a' hf hq=>?_;have wrL:∀b∈wr (a2f fd.scope.names (ps++ls++fs)) env,s.heap.get? b=none:=fun b hb=>by
  rcases List.mem_cons.mp hb with h|h
  ·rw[h]; exact Lnew
  ·obtain⟨x,hx,_⟩:=List.mem_filterMap.mp h
   obtain⟨p,hp,rfl⟩:=List.mem_map.mp hx;obtain⟨hp1,hp2⟩:=List.mem_filter.mp hp;exact absurd (by simpa using hp2) (ok.nocell p hp1)
 have x2:Step (al++C.TA) s g s' g':=(x1.mono (W':=al++C.TA) fun _ h=>nomatch h).trans a'.step fun b hb=>by
  rcases List.mem_append.mp hb with h|h
  ·exact .inr (wrL b h)
  ·exact .inl h
 have B2:=a'.here.rel.b.take a'.pre B.base;rw[B.olen]at B2;cases fl with
 |next=>
  cases fr' with
  |next=>exact kk .none (.dat .none) _ s' g' B2 x2 RD.none hq
  |_=>exact hf.elim
 |ret d=>
  cases fr' with
  |ret v=>exact kk v (.dat d) _ s' g' B2 x2 hf hq
  |_=>exact hf.elim
end
end
section
structure NestAt(C:Cfg)(c P:Addr)(pos:Pos)(qual:Str):Prop where
 hd:∀g,C.Amb g→CodeHd g c P
 mem:P∈C.TA
 out:∀g o,C.tabOk g P o→∃ps,o=tabObj ps∧(ps=#[]∨∃c',ps=#[rawInt pos.line,rawInt pos.col,.ref c']∧g.CodeRec (.ref c') qual)
 put:∀g c',g.CodeRec (.ref c') qual→C.tabOk g P (tabObj #[rawInt pos.line,rawInt pos.col,.ref c'])
 bm:∃bm ob,C.mg "__builtins__" = some (.ref bm)∧bm≠builtinsNs∧ob.cls=.type "module" ∧ ob.dict=some builtinsNs∧ob.data=.plain∧∀g,C.Amb g→g.get? bm=some ob
theorem a1h{g h:Heap}{cd:d8g}{q:Str}(s:Sub g h)(x:g.CodeRec cd q):h.CodeRec cd q:=Exists.imp (fun _=>Exists.imp fun _=>Exists.imp fun _=>Exists.imp fun _=>And.imp_right (And.imp_left (s _ _))) x
section
variable {C:Cfg} {Γ:Ctx} {n:Nat} {hz:Bool} {k:Ck} {sc:SI}
theorem c7v{s:d8f}{al:List Addr}{st:St}{name qual:Str}{body:List Stmt}{pos:Pos}{fl:Nat}{c P:Addr}{Q:d8g→d8f→Prop}(N:NestAt C c P pos qual)(H:Here C sc hz n A env g s al st)
 (hcode:env.code=.ref c) (hfree:∀p∈scope.names,p.2=.free→sc.names.lookup p.1=some .cell∨sc.names.lookup p.1=some .free)
 (h:∀f doc pm ctv c' s' g',Here C sc hz n A env g' s' al st→Step C.TA s g s' g'→s.heap.get? f=none→g'.get? f=some (fnMade name qual params body scope (a0y env scope.names []) doc pm c' ctv)→g'.CodeRec (.ref c') qual→Q (.ref f) s') :
  d8i (model C.prog C.w) A (makeFunction name qual params (.stmts body) scope env [] [] [] pos fl) Q Eh s:=by
 have T:=H.rel.amb.T.keeps H.rel.sub;have hd:=N.hd g H.rel.amb;obtain⟨hgP,oP,hoP,hnP,htP⟩:=H.rel.tabs P N.mem;obtain⟨ps,rfl,hps⟩:=N.out g oP htP;have hcl:closureFor scope env=pure (a0y env scope.names []):=a6i fun p hp hf=>by
  obtain⟨c,_,hc,_⟩:=H.rel.cell p.1 (hfree p hp hf); exact⟨c,hc⟩
 obtain⟨bm,ob,b1,b2,b3,b4,b5,b6⟩:=N.bm;have hgM:d8o≠P:=fun q=>by
  obtain⟨o,es,ep,e,_⟩:=H.rel.amb.T.g;rw[q,hgP]at e; cases e
 have hbG:bm≠d8o:=fun q=>by
  obtain⟨o,es,ep,e,hdd,_⟩:=H.rel.amb.T.g;rw[q.symm,b6 g H.rel.amb]at e; cases e; rw[b5]at hdd; cases hdd
 have hbP:bm≠P:=fun q=>by have:=b6 g H.rel.amb; rw[q,hgP]at this; cases this
 have hb:s.heap.BuiltinsAt C.mg P:=⟨bm,ob,b1,b2,hbG,hbP,H.rel.sub _ _ (b6 g H.rel.amb),b3,b4,b5⟩;have hhd:CodeHd s.heap c P:=hd.keeps H.rel.sub;have fin:∀(h1:Heap) (tk:Tok) (c':Addr) (doc ctv:d8g),Heap.ExtBut P s.heap h1→(∃o',h1.get? P=some o'∧b8l o'∧∀g',Sub g g'→g'.CodeRec (.ref c') qual→C.tabOk g' P o')→h1.CodeRec (.ref c') qual→s.heap.objs.size≤h1.objs.size→
   (g.CodeRec (.ref c') qual∨s.heap.get? c'=none)→
   Q (.ref h1.objs.size) { s with heap:=h1.push (fnMade name qual params body scope (a0y env scope.names []) doc ((C.mg "__name__").getD .none) c' ctv),toks:=tk }:=fun h1 tk c' doc ctv hx hP hcr hsz hc'=>by
  generalize hfo:fnMade name qual params body scope (a0y env scope.names []) doc ((C.mg "__name__").getD .none) c' ctv=fo;have sg1:Sub g h1:=fun b o e=>hx b o (fun q=>by rw[q,hgP]at e; cases e) (H.rel.sub _ _ e)
  have hf1:(h1.push fo).get? h1.objs.size=some fo:=Heap.get?_push_size h1 (by subst hfo; rfl)
  have hfn:s.heap.get? h1.objs.size=none:=a0s hsz;obtain⟨cc,oc,vs,t,e1,e2,e3,e4⟩:=id hcr;cases e1;have sbp:Sub h1 (h1.push fo):=a0e fo;obtain⟨g1,s1,s2,x1,x2,x3⟩:=b5g (sg1.trans sbp) c' fun o q1 q2 ⟨vs',n',q3⟩=>by
   rw[sbp _ _ e2]at q1; cases q1;rw[e3]at q3; cases q3
  obtain⟨g2,t1,t2,y1,y2,y3⟩:=a7c s2 h1.objs.size fun o q1 q2=>by rw[hf1]at q1; cases q1; subst hfo; simp at q2
  have hcf:c'≠h1.objs.size:=Nat.ne_of_lt (Heap.lt_size e2);have gcr:g2.CodeRec (.ref c') qual:=⟨c',oc,vs,t,rfl,(y2 c' hcf).trans (x1.trans (sbp _ _ e2)),e3,e4⟩;have alive:∀b o,s.heap.get? b=some o→g.get? b=none→b≠h1.objs.size∧b≠c':=fun b o hb hg=>by
   refine⟨fun q=>(by rw[q,hfn]at hb; cases hb),fun q=>?_⟩
   rcases hc' with⟨c2,oc2,_,_,q1,q2,_⟩|h
   ·cases q1; rw[←q,hg]at q2; cases q2
   ·rw[q,h]at hb; cases hb
  have gn:∀b o,s.heap.get? b=some o→g.get? b=none→g2.get? b=none:=fun b o hb hg=>by
   obtain⟨a1,a2⟩:=alive b o hb hg;exact(y2 b a1).trans ((x2 b a2).trans hg)
  have kept:∀b o,b∉C.TA→s.heap.get? b=some o→(h1.push fo).get? b=some o:=fun b o hb e=>sbp _ _ (hx b o (fun q=>hb (q▸N.mem)) e);have st2:Step C.TA s g { s with heap:=h1.push fo,toks:=tk } g2:={
   same:=⟨_,_,rfl⟩
   sub:=s1.trans t1
   keep:=fun b o hb e=>.of (kept b o hb e)
   low:=fun _=>t2
   fresh:=fun b o _ hb hg=>gn b o hb hg
   nd:=fun h=>y3 (x3 h) }
  have tb:C.Tabs g2 (h1.push fo):=fun P' hP'=>by
   obtain⟨q1,o,q2,q3,q4⟩:=H.rel.tabs P' hP';refine⟨gn P' o q2 q1,?_⟩
   by_cases hPP:P'=P
   ·subst hPP
    obtain⟨o',k1,k2,k3⟩:=hP;exact⟨o',sbp _ _ k1,k2,k3 g2 (s1.trans t1) gcr⟩
   ·exact⟨o,sbp _ _ (hx P' o hPP q2),q3,C.tabMono _ _ _ _ (s1.trans t1) q4⟩
  have R2:Rel C sc env g2 (h1.push fo) al st:=H.rel.up (s1.trans t1) (y3 (x3 H.rel.nd)) t2 tb (fun b o hb e=>.of (kept b o (fun hm=>hb (List.mem_append_right _ hm)) e))
   (fun b hb hg=>(H.rel.plt b hb).elim fun o ho=>gn b o ho hg) H.rel.olen fun j o e=>by
    obtain⟨a,ha,q⟩:=H.rel.own j o e;obtain⟨ob,hob⟩:=q.alive H.rel.sub;exact⟨a,ha,q.keep (s1.trans t1) (fun ob' e'=>.of (kept a ob' (H.rel.ata a (List.mem_of_getElem? ha)) e')) fun hg=>gn a ob hob hg⟩
  exact h _ _ _ _ _ { s with heap:=h1.push fo,toks:=tk } g2 ⟨H.ok.mono (s1.trans t1),H.hz,H.eok,R2,H.fr.step st2 fun b hb=>.inr (.inr (.inl hb))⟩ st2 hfn (y1.trans hf1 |>.trans (by subst hfo; rfl)) gcr
 rcases hps with rfl|⟨c',rfl,hcr⟩
 ·refine makeFunction_K hcl H.eok.globals T.g hcode hhd hoP trivial rfl hgM hb fun c' ctv doc h1 tk hx hge hlt hcr ht=>?_
  refine fin h1 tk c' doc ctv hx ⟨_,ht,(by intro es ep q; cases q),fun g' _ hc=>?_⟩ hcr (Nat.le_of_lt (Nat.lt_of_le_of_lt hge hlt)) (.inr (a0s hge))
  have:=N.put g' c' hc
  simpa using this
 ·refine makeFunction_hit hcl H.eok.globals T.g hcode hhd hoP ?_ (cv:=.ref c') ?_ hb fun ctv doc h1 tk hk hsz=>?_
  ·exact⟨⟩
  ·simp[codeAmong,rawInt]
  ·refine fin h1 tk c' doc ctv (fun b o _ e=>hk b o e) ⟨_,hk _ _ hoP,(by intro es ep q; cases q),fun g' _ hc=>N.put g' c' hc⟩ (a1h (H.rel.sub.trans hk) hcr) hsz (.inl hcr)
end
end
section
noncomputable def Cfg.at(C:Cfg)(g1:Heap)(F:Nat)(f:Addr)(b:List Addr):Cfg:=
 { C with KI:=fun g=>Sub g1 g,KM:=fun _ _ s x=>x.trans s,base:=b,fnv:=fun q=>if q=F then .ref f else C.fnv q }
section
variable {C:Cfg} {g1:Heap} {F:Nat} {f:Addr} {b:List Addr}
theorem Amb.ofAt(hC:C.Amb g1)(x:(C.at g1 F f b).Amb g):C.Amb g:=⟨C.KM _ _ x.K hC.K,x.T⟩
theorem BRel.toAt{al:List Addr}{ow:List OV}(B:BRel C g1 h al ow):BRel (C.at g1 F f al) g1 h al ow where
 sub:=B.sub
 amb:=⟨.refl g1,B.amb.T⟩
 nd:=B.nd
 tabs:=B.tabs
 olen:=B.olen
 own:=B.own
 alnd:=B.alnd
 ata:=B.ata
 base:=List.prefix_refl _
theorem BRel.ofAt(hC:C.Amb g1){g h:Heap}{al:List Addr}{ow:List OV}(hb:C.base <+: al)(B:BRel (C.at g1 F f b) g h al ow):BRel C g h al ow where
 sub:=B.sub
 amb:=Amb.ofAt hC B.amb
 nd:=B.nd
 tabs:=B.tabs
 olen:=B.olen
 own:=B.own
 alnd:=B.alnd
 ata:=B.ata
 base:=hb
theorem PvAt.at{k k':Ck}(hC:C.Amb g1)(P:PvAt C k):PvAt (C.at g1 F f b) k':=by
 obtain⟨a,o,fd,r,p1,p2,p3,p4,p5,ls,h1,h2,h3,h4,h5,h6⟩:=P;exact⟨a,o,fd,r,p1,p2,p3,p4,p5,ls,h1,h2,fun g hg=>h3 g (Amb.ofAt hC hg),h4,h5,h6⟩
theorem TokAt.at(hC:C.Amb g1)(P:TokAt C):TokAt (C.at g1 F f b):=by
 obtain⟨d,D,h1,h2,h3,h4,h5⟩:=P;exact⟨d,D,h1,fun g hg=>h2 g (Amb.ofAt hC hg),h3,h4,h5⟩
end
theorem a7r{C:Cfg}{Γ:Ctx}{n:Nat}{k:Ck}(Gd:Good C k)(P:PvAt C k)(T:TokAt C)(hn:0<n):Extra C Γ n k:=
 ⟨fun hz sc i x so h hl=>c9p T so h hl,fun sc pre i l hb h ep lp rp hp pos so he hy hpre hc hH=>d2u Gd P hn he hy hpre hc hH⟩
noncomputable def inl(F:Nat)(tk:List (d8e×d8e))(np nl:Nat)(fr:List V)(body:Ss):Nat→Ctx
 |0=>fun _ _ _ _ _ _=>False
 |m+1=>fun q hz ks us ow Q=>q=F∧0<m∧d7c (inl F tk np nl fr body m) tk np nl fr body hz ks us ow Q
noncomputable def b5u(F:Nat):Ck:=⟨fun _=>none,[],[],fun q=>q==F⟩
theorem c8u{C:Cfg}{k:Ck}{g1:Heap}{f:Addr}{b:List Addr}{fo:Obj}(Gd:Good C k)(hfo:g1.get? f=some fo)(hfd:fo.data=.func fd):Good (C.at g1 F f b) (b5u F) where
 gi:=fun _ _ h=>nomatch h
 gs:=fun _ _ h=>nomatch h
 fn:=fun _ _ h=>nomatch h
 fo:=fun _ _ h=>nomatch h
 bn:=Gd.bn
 fc:=fun q h=>by
  have hq:q=F:=by simpa[b5u]using h
  subst hq;exact⟨f,fo,fd,by simp[Cfg.at],hfd,fun g hg=>hg.K _ _ hfo⟩
theorem c6v{C:Cfg}{k:Ck}{g1:Heap}{F:Nat}{f:Addr}{b:List Addr}{fo:Obj}{fd:FuncData}{ps ls fs:List Str}{cl:List (Str×Addr)}{stmts:List Stmt}{body:Ss}{fr:List V}(Gd:Good C k)(P:PvAt C k)(T:TokAt C)(hC:C.Amb g1)(hfo:g1.get? f=some fo)(hfd:fo.data=.func fd)
  (hcr:g1.CodeRec fd.code fd.qualname) (ok:FnOKc fd ps ls fs cl stmts) (hfs:c9f (C.at g1 F f b) cl fs fr) (hcl:∀c∈cl.map (·.2),∃v,g1.IsCell c v) (hck:c8f (b5u F) false (a2f fd.scope.names (ps++ls++fs)) body stmts) :
  ∀m,a4c (C.at g1 F f b) (inl F C.toks ps.length ls.length fr body m) m
 |0=>fun q A g s al ow hz vs ks kvs us Eh Q Q' _ _ _ _ _ h _=>h.elim
 |m+1=>fun q A g s al ow hz vs ks kvs us Eh Q Q' aok B fb hl iv h kk=>by
  obtain⟨rfl,hm,h⟩:=h;have ih:=c6v Gd P T hC hfo hfd hcr ok hfs hcl hck m;have Gd':=c8u (F:=q) (f:=f) (b:=b) Gd hfo hfd;have hS:=b5j Gd' ih (a7r Gd' (P.at hC) (T.at hC) hm) (c4g ok) hck;exact b4l (C:=C.at g1 q f b) rfl (by simp[Cfg.at]) hfd (fun g hg=>⟨hg.K _ _ hfo,a1h hg.K hcr⟩) ok hfs (fun g hg c hc=>let⟨v,o,ho,hd⟩:=hcl c hc; ⟨v,o,hg.K _ _ ho,hd⟩) hS A g s al ow hz vs ks kvs us Eh Q Q' (fun q=>nomatch q) aok B fb hl iv h kk
theorem b4a{h:Heap}:∀(as:List Addr) {g:Heap},Sub g h→(∀a∈as,∀o,h.get? a=some o→∃v,o.data=.cell v)→
  ∃g':Heap,Sub g g'∧Sub g' h∧(∀a∈as,g'.get? a=h.get? a)∧(∀b,b∉as→g'.get? b=g.get? b)∧(ND g→ND g')
 |[],g,s,_=>⟨g,.refl g,s,(fun _ hm=>nomatch hm),fun _ _=>rfl,id⟩
 |a::as,g,s,ha=>by
  obtain⟨g1,s1,s2,s3,s4,s5⟩:=b4a as s fun b hb=>ha b (List.mem_cons_of_mem _ hb);obtain⟨g2,t1,t2,t3,t4,t5⟩:=b5g s2 a fun o e _ ⟨vs,n,hd⟩=>by
   obtain⟨v,e2⟩:=ha a (.head _) o e;rw[e2]at hd; cases hd
  refine⟨g2,s1.trans t1,t2,fun b hb=>?_,fun b hb=>?_,fun h=>t5 (s5 h)⟩
  ·by_cases hba:b=a
   ·subst hba; exact t3
   ·exact(t4 b hba).trans (s3 b ((List.mem_cons.mp hb).resolve_left hba))
  ·exact(t4 b fun q=>hb (q ▸ .head _)).trans (s4 b fun q=>hb (List.mem_cons_of_mem _ q))
end
section
section
variable {C:Cfg} {n:Nat} {hz:Bool} {k:Ck}
theorem b6u{xs:List Str}{L a:Addr}(hn:(fd.scope.names.map (·.1)).Nodup):∀x c,(x,c)∈(d8j fd L a).cells→fd.scope.names.lookup x=some .cell∧c∈wr (a2f fd.scope.names xs) (d8j fd L a):=fun x c hm=>by
 have hcl:(d8j fd L a).cells.lookup x=some c:=a0p (a3f hn).1 hm;have hk:fd.scope.names.lookup x=some .cell:=by
  by_cases q:fd.scope.names.lookup x=some .cell
  ·exact q
  ·have:=(a0n fd.scope.names (L+1) [] hn x).1 q
   have hcl:(cellsFrom (L+1) fd.scope.names []).lookup x=some c:=hcl;rw[hcl]at this; simp at this
 refine⟨hk,List.mem_cons_of_mem _ (List.mem_filterMap.mpr ⟨x,?_,hcl⟩)⟩;exact List.mem_map.mpr ⟨_,List.mem_filter.mpr ⟨d8k hk,by simp⟩,rfl⟩
theorem b5a{s:d8f}{al:List Addr}{st:St}{Qc:V→List OV→Prop}{xs:List Str}{name qual:Str}{ibody:List Stmt}{iscope:Scope}{doc pm ctv:d8g}{c' fA F:Addr}{ps ls fs:List Str}{body:Ss}{fr:List V}{us:List V}
 (Gd:Good C k) (P:PvAt C k) (T:TokAt C) (hn:(fd.scope.names.map (·.1)).Nodup) (henv:∃L a,env=d8j fd L a) (H:Here C (a2f fd.scope.names xs) hz n A env g s al st)
 (hfo:g.get? fA=some (fnMade name qual params ibody iscope (a0y env iscope.names []) doc pm c' ctv)) (hcr:g.CodeRec (.ref c') qual)
 (ok:FnOKc (fnX name qual params ibody iscope (a0y env iscope.names []) .none .none doc pm none (.ref c') ctv) ps ls fs (a0y env iscope.names []) ibody)
 (hfree:∀p∈iscope.names,p.2=.free→fd.scope.names.lookup p.1=some .cell)
 (hfl:fr.length=fs.length) (hfr:∀(i:Nat) (x:Str),fs[i]?=some x→∃u v,fr[i]?=some u∧Look env s.heap x v∧((∃d,u=.dat d∧RD g v d)∨(∃j a,u=.own j∧al[j]?=some a∧v=.ref a)∨(u=.fn F∧v=.ref fA)))
 (hck:c8f (b5u F) false (a2f iscope.names (ps++ls++fs)) body ibody)
 (hiv:InVs C g al vs us) (hud:∀u∈us,∃d,u=.dat d)
 (hw:inl F C.toks ps.length ls.length fr body n F st.hz [] us st.own Qc)
 (kk:∀v d ow' s' g',BRel C g' s'.heap al ow'→Step (wr (a2f fd.scope.names xs) env++(al++C.TA)) s g s' g'→RD g' v d→Qc (.dat d) ow'→(∀x c w,env.cells.lookup x=some c→s.heap.IsCell c w→s'.heap.IsCell c w)→Q' v s') :
  d8i (model C.prog C.w) A (call (.ref fA) vs) Q' Eh s:=by
 obtain⟨L,a0,rfl⟩:=henv;have R:=H.rel;have cellof:∀c∈(d8j fd L a0).cells.map (·.2),∃x w,(d8j fd L a0).cells.lookup x=some c∧s.heap.IsCell c w:=fun c hc=>by
  obtain⟨⟨x,c1⟩,hp,rfl⟩:=List.mem_map.mp hc;obtain⟨hk,_⟩:=b6u (xs:=xs) hn x c1 hp;obtain⟨c2,w,h2,h3⟩:=R.cell x (.inl hk)
  have:(d8j fd L a0).cells.lookup x=some c1:=a0p (a3f hn).1 hp
  rw[this]at h2; cases h2;exact⟨x,w,this,h3⟩
 obtain⟨g1,sg1,sg2,fz,nfz,nd1⟩:=b4a ((d8j fd L a0).cells.map (·.2)) R.sub fun c hc o ho=>by
  obtain⟨x,w,_,o',ho',hd⟩:=cellof c hc;rw[ho]at ho'; cases ho'; exact⟨_,hd⟩
 have C1:C.Amb g1:=R.amb.mono sg1;have cellin:∀x c w,(d8j fd L a0).cells.lookup x=some c→s.heap.IsCell c w→g1.IsCell c w:=fun x c w hc hw=>by
  obtain⟨o,ho,hd⟩:=hw;exact⟨o,(fz c (List.mem_map.mpr ⟨_,d8k hc,rfl⟩)).trans ho,hd⟩
 have notcell:∀b o,s.heap.get? b=some o→(∀w,o.data ≠ .cell w)→g.get? b=none→g1.get? b=none:=fun b o ho hd hg=>by
  refine(nfz b fun hm=>?_).trans hg;obtain⟨_,w,_,o',ho',hd'⟩:=cellof b hm;rw[ho]at ho'; cases ho'; exact hd _ hd'
 have st1:Step (wr (a2f fd.scope.names xs) (d8j fd L a0)) s g s g1:={
  same:=⟨s.heap,s.toks,rfl⟩
  sub:=sg1
  keep:=fun b o _ e=>.of e
  low:=fun _=>sg2
  fresh:=fun b o hb _ hg=>(nfz b fun hm=>by
   obtain⟨⟨x,c⟩,hp,rfl⟩:=List.mem_map.mp hm;exact hb (b6u hn x c hp).2).trans hg
  nd:=nd1 }
 have mem_priv:∀b∈(d8j fd L a0).cells.map (·.2),b∈a4w (d8j fd L a0):=fun b hb=>List.mem_cons_of_mem _ hb;have B1:BRel C g1 s.heap al st.own:={
  sub:=sg2,amb:=C1,nd:=nd1 R.nd
  tabs:=R.tabs.keep sg1 (fun P _ ob e=>.of e) fun P hP=>by
   obtain⟨q1,_⟩:=R.tabs P hP;exact(nfz P fun hm=>R.pta P (mem_priv P hm) hP).trans q1
  olen:=R.olen
  own:=fun j o e=>by
   obtain⟨a,ha,q⟩:=R.own j o e;exact⟨a,ha,q.keep sg1 (fun ob e=>.of e) fun hg=>(nfz a fun hm=>R.pal a (mem_priv a hm) (List.mem_of_getElem? ha)).trans hg⟩
  alnd:=R.alnd,ata:=R.ata,base:=R.base }
 have FB:FrB (C.at g1 F fA al) A g1 s.heap al:=by
  obtain⟨es,f1,f2⟩:=H.fr.b R;refine⟨es,f1,fun e he=>?_⟩;obtain⟨k1,Lf,k2,k3,k4,k5,o,es',ep,k6,k7⟩:=f2 e he;exact⟨k1,Lf,k2,notcell Lf o k6 (fun w q=>by rw[k7]at q; cases q) k3,k4,k5,o,es',ep,k6,k7⟩
 have clk:∀x c,(x,c)∈a0y (d8j fd L a0) iscope.names []→(x,NameKind.free)∈iscope.names∧(d8j fd L a0).cells.lookup x=some c:=fun x c hm=>by
  rcases a3g hm with h|⟨h,e⟩
  ·cases h
  ·obtain⟨c1,_,hc,_⟩:=R.cell x (.inl (hfree _ h rfl))
   rw[hc]at e;exact⟨h,e▸hc⟩
 have hfs:c9f (C.at g1 F fA al) (a0y (d8j fd L a0) iscope.names []) fs fr:=by
  refine⟨hfl,fun i x hx=>?_⟩;obtain⟨u,v,h1,h2,h3⟩:=hfr i x hx;have hkf:iscope.names.lookup x=some .free:=ok.kindf x (List.mem_of_getElem? hx);have hkc:fd.scope.names.lookup x=some .cell:=hfree _ (d8k hkf) rfl;have hlk:∃c,(d8j fd L a0).cells.lookup x=some c∧s.heap.IsCell c (some v):=by
   rcases h2 with⟨hk,_⟩|⟨_,c,hc,hcell⟩
   ·rw[H.eok.kindOf]at hk
    have hk:fd.scope.names.lookup x=some .local:=hk;rw[hkc]at hk; cases hk
   ·exact⟨c,hc,hcell⟩
  obtain⟨c,hc,hcell⟩:=hlk;refine⟨u,c,v,h1,?_,fun g' hg=>⟨?_,fun al' hal=>?_⟩⟩
  ·refine a0p (a2c (acc:=[]) ok.nodup List.nodup_nil (fun _ h=>nomatch h)) (a6k (.inr ⟨d8k hkf,?_⟩))
   show c=((d8j fd L a0).cells.lookup x).getD 0;rw[hc]; rfl
  ·obtain⟨o,ho,hd⟩:=cellin x c _ hc hcell
   exact⟨o,hg.K _ _ ho,hd⟩
  ·rcases h3 with⟨d,rfl,r⟩|⟨j,a,rfl,ha,rfl⟩|⟨rfl,rfl⟩
   ·exact(r.mono sg1).mono hg.K
   ·exact⟨a,a9g hal ha,rfl⟩
   ·show Value.ref fA=(if F=F then Value.ref fA else C.fnv F)
    rw[if_pos rfl]
 have hclc:∀c∈(a0y (d8j fd L a0) iscope.names []).map (·.2),∃v,g1.IsCell c v:=fun c hc=>by
  obtain⟨⟨x,c1⟩,hp,rfl⟩:=List.mem_map.mp hc;obtain⟨h1,h2⟩:=clk x c1 hp;obtain⟨c2,w,h3,h4⟩:=R.cell x (.inl (hfree _ h1 rfl));rw[h2]at h3; cases h3;exact⟨w,cellin x c1 w h2 h4⟩
 have hctx:=c6v (F:=F) (f:=fA) (b:=al) (g1:=g1) Gd P T C1 (sg1 _ _ hfo) rfl (a1h sg1 hcr) ok hfs hclc hck n;have hiv':InVs (C.at g1 F fA al) g1 al (vs++[]) us:=by
  rw[List.append_nil];have key:∀(vs:List d8g) (us:List V),InVs C g al vs us→(∀u∈us,∃d,u=.dat d)→InVs (C.at g1 F fA al) g1 al vs us:=by
   intro vs
   induction vs with
   |nil=>intro us h _; cases us with|nil=>trivial|cons=>exact h.elim
   |cons v r ih=>
    intro us h hd;cases us with
    |nil=>exact h.elim
    |cons u q=>
     obtain⟨d,rfl⟩:=hd u (.head _);exact⟨RD.mono sg1 h.1,ih q h.2 fun u hu=>hd u (List.mem_cons_of_mem _ hu)⟩
  exact key vs us hiv hud
 have hw':inl F C.toks ps.length ls.length fr body n F st.hz [] us st.own fun u ow=>(∃d,u=.dat d)∧Qc u ow:=by
  cases n with
  |zero=>exact hw.elim
  |succ m=>
   obtain⟨h1,h2,h3,h4,h5⟩:=hw;refine⟨h1,h2,h3,h4,?_⟩;have e:(fun(fl:Fl) (st':St)=>(∃d,V.dat (match fl with|.ret d=>d|.next=>PyData.none)=.dat d)∧Qc (.dat (match fl with|.ret d=>d|.next=>.none)) (st'.own.take st.own.length))=(fun(fl:Fl) (st':St)=>Qc (.dat (match fl with|.ret d=>d|.next=>.none)) (st'.own.take st.own.length)):=by
    funext fl st'; simp
   show a1n _ _ _ _ fun fl st'=>(∃d,V.dat (match fl with|.ret d=>d|.next=>PyData.none)=.dat d)∧Qc (.dat (match fl with|.ret d=>d|.next=>.none)) (st'.own.take st.own.length)
   rw[e];exact h5
 have c:=hctx F A g1 s al st.own st.hz vs [] [] us Eh _ Q' (H.ok.mono sg1) B1.toAt FB rfl hiv' hw' fun v u ow' s' g' B x iv hq=>?_
 ·simpa[Cfg.at]using c
 ·obtain⟨⟨d,rfl⟩,hq⟩:=hq
  refine kk v d ow' s' g' (BRel.ofAt C1 R.base B) ((st1.mono fun b hb=>List.mem_append_left _ hb).tr (x.mono fun b hb=>List.mem_append_right _ hb)) iv hq fun x c w hc hw=>?_;obtain⟨o,ho,hd⟩:=cellin x c w hc hw;exact⟨o,B.sub _ _ (B.amb.K _ _ ho),hd⟩
end
end
section
noncomputable def a4v(params:Arguments)(iscope:Scope)(ps ls fs:List Str):Bool:=
 iscope.kind == .function && !iscope.isCoroutine && !iscope.isGenerator&&decide ((iscope.names.map (·.1)).Nodup)&&decide ((ps++ls++fs).Nodup)&&(ps++ls).all (fun x=>iscope.names.lookup x==some .local) &&
  fs.all (fun x=>iscope.names.lookup x==some .free)&&iscope.names.all (fun p=>p.2 != .cell&&(p.2 != .free||fs.contains p.1))&&a4e params .none ps
theorem a8s{name qual:Str}{ibody:List Stmt}{iscope:Scope}{doc pm cd ctv:d8g}{ps ls fs:List Str}(h:a4v params iscope ps ls fs=true)(hcl:(cl.map (·.2)).Nodup) :
  FnOKc (fnX name qual params ibody iscope cl .none .none doc pm none cd ctv) ps ls fs cl ibody:=by
 have h9:=a0a h;have h8:=List.all_eq_true.mp (a0a (a0b h));have h7:=List.all_eq_true.mp (a0a (a0b (a0b h)));have h6:=List.all_eq_true.mp (a0a (a0b (a0b (a0b h))));have h5:=of_decide_eq_true (a0a (a0b (a0b (a0b (a0b h)))));exact{
  body:=rfl,closure:=rfl,kind:=beq_iff_eq.mp (a0b (a0b (a0b (a0b (a0b (a0b (a0b (a0b h)))))))),co:=b2o (a0a (a0b (a0b (a0b (a0b (a0b (a0b (a0b h)))))))),gen:=b2o (a0a (a0b (a0b (a0b (a0b (a0b (a0b h))))))),globals:=rfl,builtins:=rfl,nodup:=of_decide_eq_true (a0a (a0b (a0b (a0b (a0b (a0b h)))))),xnodup:=h5
  kinds:=fun x hx=>beq_iff_eq.mp (h6 x hx)
  kindf:=fun x hx=>beq_iff_eq.mp (h7 x hx)
  nocell:=fun p hp=>bne_iff_ne.mp (a0b (h8 p hp))
  allfree:=fun p hp hf=>(Bool.or_eq_true_iff.mp (a0a (h8 p hp))).elim (fun k=>absurd hf (bne_iff_ne.mp k)) List.contains_iff_mem.mp
  clnd:=hcl
  bind:=fun vals hl=>a9z h9 (List.nodup_append.mp (List.nodup_append.mp h5).1).1 vals hl }
section
variable {C:Cfg} {Γ:Ctx} {n:Nat} {hz:Bool} {k:Ck}
theorem b6x{sc:SI}{s:d8f}{al:List Addr}{st:St}{name qual:Str}{body:List Stmt}{pos:Pos}{c P:Addr}{Q:Flow→d8f→Prop}(N:NestAt C c P pos qual)(so:SIOK sc)(H:Here C sc hz n A env g s al st)
 (hcode:env.code=.ref c) (hq:qualnameIn env name name=qual) (hfree:∀p∈scope.names,p.2=.free→sc.names.lookup p.1=some .cell∨sc.names.lookup p.1=some .free) (hx:a5w sc name i=true)
 (hd0:params.defaults=[]) (hk0:params.kw_defaults=[]) (ha:annTrees params none env=[])
 (h:∀f doc pm ctv c' s' g',Here C sc hz n A env g' s' al (st.set i .undef)→Step (wr sc env++(al++C.TA)) s g s' g'→g'.get? f=some (fnMade name qual params body scope (a0y env scope.names []) doc pm c' ctv)→g'.CodeRec (.ref c') qual→Look env s'.heap name (.ref f)→Q .next s') :
  d8i (model C.prog C.w) A (exec (.FunctionDef name params body [] none [] scope none name pos) env) Q Eh s:=by
 refine nestDef_K hd0 hk0 ha ?_;rw[hq];refine c7v N H hcode hfree fun f doc pm ctv c' s' g' H' x' hfn hfo hcr=>?_;refine a3i so H'.eok H'.rel (a3k hx) ((a4q hx).imp id fun h=>h.1) (u:=.undef) trivial fun s2 b hb x2 R2 lk _=>?_;have x3:Step (wr sc env) s' g' s2 g':=x2.mono fun c hc=>by simp at hc; subst hc; exact a5q hx hb
 refine h f doc pm ctv c' s2 g' ⟨H'.ok,H'.hz,H'.eok,R2,H'.fr.step x3 fun c hc=>.inl (a2b hc)⟩ ?_ hfo hcr lk;exact(x'.mono fun b hb=>List.mem_append_right _ (List.mem_append_right _ hb)).tr (x3.mono fun b hb=>List.mem_append_left _ hb)
theorem NestAt.pos{c P:Addr}{p p':Pos}(N:NestAt C c P p qual)(h1:p'.line=p.line)(h2:p'.col=p.col):NestAt C c P p' qual where
 hd:=N.hd
 mem:=N.mem
 out:=fun g o h=>by rw[h1,h2]; exact N.out g o h
 put:=fun g c' h=>by rw[h1,h2]; exact N.put g c' h
 bm:=N.bm
noncomputable def d1y(params:Arguments):Bool:=params.args.all fun a=>a.annotation.isNone
theorem b7r{dV:d8g}(h:a4e params dV ps=true)(h2:d1y params=true):annTrees params none env=[]:=by
 unfold a4e at h;simp only[Bool.and_eq_true,List.isEmpty_iff,Option.isNone_iff_eq_none,beq_iff_eq]at h;obtain⟨⟨⟨⟨⟨h1,h2'⟩,h3⟩,h4⟩,h5⟩,h6⟩:=h;obtain⟨po,a,va,ko,kd,kwa,de⟩:=params;dsimp only at h1 h2' h3 h4;subst h1 h2' h3 h4;unfold annTrees;have key:∀l:List Arg,(l.all fun a=>a.annotation.isNone)=true→annotationsOf l env=[]:=by
  intro l
  induction l with
  |nil=>intro _; rfl
  |cons x r ih=>
   intro h;simp only[List.all_cons,Bool.and_eq_true,Option.isNone_iff_eq_none]at h;obtain⟨arg,ann,pos⟩:=x;have h1:ann=none:=h.1;subst h1;exact ih h.2
 show annotationsOf (a++[]++[]++[]++[]) env++[]=[];simp only[List.append_nil];exact key a h2
theorem BRel.frozen{s:d8f}{al:List Addr}{ow:List OV}{D:Addr}{l:List d8e}(B:BRel C g s.heap al ow)(hD:al[j]?=some D)(hl:ow[j]?=some (.lst l)) :
  ∃g',BRel C g' s.heap al (ow.set j (.froz l))∧Step [D] s g s g'∧RD g' (.ref D) (.list l):=by
 obtain⟨D',hD',hg,vs,⟨nn,hp⟩,r⟩:=B.own j _ hl;rw[hD]at hD'; cases hD';obtain⟨g',s1,s2,x1,x2,x3⟩:=a7c B.sub D fun o e _=>by rw[hp]at e; cases e; rfl
 have rd:RD g' (.ref D) (.list l):=RD.list ⟨_,x1.trans hp,rfl,nn,rfl⟩ (r.mono s1);have hDm:=List.mem_of_getElem? hD;refine⟨g',?_,⟨⟨s.heap,s.toks,rfl⟩,s1,fun b o _ e=>.of e,fun _=>s2,fun b o hb _ hg=>(x2 b (by simpa using hb)).trans hg,x3⟩,rd⟩
 exact{
  sub:=s2,amb:=B.amb.mono s1,nd:=x3 B.nd
  tabs:=B.tabs.keep s1 (fun P _ ob e=>.of e) fun P hP=>(x2 P fun q=>B.ata D hDm (q▸hP)).trans (B.tabs P hP).1
  olen:=by simpa using B.olen
  own:=fun i o e=>by
   rw[List.getElem?_set]at e
   split at e
   ·rename_i hij
    subst hij
    split at e
    ·cases e; exact⟨D,hD,rd⟩
    ·cases e
   ·rename_i hij
    obtain⟨a,ha,q⟩:=B.own i o e;refine⟨a,ha,q.keep s1 (fun ob e=>.of e) fun hg=>(x2 a fun q'=>?_).trans hg⟩;subst q';obtain⟨h1,e1⟩:=List.getElem?_eq_some_iff.mp hD;obtain⟨h2,e2⟩:=List.getElem?_eq_some_iff.mp ha;exact hij ((List.getElem_inj (h₀:=h1) (h₁:=h2) B.alnd).mp (e1.trans e2.symm))
  alnd:=B.alnd,ata:=B.ata,base:=B.base }
end
end
section
noncomputable def d5f:List Str:=["x", "L", "R"]
noncomputable def d0y:List Str:=["a_digits", "n", "inner"]
noncomputable def a1j:List Str:=["a", "n", "a_digits", "inner"]
set_option backward.match.sparseCases false in
noncomputable def fA:Stmt→Arguments|.FunctionDef _ a _ _ _ _ _ _ _ _=>a|_=>default
set_option backward.match.sparseCases false in
noncomputable def fS:Stmt→Scope|.FunctionDef _ _ _ _ _ _ s _ _ _=>s|_=>default
noncomputable def c4w (S1:S) (args:Es) (body:Ss) (l:List Stmt):List Stmt:=[rbS S1 (sh l),.FunctionDef "inner" (fA (sh l.tail)) (a5i body (sB (sh l.tail))) [] none [] (fS (sh l.tail)) none "inner" (sP (sh l.tail)),
 .If (rbE (.var 0) (sV (sh l.tail.tail))) [.Expr (.Call (.Name "inner" (xP (x1 (sV (sh (sB (sh l.tail.tail))))))) (a7p args (xs (sV (sh (sB (sh l.tail.tail)))))) [] (xP (sV (sh (sB (sh l.tail.tail)))))) (sP (sh (sB (sh l.tail.tail))))] [] (sP (sh l.tail.tail)),
 .Return (some (.Name "a_digits" (xP (sV (sh l.tail.tail.tail))))) (sP (sh l.tail.tail.tail))]
noncomputable def d7b (k:Ck) (F:Nat) (fd:FuncData) (nms:List Str) (inj:Nat) (ips ls ifs:List Str) (body:Ss) (pos:Pos) (d:Stmt):Bool:=(sP d).line==pos.line&&((sP d).col==pos.col&&(a5w (a2f fd.scope.names nms) "inner" inj&&((fA d).defaults.isEmpty&&((fA d).kw_defaults.isEmpty&&(d1y (fA d)&&(a4v (fA d) (fS d) ips ls ifs&&((fS d).names.all (fun p=>p.2 != .free||fd.scope.names.lookup p.1==some .cell)&&b7w (b5u F) false (a2f (fS d).names (ips++ls++ifs)) body (sB d))))))))
noncomputable def d3q(k:Ck)(F:Nat)(fd:FuncData)(S1:S)(args:Es)(ls:List Str)(body:Ss)(pos:Pos)(l:List Stmt):Bool:=d7b k F fd a1j 3 d5f ls d0y body pos (sh l.tail)&&(ckS k true (a2f fd.scope.names a1j) S1 (sh l) &&
  (nmv (a2f fd.scope.names a1j) "a_digits" 2&&(nmv (a2f fd.scope.names a1j) "n" 1&&(fd.scope.names.lookup ("a_digits" : Str)==some NameKind.cell&&(b9a k true (a2f fd.scope.names a1j) (.var 0) (sV (sh l.tail.tail))&&(c5a args&&b8r k true (a2f fd.scope.names a1j) args (xs (sV (sh (sB (sh l.tail.tail)))))))))))
def d6y(Γ:Ctx)(tk:List (d8e×d8e))(F nl:Nat)(body:Ss)(m:Nat)(S1:S)(args:Es):St→(Fl→St→Prop)→Prop:=fun st Q=>st.hz=true∧wpS Γ tk S1 st fun fl st1=>match fl with
 |.ret _=>False
 |.next=>∃(j:Nat) (nn:Int),wpT Γ (.var 0) (st1.set 3 .undef) fun b st2=>st2.get 2=.own j ∧
   if b=true then wpAs Γ args st2 [] fun us st3=>st3.get 2=.own j∧st3.get 1=.dat (.int nn)∧(∀u∈us,∃d,u=.dat d) ∧
    inl F tk 3 nl [.own j,.dat (.int nn),.fn F] body m F st3.hz [] us st3.own fun _ ow=>∃l,ow[j]?=some (.lst l)∧Q (.ret (.list l)) { st3 with own:=ow.set j (.froz l) }
   else ∃l,st2.own[j]?=some (.lst l)∧Q (.ret (.list l)) (st2.setOwn j (.froz l))
section
variable {C:Cfg} {Γ:Ctx} {n:Nat} {k:Ck}
theorem b7h{sc:SI}{g h:Heap}{al:List Addr}{st:St}{i j:Nat}(R:Rel C sc env g h al st)(hi:sc.ids.lookup x=some i)(e:st.get i=.own j):∃D,al[j]?=some D∧Look env h x (.ref D):=by
 rcases R.vars x i hi with h0|⟨v,hl,hv⟩
 ·have:=h0 _ rfl; rw[e]at this; cases this
 ·rw[e]at hv
  obtain⟨a,ha,rfl⟩:=hv;exact⟨a,ha,hl⟩
theorem b2k{sc:SI}{g h:Heap}{al:List Addr}{st:St}(R:Rel C sc env g h al st)(hi:sc.ids.lookup x=some i)(e:st.get i=.dat d):∃v,Look env h x v∧RD g v d:=by
 rcases R.vars x i hi with h0|⟨v,hl,hv⟩
 ·have:=h0 _ rfl; rw[e]at this; cases this
 ·rw[e]at hv
  exact⟨v,hl,hv⟩
theorem c3f{body:Ss}{S1:S}{args:Es}{stmts l0:List Stmt}{pos:Pos}{c P:Addr}{ps0 ls0:List Str}(hxs:ps0++ls0=a1j)(Gd:Good C k)(Γok:a4c C Γ n)(X:Extra C Γ n k)(PV:PvAt C k)(TK:TokAt C)(N:NestAt C c P pos qual)(ok:FnOK fd ps0 ls0 stmts)
 (hcode:fd.code=.ref c) (hq:∀L a,qualnameIn (d8j fd L a) "inner" "inner" = qual) (hck:d3q k F fd S1 args ls body pos l0=true) :
  SSW C (a2f fd.scope.names (ps0++ls0)) n true fd (d6y Γ C.toks F ls.length body n S1 args) (c4w S1 args body l0):=fun A env g s al st Eh Q Q' henv H hw kk=>by
 have so:=a8i ok;rw[hxs]at so H kk;unfold c4w;have hin0:=a0b hck;have hck1:=a0a hck;have hS1:=a0b hck1; have hck2:=a0a hck1;have hya:=a0b hck2; have hck3:=a0a hck2;have hnn:=a0b hck3; have hck4:=a0a hck3;have hyc:fd.scope.names.lookup ("a_digits" : Str)=some NameKind.cell:=beq_iff_eq.mp (a0b hck4);have hT:=a0b (a0a hck4);have hne:=a0b (a0a (a0a hck4));have hAs:=a0a (a0a (a0a hck4));have hp1:(sP (sh l0.tail)).line=pos.line:=beq_iff_eq.mp (a0b hin0);have d1:=a0a hin0;have hp2:(sP (sh l0.tail)).col=pos.col:=beq_iff_eq.mp (a0b d1);have d2:=a0a d1;have hin:=a0b d2; have d3:=a0a d2;have hd0:(fA (sh l0.tail)).defaults=[]:=List.isEmpty_iff.mp (a0b d3);have d4:=a0a d3;have hk0:(fA (sh l0.tail)).kw_defaults=[]:=List.isEmpty_iff.mp (a0b d4);have d5:=a0a d4;have hna:=a0b d5; have d6:=a0a d5;have hshape:=a0b d6; have d7:=a0a d6;have hfr:=a0b d7;have hbody:c8f (b5u F) false (a2f (fS (sh l0.tail)).names (d5f++ls++d0y)) body (a5i body (sB (sh l0.tail))):=⟨_,a0a d7,rfl⟩;generalize sP (sh l0.tail)=pos' at hp1 hp2 ⊢;generalize fA (sh l0.tail)=params at hd0 hk0 hna hshape ⊢;generalize fS (sh l0.tail)=iscope at hshape hfr hbody ⊢;generalize a5i body (sB (sh l0.tail))=ibody at hbody ⊢;clear hck hin0 hck1 hck2 hck3 hck4 d1 d2 d3 d4 d5 d6 d7;have hplain:a4e params .none d5f=true:=by unfold a4v at hshape; simp only[Bool.and_eq_true]at hshape; exact hshape.2
 have N':=N.pos hp1 hp2;obtain⟨L0,a0,rfl⟩:=henv;obtain⟨hhz,hw⟩:=hw;have hfree:∀p∈iscope.names,p.2=.free→fd.scope.names.lookup p.1=some .cell:=fun p hp hf=>by
  have:=List.all_eq_true.mp hfr p hp
  simp only[hf,Bool.or_eq_true,bne_iff_ne,ne_eq,not_true_eq_false,false_or,beq_iff_eq]at this
  exact this
 refine d8m (c6y Gd Γok X true S1 _ _ so hS1 A _ g s al st Eh _ _ H hw fun fl f al1 g1 s1 st1 a1 hf hw1=>?_);cases fl with
 |ret d=>exact hw1.elim
 |next=>
 cases f with
 |next=>
  obtain⟨j,nn,hw1⟩:=hw1;refine d8m (b6x N' so a1.here hcode (hq _ _) (fun p hp hf=>.inl (hfree p hp hf)) hin hd0 hk0 (b7r hplain hna) fun fA doc pm ctv c' s2 g2 H2 x2 hfo hcr lk=>?_);refine d8m (wpAny_If (a3z Gd Γok (.var 0) _ _ so hT A _ g2 s2 al1 _ Eh _ _ H2 hw1 fun b st4 s4 g4 a4 hw4=>?_));have H4:=H2.go a4;have lk4:=a7s H2.rel lk a4.step fun b hb=>by
   rcases List.mem_append.mp hb with h|h
   ·exact fun hm=>H2.rel.pal b hm h
   ·exact fun hm=>H2.rel.pta b hm h
  obtain⟨hj,hw4⟩:=hw4;obtain⟨D,hD,lkD⟩:=b7h H4.rel (a4b hya).1 hj;have new1:∀b∈wr (a2f fd.scope.names a1j) (d8j fd L0 a0)++(al1++C.TA),b∈wr (a2f fd.scope.names a1j) (d8j fd L0 a0)++(al++C.TA)∨s.heap.get? b=none:=fun b hb=>by
   rcases List.mem_append.mp hb with h|h
   ·exact .inl (List.mem_append_left _ h)
   ·rcases List.mem_append.mp h with h|h
    ·exact(a1.new b h).imp (fun h=>List.mem_append_right _ (List.mem_append_left _ h)) id
    ·exact .inl (List.mem_append_right _ (List.mem_append_right _ h))
  have step4:Step (wr (a2f fd.scope.names a1j) (d8j fd L0 a0)++(al++C.TA)) s g s4 g4:=(a1.step.trans x2 new1).trans (a4.step.mono (W':=wr (a2f fd.scope.names a1j) (d8j fd L0 a0)++(al1++C.TA)) fun b hb=>List.mem_append_right _ hb) new1;have fin:∀{yp rp:Pos} (s5:d8f) (g5:Heap) (ow:List OV) (l:List d8e) (st':St),BRel C g5 s5.heap al1 ow→Step (wr (a2f fd.scope.names a1j) (d8j fd L0 a0)++(al1++C.TA)) s4 g4 s5 g5→Look (d8j fd L0 a0) s5.heap "a_digits" (.ref D)→ow[j]?=some (.lst l)→st'.own=ow.set j (.froz l)→Q (.ret (.list l)) st'→
    d8i (model C.prog C.w) A (execs [.Return (some (.Name "a_digits" yp)) rp] (d8j fd L0 a0)) Q' Eh s5:=fun s5 g5 ow l st' B5 x5 l5 hl hst hq=>by
   refine d8m (wpAny_Return_some (a2r H.eok l5 (by decide) (by decide) ?_))
   obtain⟨g6,B6,x6,rd⟩:=B5.frozen hD hl;refine kk (.ret (.list l)) (.ret (.ref D)) al1 g6 s5 st' a1.pre (by rw[hst]; exact B6) ?_ rd hq
   refine(step4.trans x5 new1).trans (x6.mono (W':=wr (a2f fd.scope.names a1j) (d8j fd L0 a0)++(al1++C.TA)) fun b hb=>?_) new1;simp at hb; subst hb;exact List.mem_append_right _ (List.mem_append_left _ (List.mem_of_getElem? hD))
  cases b with
  |false=>
   rw[if_neg (by decide)]at hw4
   obtain⟨l,hl,hq⟩:=hw4;exact wpAny_execs_nil (fin s4 g4 st4.own l (st4.setOwn j (.froz l)) H4.rel.b .refl lkD hl rfl hq)
  |true=>
   rw[if_pos rfl]at hw4;refine d8m (a6d H.eok rfl (d8u (a2r H.eok lk4 (by decide) (by decide) ?_)))
   have hu:=b8q hne (xs (sV (sh (sB (sh l0.tail.tail)))));refine a5g (o:=fnMade "inner" qual params ibody iscope (a0y (d8j fd L0 a0) iscope.names []) doc pm c' ctv) (fd:=fnX "inner" qual params ibody iscope (a0y (d8j fd L0 a0) iscope.names []) .none .none doc pm none (.ref c') ctv) rfl hu ?_;refine(a1p Gd Γok args _ _ so hAs).2.1 A _ g4 s4 al1 st4 Eh _ [] _ _ H4 hw4 fun vs us st5 s5 g5 a5 i5 hw5=>?_;have H5:=H4.go a5;have hfo5:=a5.step.sub _ _ (a4.step.sub _ _ hfo);refine⟨a5.rel.sub _ _ hfo5,?_⟩;have apart5:∀b∈al1++C.TA,b∉a4w (d8j fd L0 a0):=fun b hb=>by
    rcases List.mem_append.mp hb with h|h
    ·exact fun hm=>H4.rel.pal b hm h
    ·exact fun hm=>H4.rel.pta b hm h
   have lk5:=a7s H4.rel lk4 a5.step apart5;obtain⟨hj5,hn5,hud,hw5⟩:=hw5;obtain⟨vn,lkn,rn⟩:=b2k a5.rel (a4b hnn).1 hn5;obtain⟨D5,hD5,lkD5⟩:=b7h a5.rel (a4b hya).1 hj5;rw[hD]at hD5; cases hD5;have hnd:((a0y (d8j fd L0 a0) iscope.names []).map (·.2)).Nodup:=by
    have hk:=a2c (env:=d8j fd L0 a0) (names:=iscope.names) (acc:=[]) (by unfold a4v at hshape; simp only[Bool.and_eq_true,decide_eq_true_eq]at hshape; exact hshape.1.1.1.1.1.2) List.nodup_nil (fun _ h=>nomatch h)
    have hcn:=(List.nodup_cons.mp H4.rel.pnd).2;have clm:∀x c,(x,c)∈a0y (d8j fd L0 a0) iscope.names []→(d8j fd L0 a0).cells.lookup x=some c:=fun x c hm=>by
     rcases a3g hm with h|⟨h,e⟩
     ·cases h
     ·obtain⟨c1,_,hc,_⟩:=H4.rel.cell x (.inl (hfree _ h rfl))
      rw[hc]at e;exact e▸hc
    refine List.pairwise_map.mpr (List.Pairwise.imp_of_mem (fun{p q} hp hq hne=>?_) (List.pairwise_map.mp hk));exact a3h hcn (clm _ _ hp) (clm _ _ hq) hne
   have okc:=a8s (name:="inner") (qual:=qual) (ibody:=ibody) (doc:=doc) (pm:=pm) (cd:=.ref c') (ctv:=ctv) hshape hnd;refine b5a (F:=F) (fr:=[.own j,.dat (.int nn),.fn F]) Gd PV TK ok.nodup ⟨_,_,rfl⟩ H5 hfo5 (a1h a5.step.sub (a1h a4.step.sub hcr)) okc hfree rfl (fun i x hx=>?_) hbody i5 hud hw5 fun v d ow' s6 g6 B6 x6 rd hq6 hcells=>?_
   ·match i,hx with
    |0,hx=>simp[d0y]at hx; subst hx; exact⟨_,_,rfl,lkD5,.inr (.inl ⟨j,D,rfl,hD,rfl⟩)⟩
    |1,hx=>simp[d0y]at hx; subst hx; exact⟨_,_,rfl,lkn,.inl ⟨_,rfl,rn⟩⟩
    |2,hx=>simp[d0y]at hx; subst hx; exact⟨_,_,rfl,lk5,.inr (.inr ⟨rfl,rfl⟩)⟩
    |i+3,hx=>simp[d0y]at hx
   ·obtain⟨l,hl,hq⟩:=hq6
    have hyk:fd.scope.names.lookup ("a_digits" : Str)=some .cell:=hyc;have lk6:Look (d8j fd L0 a0) s6.heap "a_digits" (.ref D):=by
     rcases lkD5 with⟨hk,_⟩|⟨hk,cc,hcl,hcell⟩
     ·rw[H.eok.kindOf]at hk
      have hk:fd.scope.names.lookup ("a_digits" : Str)=some .local:=hk;rw[hyk]at hk; cases hk
     ·exact .inr ⟨hk,cc,hcl,hcells _ _ _ hcl hcell⟩
    refine wpAny_execs_nil (fin s6 g6 ow' l { st5 with own:=ow'.set j (.froz l) } B6 ?_ lk6 hl rfl hq)
    exact(a5.step.mono fun b hb=>List.mem_append_right _ hb).tr x6
 |_=>exact hf.elim
end
end
section
noncomputable def c9k:List Str:=["L", "R"]
noncomputable def b8y:List Str:=["digits", "n", "inner"]
noncomputable def a3n:List Str:=["digits", "n", "inner"]
noncomputable def c4q (args:Es) (body:Ss) (l:List Stmt):List Stmt:=[.FunctionDef "inner" (fA (sh l)) (a5i body (sB (sh l))) [] none [] (fS (sh l)) none "inner" (sP (sh l)),
 .Return (some (.IfExp (rbE (.var 0) (x1 (sV (sh l.tail)))) (.Call (.Name "inner" (xP (x1 (x2 (sV (sh l.tail)))))) (a7p args (xs (x2 (sV (sh l.tail))))) [] (xP (x2 (sV (sh l.tail))))) (.Constant (.int 0) (xK (x3 (sV (sh l.tail)))) (xP (x3 (sV (sh l.tail))))) (xP (sV (sh l.tail))))) (sP (sh l.tail))]
noncomputable def d4e(k:Ck)(F:Nat)(fd:FuncData)(args:Es)(ls:List Str)(body:Ss)(pos:Pos)(l:List Stmt):Bool:=d7b k F fd a3n 2 c9k ls b8y body pos (sh l) &&
  (nmv (a2f fd.scope.names a3n) "digits" 0&&(nmv (a2f fd.scope.names a3n) "n" 1&&(b9a k true (a2f fd.scope.names a3n) (.var 0) (x1 (sV (sh l.tail)))&&(c5a args&&b8r k true (a2f fd.scope.names a3n) args (xs (x2 (sV (sh l.tail))))))))
def d7q(Γ:Ctx)(tk:List (d8e×d8e))(F nl:Nat)(body:Ss)(m:Nat)(args:Es):St→(Fl→St→Prop)→Prop:=fun st Q=>st.hz=true∧∃(ds:List d8e) (nn:Int),wpT Γ (.var 0) (st.set 2 .undef) fun b st2=>
   if b=true then wpAs Γ args st2 [] fun us st3=>st3.get 0=.dat (.list ds)∧st3.get 1=.dat (.int nn)∧(∀u∈us,∃d,u=.dat d) ∧
    inl F tk 2 nl [.dat (.list ds),.dat (.int nn),.fn F] body m F st3.hz [] us st3.own fun v ow=>∃d,v=.dat d∧Q (.ret d) { st3 with own:=ow }
   else Q (.ret (.int 0)) st2
section
variable {C:Cfg} {Γ:Ctx} {n:Nat} {k:Ck}
theorem c0x{body:Ss}{args:Es}{stmts l0:List Stmt}{pos:Pos}{c P:Addr}{ps0 ls0:List Str}(hxs:ps0++ls0=a3n)(Gd:Good C k)(Γok:a4c C Γ n)(PV:PvAt C k)(TK:TokAt C)(N:NestAt C c P pos qual)(ok:FnOK fd ps0 ls0 stmts)
 (hcode:fd.code=.ref c) (hq:∀L a,qualnameIn (d8j fd L a) "inner" "inner" = qual) (hck:d4e k F fd args ls body pos l0=true) :
  SSW C (a2f fd.scope.names (ps0++ls0)) n true fd (d7q Γ C.toks F ls.length body n args) (c4q args body l0):=fun A env g s al st Eh Q Q' henv H hw kk=>by
 have so:=a8i ok;rw[hxs]at so H kk;unfold c4q;have hin0:=a0b hck;have hck1:=a0a hck;have hya:=a0b hck1; have hck2:=a0a hck1;have hnn:=a0b hck2; have hck3:=a0a hck2;have hT:=a0b hck3;have hne:=a0b (a0a hck3);have hAs:=a0a (a0a hck3);have hp1:(sP (sh l0)).line=pos.line:=beq_iff_eq.mp (a0b hin0);have d1:=a0a hin0;have hp2:(sP (sh l0)).col=pos.col:=beq_iff_eq.mp (a0b d1);have d2:=a0a d1;have hin:=a0b d2; have d3:=a0a d2;have hd0:(fA (sh l0)).defaults=[]:=List.isEmpty_iff.mp (a0b d3);have d4:=a0a d3;have hk0:(fA (sh l0)).kw_defaults=[]:=List.isEmpty_iff.mp (a0b d4);have d5:=a0a d4;have hna:=a0b d5; have d6:=a0a d5;have hshape:=a0b d6; have d7:=a0a d6;have hfr:=a0b d7;have hbody:c8f (b5u F) false (a2f (fS (sh l0)).names (c9k++ls++b8y)) body (a5i body (sB (sh l0))):=⟨_,a0a d7,rfl⟩;generalize sP (sh l0)=pos' at hp1 hp2 ⊢;generalize fA (sh l0)=params at hd0 hk0 hna hshape ⊢;generalize fS (sh l0)=iscope at hshape hfr hbody ⊢;generalize a5i body (sB (sh l0))=ibody at hbody ⊢;clear hck hin0 hck1 hck2 hck3 d1 d2 d3 d4 d5 d6 d7;have hplain:a4e params .none c9k=true:=by unfold a4v at hshape; simp only[Bool.and_eq_true]at hshape; exact hshape.2
 have N':=N.pos hp1 hp2;obtain⟨L0,a0,rfl⟩:=henv;obtain⟨hhz,ds,nn,hw1⟩:=hw;have hfree:∀p∈iscope.names,p.2=.free→fd.scope.names.lookup p.1=some .cell:=fun p hp hf=>by
  have:=List.all_eq_true.mp hfr p hp
  simp only[hf,Bool.or_eq_true,bne_iff_ne,ne_eq,not_true_eq_false,false_or,beq_iff_eq]at this
  exact this
 refine d8m (b6x N' so H hcode (hq _ _) (fun p hp hf=>.inl (hfree p hp hf)) hin hd0 hk0 (b7r hplain hna) fun fA doc pm ctv c' s2 g2 H2 x2 hfo hcr lk=>?_);refine d8m (wpAny_Return_some (wpAny_IfExp (a3z Gd Γok (.var 0) _ _ so hT A _ g2 s2 al _ Eh _ _ H2 hw1 fun b st4 s4 g4 a4 hw4=>?_)));have H4:=H2.go a4;have lk4:=a7s H2.rel lk a4.step fun b hb=>by
  rcases List.mem_append.mp hb with h|h
  ·exact fun hm=>H2.rel.pal b hm h
  ·exact fun hm=>H2.rel.pta b hm h
 have step4:Step (wr (a2f fd.scope.names a3n) (d8j fd L0 a0)++(al++C.TA)) s g s4 g4:=x2.tr (a4.step.mono fun b hb=>List.mem_append_right _ hb);cases b with
 |false=>
  rw[if_neg (by decide)]at hw4
  refine wpAny_Constant_int ?_;have a5:=H4.stay { s4 with toks:=s4.toks+1 } Step.toks H4.rel.sub
  exact kk (.ret (.int 0)) (.ret _) al g4 _ st4 (List.prefix_refl _) a5.rel.b (step4.tr (a5.step.mono fun b hb=>List.mem_append_right _ hb)) (RD.int 0 _) hw4
 |true=>
  rw[if_pos rfl]at hw4;refine d8u (a2r H.eok lk4 (by decide) (by decide) ?_)
  have hu:=b8q hne (xs (Mw.Internal.x2 (sV (sh l0.tail))));refine a5g (o:=fnMade "inner" qual params ibody iscope (a0y (d8j fd L0 a0) iscope.names []) doc pm c' ctv) (fd:=fnX "inner" qual params ibody iscope (a0y (d8j fd L0 a0) iscope.names []) .none .none doc pm none (.ref c') ctv) rfl hu ?_;refine(a1p Gd Γok args _ _ so hAs).2.1 A _ g4 s4 al st4 Eh _ [] _ _ H4 hw4 fun vs us st5 s5 g5 a5 i5 hw5=>?_;have H5:=H4.go a5;have hfo5:=a5.step.sub _ _ (a4.step.sub _ _ hfo);refine⟨a5.rel.sub _ _ hfo5,?_⟩;have apart5:∀b∈al++C.TA,b∉a4w (d8j fd L0 a0):=fun b hb=>by
   rcases List.mem_append.mp hb with h|h
   ·exact fun hm=>H4.rel.pal b hm h
   ·exact fun hm=>H4.rel.pta b hm h
  have lk5:=a7s H4.rel lk4 a5.step apart5;obtain⟨hj5,hn5,hud,hw5⟩:=hw5;obtain⟨vn,lkn,rn⟩:=b2k a5.rel (a4b hnn).1 hn5;obtain⟨vd,lkd,rd5⟩:=b2k a5.rel (a4b hya).1 hj5;have hnd:((a0y (d8j fd L0 a0) iscope.names []).map (·.2)).Nodup:=by
   have hk:=a2c (env:=d8j fd L0 a0) (names:=iscope.names) (acc:=[]) (by unfold a4v at hshape; simp only[Bool.and_eq_true,decide_eq_true_eq]at hshape; exact hshape.1.1.1.1.1.2) List.nodup_nil (fun _ h=>nomatch h)
   have hcn:=(List.nodup_cons.mp H4.rel.pnd).2;have clm:∀x c,(x,c)∈a0y (d8j fd L0 a0) iscope.names []→(d8j fd L0 a0).cells.lookup x=some c:=fun x c hm=>by
    rcases a3g hm with h|⟨h,e⟩
    ·cases h
    ·obtain⟨c1,_,hc,_⟩:=H4.rel.cell x (.inl (hfree _ h rfl))
     rw[hc]at e;exact e▸hc
   refine List.pairwise_map.mpr (List.Pairwise.imp_of_mem (fun{p q} hp hq hne=>?_) (List.pairwise_map.mp hk));exact a3h hcn (clm _ _ hp) (clm _ _ hq) hne
  have okc:=a8s (name:="inner") (qual:=qual) (ibody:=ibody) (doc:=doc) (pm:=pm) (cd:=.ref c') (ctv:=ctv) hshape hnd;refine b5a (F:=F) (fr:=[.dat (.list ds),.dat (.int nn),.fn F]) Gd PV TK ok.nodup ⟨_,_,rfl⟩ H5 hfo5 (a1h a5.step.sub (a1h a4.step.sub hcr)) okc hfree rfl (fun i x hx=>?_) hbody i5 hud hw5 fun v d ow' s6 g6 B6 x6 rd hq6 hcells=>?_
  ·match i,hx with
   |0,hx=>simp[b8y]at hx; subst hx; exact⟨_,_,rfl,lkd,.inl ⟨_,rfl,rd5⟩⟩
   |1,hx=>simp[b8y]at hx; subst hx; exact⟨_,_,rfl,lkn,.inl ⟨_,rfl,rn⟩⟩
   |2,hx=>simp[b8y]at hx; subst hx; exact⟨_,_,rfl,lk5,.inr (.inr ⟨rfl,rfl⟩)⟩
   |i+3,hx=>simp[b8y]at hx
  ·obtain⟨d',hd',hq⟩:=hq6
   cases hd';exact kk (.ret d) (.ret v) al g6 s6 { st5 with own:=ow' } (List.prefix_refl _) B6 ((step4.tr (a5.step.mono fun b hb=>List.mem_append_right _ hb)).tr x6) rd hq
end
end
section
theorem c0b:isSubtype (.type "ZeroDivisionError") (.type "ZeroDivisionError")=pure true:=by rw[isSubtype_type]; kernel_rfl
theorem d0k:isSubtype (.type "ZeroDivisionError") (.type "BaseException")=pure true:=by rw[isSubtype_type]; kernel_rfl
theorem d0h:isSubtype (.type ((Manifest.find? "ZeroDivisionError").elim "type" fun x=>x.metatype)) (.type "tuple")=pure false:=by
 first|(rw[isSubtype_type]; kernel_rfl)|kernel_rfl
section
variable {C:Cfg} {A:d8q} {E:d8g→d8f→Prop} {s:d8f} {env:Env}
theorem c6h {np pos:Pos} {Q:Flow→d8f→Prop} (hh:A.handled=none) (hx:d8i (model C.prog C.w) A (eval (.Name x np) env) (fun v s₁=>v=.type "ZeroDivisionError" ∧ s₁=s) E s)
 (h:∀h' e,Heap.MadeExc s.heap h' e "ZeroDivisionError" []→E (.ref e) { s with heap:=h' }) :
  d8i (model C.prog C.w) A (exec (.Raise (some (.Name x np)) none pos) env) Q E s:=by
 have hc:=excClass_ZeroDivisionError;show d8i (model C.prog C.w) A (do standAt pos; raiseStmt env (some (do let v ←eval (.Name x np) env; standAt pos; pure v)) none) Q E s
 refine d8d (d8r ?_);unfold raiseStmt;refine d8d (d8d (d8p hx (fun v s₁ h₁=>d8d (d8r (d8h ?_))) fun _ _ e=>e));obtain⟨rfl,hs₁⟩:=h₁;subst s₁;refine d8d (d8h ?_);dsimp only;refine d8d (d8l ?_);unfold excFromValue isExcClass;refine d8d (d8d (d8h ?_));rw[hc.base];refine d8h ?_;obtain⟨hp,gs,d,tk,os⟩:=s;refine d8d (wpAny_call_exc PySem.F.excCall_ZeroDivisionError (rest:=[]) fun h' e hn=>?_);obtain⟨t,he,ht0,ht⟩:=id hn.there;have hT:Shared.TypeIs ⟨h',gs,d,tk,os⟩ (.ref e) "ZeroDivisionError" :=⟨_,he,rfl⟩;refine d8d (wpAny_isInstance hT hc.base ?_);refine d8h ?_;refine d8d (m:=isType (.type "ZeroDivisionError")) (d8h ?_);refine d8d (d8l ?_);unfold raisedFor;refine d8d (wpAny_typeOf hT ?_);refine d8d (call_issubclass (issubclass_self hc c0b) ?_);dsimp only[wants];refine d8d (wpAny_truthy_bool ?_);refine d8h ?_;unfold setFlight raiseNew;refine d8d (d8d (d8w (i:=1) (x:=Value.none) he rfl rfl ?_));refine d8h (d8d (wpAny_handled ?_));rw[hh];exact d8d (d8h (wpAny_throw (h h' e hn)))
inductive ZdAt(C:Cfg):Prop
 |mk:∀a o fd ls r els p1 p2 p3 p4 p5 p6 x2,C.mg "int_divmod" = some (.ref a)→o.data=.func fd→(∀g,C.Amb g→g.get? a=some o∧g.CodeRec fd.code fd.qualname)→FnOK fd ["a", "b"] ls (.If (.Compare (.Name "b" p1) [.Eq] [.Constant (.int 0) x2 p2] p3) [.Raise (some (.Name "ZeroDivisionError" p4)) none p5] els p6::r)→fd.scope.names.lookup ("ZeroDivisionError" : Str)=some .globalImplicit→fd.scope.names.lookup ("b" : Str)=some .local→fd.scope.names.lookup ("a" : Str)=some .local→ZdAt C
theorem c0o{k:Ck}{al:List Addr}{ow:List OV}{u v:d8g}{n:Nat}{Q:d8g→d8f→Prop}(G:Good C k)(P:ZdAt C)(aok:AOK A (n+1) true g)(B:BRel C g s.heap al ow)(fb:FrB C A g s.heap al)(hv:RD g v (.int 0))
 (hE:∀h1 h' e t T fs tk,A.frames=some fs→FsIn h1 fs→Sub g h1→(∀b o,s.heap.get? b=some o→KeptIn h1 b o)→s.heap.get? t=none→h1.get? t=some { cls:=.type "tuple",data:=.seq #[] }→Exc h1 h' fs e (.type "ZeroDivisionError") (.ref t) (.ref T) .none→E (.ref e) { s with heap:=h',toks:=tk }) :
  ∀pa,C.mg "int_divmod" = some (.ref pa)→(∃po:Obj,∃fd,po.data=.func fd∧∀g,C.Amb g→g.get? pa=some po)∧d8i (model C.prog C.w) A (call (.ref pa) [u,v]) Q E s:=fun pa hpa=>by
 obtain⟨a,po,fd,ls,r,els,p1,p2,p3,p4,p5,p6,x2,hmg,hfo,hg,ok,hkz,hkb,hka⟩:=P;rw[hmg]at hpa; cases hpa;refine⟨⟨po,fd,hfo,fun g hg'=>(hg g hg').1⟩,?_⟩;obtain⟨ho,hcr⟩:=hg g B.amb;have hh:A.handled=none:=aok.none rfl;have T:=B.amb.T.keeps B.sub;refine wpAny_call (codeAny_call_cells (by have:=aok.depth; exact a1z (.t N0 N1) (.l (.p N0 (.p N2 O1)) N1) this) (B.sub _ _ ho) hfo T.nolimit ?_ ok.body (ok.bind [u,v] rfl) ok.closure (fun x hx=>?_) (fun s1 x=>?_) ok.co ok.gen ok.kind)
 ·obtain⟨c,oc,fs,t,e1,e2,e3,e4⟩:=hcr; exact⟨c,oc,fs,t,e1,B.sub _ _ e2,e3,e4⟩
 ·simp at hx; rcases hx with rfl|rfl
  ·exact .inl hka
  ·exact .inl hkb
 ·obtain⟨fs,f1,f2⟩:=fb
  have sb:Sub s.heap s1.heap:=x.toInCall.keep;obtain⟨h1,tk1,rfl⟩:=x.toInCall.same;have hns:=x.toInCall.ns;have hit:(d8j fd s.heap.objs.size pa).kindOf "b" = some .local:=hkb;have hvb:bindL (d8j fd s.heap.objs.size pa).kindOf ([("a" : Str), "b"].zip [u,v]) (fun _=>none) ("b" : Str)=some v:=by
   rw[a7q hit _ _ (by show[("a" : Str), "b"].Nodup; decide)]; rfl
  have fs0:FsIn h1 (d8j fd s.heap.objs.size pa::fs):=FsIn.cons ok.kind rfl (hns.imp fun _=>Exists.imp fun _=>Exists.imp fun _ h=>⟨h.1,h.2.1⟩) (FsIn.of f2 fun b o _ e=>⟨o.slots,sb _ _ e⟩);have sg1:Sub g h1:=B.sub.trans sb;have aok2:AOK (A.deeper (d8j fd s.heap.objs.size pa)) n true g:=⟨by have:=aok.depth; show A.depth+1+n≤_; exact a1z (.l (.p (.p N0 O1) N1) N2) (.l (.p N0 (.p N1 O1)) N2) this,by have:=aok.units; show A.units+3+4*n+70<_; exact a1z (.t (.p (.p (.p N0 (.k 3)) (.m 0 4 N1)) (.k 70)) N2) (.t (.p (.p N0 (.m 0 4 (.p N1 O1))) (.k 70)) N2) this,aok.none,aok.handled⟩
  obtain⟨t0,rfl⟩:=hv.intE;refine d8m (wpAny_If (wpAny_isTrue_Compare1 (wpAny_Name (d8z ok.kind hit hns hvb (wpAny_Constant_int ?_)) (by decide)) (by rfl)))
  obtain⟨d,hd,ht⟩:=a6w (C:=C) (A:=A.deeper (d8j fd s.heap.objs.size pa)) (E:=fun e s'=>d8i (model C.prog C.w) (A.deeper (d8j fd s.heap.objs.size pa)) (leaving (d8j fd s.heap.objs.size pa) e) (fun _ s''=>E e s'') (fun e' s''=>E e' s'') s') (s:={ s with heap:=h1,toks:=tk1+1 }) (o:=.eq) (x:=.int 0) (y:=.int 0) (Q:=fun b=>b=true) aok2 sg1 (RD.int 0 t0) (RD.int 0 _) rfl
  subst hd;refine ht _ fun vr s2 g2 st2 sg2 rr=>a3y rr fun tk2=>?_;obtain⟨h2,tk2',rfl⟩:=st2.same;have T2:=(B.amb.T.keeps st2.sub).keeps sg2;refine d8m (c6h (by exact hh) (Name_function_global ok.kind hkz (loadGlobal_builtin (v:=.type "ZeroDivisionError") (by rw[show(d8j fd s.heap.objs.size pa).globals=d8o from ok.globals]; exact T2.g) (G.bn "ZeroDivisionError" (by decide)) (by rw[show(d8j fd s.heap.objs.size pa).builtins=builtinsNs from ok.builtins]; exact T2.b) (by rw[T2.builtins "ZeroDivisionError" (by decide)]; rfl) ⟨rfl,rfl⟩) (by decide)) fun h3 e hm=>?_)
  obtain⟨t,he,ht0,htt⟩:=hm.there;have fs2:FsIn h2 (d8j fd s.heap.objs.size pa::fs):=fs0.keep fun b o e'=>by
   obtain⟨sl,e1,_⟩:=st2.keep b o (by simp) e'; exact⟨sl,e1⟩
  have sub23:Sub h2 h3:=hm.keeps;have het:t≠e:=fun q=>by rw[q]at htt; rw[htt]at he; simp at he
  obtain⟨h2',_,e2'⟩:=a4y h3 fun b=>(h2.get? b).isSome||b==t
  have sb2':Sub h2' h3:=fun b o e'=>by
                                               rw[e2' b]at e'; split at e'; · exact e'
                                               · cases e'
  have hnew:h2'.get? e=none:=by
   rw[e2' e,hm.new]
   have:(e==t)=false:=beq_false_of_ne (Ne.symm het)
   simp[this]
  have X0:Exc h2' h3 (d8j fd s.heap.objs.size pa::fs) e (.type "ZeroDivisionError") (.ref t) .none .none:={
   keep:=fun b o e' _=>sb2' b o e'
   slots:=fun b o e'=>⟨o.slots,sb2' b o e'⟩
   new:=hnew
   exc:=⟨_,_,he,rfl,rfl,rfl,rfl,rfl⟩
   trace:=fun q=>absurd rfl q }
  have hfrA:(A.deeper (d8j fd s.heap.objs.size pa)).frames=some (d8j fd s.heap.objs.size pa::fs):=by show A.frames.map _=_; rw[f1]; rfl
  refine a8o (s:={ s with heap:=h3,toks:=tk2 }) (L:=s.heap.objs.size) hfrA (fs2.keep fun b o e'=>⟨o.slots,sub23 b o e'⟩) rfl X0 (.inl rfl) fun h4 T4 X4=>?_
  obtain⟨h5,_,e5⟩:=a4y h2' fun b=>(s.heap.get? b).isSome||b==t
  have sb5:Sub h5 h2':=fun b o e'=>by
                       rw[e5 b]at e'; split at e'; · exact e'
                       ·cases e'
  have tnew:s.heap.get? t=none:=by
   cases q:s.heap.get? t with
   |none=>rfl
   |some o=>
    obtain⟨sl,e1,_⟩:=st2.keep t o (by simp) (sb _ _ q)
    have e1:h2.get? t=_:=e1;rw[ht0]at e1; cases e1
  have L2:∃o,h2.get? s.heap.objs.size=some o:=by
   obtain⟨_,L,o,_,_,q1,q2,_⟩:=fs2 _ (.head _);cases q1; exact⟨o,q2⟩
  have htL:t≠s.heap.objs.size:=fun q=>by
   obtain⟨o,ho⟩:=L2;rw[←q,ht0]at ho; cases ho
  have in5:∀b o,s.heap.get? b=some o→∀o2,h2.get? b=some o2→h5.get? b=some o2:=fun b o e' o2 e2=>by
   rw[e5 b]; simp only[e',Option.isSome_some,Bool.true_or,if_true];rw[e2' b]; simp only[e2,Option.isSome_some,Bool.true_or,if_true];exact sub23 _ _ e2
  have X5:Exc h5 h4 fs e (.type "ZeroDivisionError") (.ref t) (.ref T4) .none:=X4.shrink sb5 fun b o e' hm=>by
   rw[List.filterMap_cons]at hm;have hm:b∈s.heap.objs.size::fs.filterMap (·.frame):=hm
   rcases List.mem_cons.mp hm with h|h
   ·rw[e5 b,h,a0s (Nat.le_refl _)]at e'
    have:(s.heap.objs.size==t)=false:=beq_false_of_ne (Ne.symm htL)
    simp[this]at e'
   ·exact h
  refine hE h5 h4 e t T4 fs tk2 f1 (FsIn.of f2 fun b o _ e'=>(st2.keep b o (by simp) (sb _ _ e')).imp fun _ k=>in5 b o e' _ k.1) (fun b o e'=>in5 b o (B.sub _ _ e') o (sg2 _ _ (st2.sub _ _ e'))) (fun b o e'=>?_) tnew ?_ X5
  ·obtain⟨sl,e1,e2⟩:=st2.keep b o (by simp) (sb _ _ e')
   exact⟨sl,in5 b o e' _ e1,e2⟩
  ·rw[e5 t]; simp only[beq_self_eq_true,Bool.or_true,if_true]
   rw[e2' t]; simp only[beq_self_eq_true,Bool.or_true,if_true];exact htt
end
end
section
noncomputable def a4j:List Str:=["number", "error"]
noncomputable def d4s (l:List Stmt):List Stmt:=[.Try [.Return (some (.Call (.Name "int_divmod" (xP (x1 (sV (sh (sB (sh l))))))) [.Name "number" (xP (xa0 (sV (sh (sB (sh l)))))),.Constant (.int 0) (xK (xa1 (sV (sh (sB (sh l)))))) (xP (xa1 (sV (sh (sB (sh l))))))] [] (xP (sV (sh (sB (sh l))))))) (sP (sh (sB (sh l))))]
 [.ExceptHandler (some (.Name "ZeroDivisionError" (xP (hE (sH (sh l)))))) (some "error") [.Return (some (.Call (.Name "str" (xP (x1 (sV (sh (hB (sH (sh l)))))))) [.Name "error" (xP (xa0 (sV (sh (hB (sH (sh l)))))))] [] (xP (sV (sh (hB (sH (sh l)))))))) (sP (sh (hB (sH (sh l)))))] (hP (sH (sh l)))] [] [] (sP (sh l))]
noncomputable def d6h(fd:FuncData)(_:List Stmt):Bool:=
  a5u (a2f fd.scope.names a4j) "int_divmod" && (a5u (a2f fd.scope.names a4j) "ZeroDivisionError" && (a5u (a2f fd.scope.names a4j) "str" &&
  (nmv (a2f fd.scope.names a4j) "number" 0&&((a2f fd.scope.names a4j).ids.lookup ("error" : Str)==some 1&&fd.scope.names.lookup ("error" : Str)==some NameKind.local))))
def wNt:St→(Fl→St→Prop)→Prop:=fun st Q=>st.hz=true∧(∃i:Int,st.get 0=.dat (.int i))∧Q (.ret (.str Str.empty)) st
section
variable {C:Cfg} {n:Nat} {k:Ck}
theorem c3z{ps0 ls0:List Str}(hxs:ps0++ls0=a4j)(Gd:Good C k)(P:ZdAt C)(hn:0<n)(ok:FnOK fd ps0 ls0 stmts){l0:List Stmt}(hck:d6h fd stmts=true) :
  SSW C (a2f fd.scope.names (ps0++ls0)) n true fd wNt (d4s l0):=fun A env g s al st Eh Q Q' henv H hw kk=>by
 have so:=a8i ok;rw[hxs]at so H kk;unfold d4s;have hy:=a0b hck; have c1:=a0a hck;have he:=a0b c1; have c2:=a0a c1;have hs:=a0b c2; have c3:=a0a c2;have hz:=a0b c3; have c4:=a0a c3;have hi1:(a2f fd.scope.names a4j).ids.lookup ("error" : Str)=some 1:=beq_iff_eq.mp (a0b c4);have hen:fd.scope.names.lookup ("error" : Str)=some NameKind.local:=beq_iff_eq.mp (a0a c4);clear hck c1 c2 c3 c4;obtain⟨hhz,⟨i,hi⟩,hq⟩:=hw;have hh:A.handled=none:=H.ok.none hhz;obtain⟨hiz,hdz,hcz⟩:=a4b hz;obtain⟨pa,hmg⟩:∃pa,C.mg "int_divmod" = some (.ref pa):=by obtain⟨a,_,_,_,_,_,_,_,_,_,_,_,_,h,_⟩:=P; exact⟨a,h⟩
 obtain⟨m,rfl⟩:∃m,n=m+1:=⟨n-1,by exact a0j (.e N0 (.p (.s N0 O1) O1)) (.t (.k 0) N0) hn⟩
 obtain⟨⟨po,pfd,hpo,hpg⟩,_⟩:=c0o (u:=.none) (v:=.int 0 0) (Q:=fun _ _=>True) (E:=fun _ _=>True) (k:=k) Gd P (by rw[←hhz]; exact H.ok) H.rel.b (H.fr.b H.rel) (RD.int 0 0) (fun _ _ _ _ _ _ _ _ _ _ _ _ _ _=>trivial) pa hmg
 refine d8m ?_;rw[arm_exec_Try];refine d8d (d8r (wpAny_tryStmt_except ?_));refine d8m (wpAny_Return_some (d8u (a1f H (a0u hy).1 (a0u hy).2 hmg (a5g hpo ⟨_,_,rfl,rfl⟩ ?_))));refine spliced_more (a0z H.eok H.rel hiz (by rw[hi]; simp) hdz hcz fun v hv=>spliced_more (wpAny_Constant_int (spliced_nil ?_)) rfl) rfl
 have a0:=H.stay { s with toks:=s.toks+1 } Step.toks H.rel.sub
 have H0:=H.go a0;refine⟨H.rel.sub _ _ (hpg _ H.rel.amb),?_⟩;refine(c0o (s:={ s with toks:=s.toks+1 }) Gd P (by rw[←hhz]; exact H0.ok) H0.rel.b (H0.fr.b H0.rel) (RD.int 0 _) (fun h1 h' x t T fs tk hfs fin sg1 far tnew htt X=>?_) pa hmg).2
 obtain⟨e0,rr,L0,rfl,h0f,hf0,gfr⟩:=FrOK.top H.fr hfs H.rel.pgl;refine b1l (s:={ s with heap:=h',toks:=tk }) h0f hfs (fin.keep X.slots) hf0 X (.inr rfl) fun h2 T2 X2=>?_
 refine a3j (s:={ s with heap:=h2,toks:=tk }) X2 (by simp) fun h3 X3=>?_
 have sg3:Sub g h3:=fun b o e=>X3.keep b o (sg1 _ _ e) (gfr b o e);refine wpAny_handleBy_builtin_as d0k d0h c0b ?_;have T3:=H.rel.amb.T.keeps sg3;refine Name_function_global H.eok.kind (by rw[H.eok.kindOf]; exact(a0u he).1) (loadGlobal_builtin (v:=.type "ZeroDivisionError") (by rw[H.eok.globals]; exact T3.g) (Gd.bn "ZeroDivisionError" (by decide)) (by rw[H.eok.builtins]; exact T3.b) (by rw[T3.builtins "ZeroDivisionError" (by decide)]; rfl) ?_) (by decide)
 obtain⟨oe3,vs3,hoe3,hce3,_⟩:=X3.exc;refine⟨rfl,⟨oe3,hoe3,hce3⟩,?_⟩;refine a3j (s:={ s with heap:=h3,toks:=tk }) X3 (by simp) fun h4 X4=>?_
 have sg4:Sub g h4:=fun b o e=>X4.keep b o (sg1 _ _ e) (gfr b o e);have dfr:=fin.nd;obtain⟨oe,vs,hoe,hce,hde,hv0,_,hv2⟩:=X4.exc;have ht4:h4.get? t=some { cls:=.type "tuple",data:=.seq #[] }:=X4.keep t _ htt (dfr t _ htt (by intro es ep q; cases q))
 have st4:Step [] s g { s with heap:=h4,toks:=tk } g:={
  same:=⟨h4,tk,rfl⟩
  sub:=.refl g
  keep:=fun b o _ e=>by
   obtain⟨sl,e1,e2⟩:=far b o e;obtain⟨sl2,e3⟩:=X4.slots b _ e1;refine⟨sl2,e3,fun hn=>?_⟩;have e4:=X4.keep b _ e1 (dfr b _ e1 hn);rw[e3]at e4;exact(congrArg Obj.slots (Option.some.inj e4)).trans (e2 hn)
  low:=fun _=>sg4
  fresh:=fun b o _ _ eg=>eg
  nd:=id }
 have R4:Rel C (a2f fd.scope.names a4j) env g h4 al st:=H.rel.step st4 sg4;have hkl:env.kindOf "error" = some .local:=by rw[H.eok.kindOf]; exact hen
 refine a3i (s:={ s with heap:=h4,toks:=tk }) so H.eok R4 hi1 (.inl hen) (u:=.undef) trivial fun s5 b hb x5 R5 lk _=>?_
 have hbL:b=env.locals:=hb.resolve_right fun⟨q,_⟩=>by
  have q:fd.scope.names.lookup ("error" : Str)=some .cell:=q;rw[hen]at q; cases q
 subst hbL;have Lns:∃o es ep,h4.get? env.locals=some o∧o.data=.dict es ep:=by
  obtain⟨mm,o,es,ep,ho,hd,_⟩:=R4.ns; exact⟨o,es,ep,ho,hd⟩
 have keep5:∀b o,h4.get? b=some o→b8l o→s5.heap.get? b=some o:=fun b o e hn=>by
  refine(x5.keep b o (fun hm=>?_) e).exact hn;simp at hm; subst hm;obtain⟨o',es,ep,e',hd'⟩:=Lns;rw[e]at e'; cases e';exact hn es ep hd'
 have hoe5:=keep5 x oe hoe (by intro es ep q; rw[hde]at q; cases q)
 have ht5:=keep5 t _ ht4 (by intro es ep q; cases q)
 have T5:=R5.amb.T.keeps R5.sub;refine d8m (wpAny_Return_some (d8u (Name_function_global H.eok.kind (by rw[H.eok.kindOf]; exact(a0u hs).1) (loadGlobal_builtin (v:=.type "str") (by rw[H.eok.globals]; exact T5.g) (Gd.bn "str" (by decide)) (by rw[H.eok.builtins]; exact T5.b) (by rw[T5.builtins "str" (by decide)]; rfl) ?_) (by decide))))
 refine a8h rfl (by simp) (spliced_more (a2r H.eok lk (by decide) (by decide) (spliced_nil ?_)) rfl)
 refine PySem.P.str_of_exc_none PySem.F.excStr_ZeroDivisionError (by have:=H.ok.units; show A.units+2<_; exact a1z (.t (.p N0 (.k 2)) N1) (.t (.p (.p N0 (.m 0 4 (.p N2 O1))) (.k 70)) N1) this) ⟨oe,vs,hoe5,hce,hde,hv0⟩ ⟨_,_,ht5,rfl,rfl⟩ ?_
 obtain⟨mm,hm5⟩:=R5.ns;refine wpAny_nameGoes (s:={ s5 with toks:=s5.toks+1 }) hkl hm5 (by rw[H.eok.kind]; rfl) fun h6 m6 hn6 hs6=>?_
 obtain⟨x6,sg6⟩:=Step.one (s:={ s5 with toks:=s5.toks+1 }) (tk:=s5.toks+1+1) R5.sub R5.pgl hs6
 have step:Step [env.locals] s g { s5 with heap:=h6,toks:=s5.toks+1+1 } g:=(((st4.mono fun _ h=>nomatch h).tr x5).tr (Step.toks (t:=s5.toks+1))).tr x6
 have B6:BRel C g h6 al st.own:=H.rel.b.move (s':={ s5 with heap:=h6,toks:=s5.toks+1+1 }) step sg6 fun b hb=>by
  simp at hb; subst hb; exact⟨H.rel.pal _ (.head _),H.rel.pta _ (.head _)⟩
 exact kk (.ret (.str Str.empty)) (.ret _) al g _ st (List.prefix_refl _) B6 (step.mono fun b hb=>List.mem_append_left _ (by simp at hb; subst hb; exact .head _)) (RD.str _ _) hq
end
end
section
section
variable {C:Cfg} {A:d8q} {E:d8g→d8f→Prop} {s:d8f}
theorem b8p{d:Addr}{name:Str}(hm:s.heap.DictOf (d8t C.prog C.w) d kvs)(hf:name∉kvs.map (·.1))
 (hQ:∀h' tk,h'.DictOf (d8t C.prog C.w) d (kvs++[(name,v)])→Heap.SameBut d s.heap h'→Q () { s with heap:=h',toks:=tk }):d8i (model C.prog C.w) A (nsSet d name v) Q E s:=by
 obtain⟨o,es,ep,ho,hc,hd,hk,hp,hn⟩:=hm;unfold nsSet;refine d8d ?_;unfold strHash;refine d8d (wpAny_askSetting (d8h ?_));refine d8d (wpAny_mkText ?_);refine d8d (wpAny_loadPart (s:={ s with toks:=s.toks+1 }) ho ?_)
 have hany:es.any (·.refKey)=false:=by
  rw[Array.any_eq_false']; intro e he;obtain⟨k,h1,h2⟩:=hk e he;obtain⟨t,ht⟩:=Value.isStrOf_shape h1;simp[DictEntry.refKey,ht]
 rw[hd];simp only[aRefKeyMayBeTheName_eq,aRefKeyMayBeTheNameByArray,hany,Bool.and_false,Bool.false_eq_true,if_false];refine wpAny_updatePart (s:={ s with toks:=s.toks+1 }) ho ?_
 have hnone:es.findIdx? (·.key.isStr name)=none:=by
  have h1:(es.findIdx? fun e=>(d8t C.prog C.w).is name e.key)=kvs.findIdx? fun kv=>decide (kv.1=name):=by
   rw[←hp.findIdx name]; obtain⟨l⟩:=es; simp
  have h2:(kvs.findIdx? fun kv=>decide (kv.1=name))=none:=by
   rw[List.findIdx?_eq_none_iff];intro kv hkv;exact decide_eq_false fun q=>hf (q▸List.mem_map.mpr ⟨kv,hkv,rfl⟩)
  have h3:(fun e:DictEntry=>e.key.isStr name)=fun e=>(d8t C.prog C.w).is name e.key:=by
   funext e
   show Value.isStr e.key name=Value.isStrOf name e.key;cases e.key <;> rfl
  rw[h3];exact h1.trans h2
 have hput:∀key h,Obj.putName name h key v o={ o with data:=.dict (es.push ⟨h,key,v⟩) (ep+1) }:=fun key h=>by
  obtain⟨c,d',dt,sl⟩:=o;subst hd;simp only[Obj.putName_eq,Obj.putNameByArray,hnone]
 have hkey:(d8t C.prog C.w).is name (.str name s.toks)=true:=strKind_is C.prog C.w name s.toks;refine hQ _ _ ⟨_,es.push ⟨_,.str name s.toks,v⟩,ep+1,Heap.get?_update_self _ ho ?_,?_,?_,hk.push hkey _,?_,?_⟩ (Heap.SameBut.update ..)
 ·rw[hput]; exact Obj.isFreed_of_dict (es:=es.push _) (ep:=ep+1) rfl
 ·rw[hput]; obtain⟨a1,a2,a3⟩:=hc; exact⟨a1,a2,a3⟩
 ·rw[hput]; rfl
 ·have:=hp.append hkey ((d8t C.prog C.w).hash name) v
  obtain⟨l⟩:=es;simpa using this
 ·rw[List.map_append,List.nodup_append]
  refine⟨hn,by simp,fun a ha b hb e=>?_⟩
  simp at hb; subst hb; subst e; exact hf ha
end
noncomputable def d7e(p:Arguments)(dV:d8g)(ps:List Str)(ka:Str):Bool:=
 p.posonlyargs.isEmpty&&p.vararg.isNone&&p.kwonlyargs.isEmpty&&(match p.kwarg with|some a=>a.arg==ka|none=>false)&&c9t dV&&p.args.map (·.arg)==ps
theorem b0a{α β:Type}:∀(kw:List α) (a:β) (l:List α) (f:α→β×List α→Sem (ForInStep (β×List α))),(∀x∈kw,∀st,f x st=pure (.yield (st.1,st.2++[x])))→forIn kw (a,l) f=pure (a,l++kw)
 |[]=>fun a l f _=>by simp
 |x::kw=>fun a l f h=>by
  rw[List.forIn_cons,h x (.head _)];simp only[pure_bind];rw[b0a kw a (l++[x]) f fun y hy=>h y (List.mem_cons_of_mem _ hy)];simp
section
variable {C:Cfg} {A:d8q} {E:d8g→d8f→Prop} {s:d8f}
theorem d1x{d:Addr}{acc:List (Str×d8g)}(hm:s.heap.DictOf (d8t C.prog C.w) d acc):∀(kw:List (Str×d8g)),((acc++kw).map (·.1)).Nodup→∀{Q:PUnit→d8f→Prop},
  (∀h' tk,h'.DictOf (d8t C.prog C.w) d (acc++kw)→Heap.SameBut d s.heap h'→Q ⟨⟩ { s with heap:=h',toks:=tk })→
  d8i (model C.prog C.w) A (forIn kw PUnit.unit fun x _=>do nsSet d x.1 x.2; pure (ForInStep.yield PUnit.unit)) Q E s:=by
 intro kw
 induction kw generalizing acc s with
 |nil=>intro hn Q hQ; exact d8h (hQ s.heap s.toks (by simpa using hm) (.refl ..))
 |cons x r ih=>
  intro hn Q hQ;rw[List.forIn_cons];have hf:x.1∉acc.map (·.1):=fun hmem=>by
   rw[List.map_append,List.nodup_append]at hn;exact hn.2.2 x.1 hmem x.1 (by simp) rfl
  refine d8d (d8d (b8p hm hf fun h1 tk1 hd1 hs1=>d8h ?_));refine ih (s:={ s with heap:=h1,toks:=tk1 }) hd1 (by simpa using hn) fun h2 tk2 hd2 hs2=>?_
  exact hQ h2 tk2 (by simpa using hd2) (hs1.trans hs2)
theorem c4h{α β:Type}{m:Sem α}{v:α}{f:α→Sem β}{Q:β→d8f→Prop}(h:m=pure v)(k:d8i (model C.prog C.w) A (f v) Q E s):d8i (model C.prog C.w) A (m >>= f) Q E s:=by rw[h]; exact k
theorem d4r{β:Type}[Decidable c]{a b:Sem β}{Q:β→d8f→Prop}(h:¬c)(k:d8i (model C.prog C.w) A b Q E s):d8i (model C.prog C.w) A (if c then a else b) Q E s:=by rw[if_neg h]; exact k
theorem c9y{ka:Str}(h:d7e fd.params fd.defaults ps ka=true)(hn:ps.Nodup)(vals:List d8g)(hl:vals.length=ps.length)(kw:List (Str×d8g))(hk:∀p∈kw,p.1∉ps)(hkn:(kw.map (·.1)).Nodup)(hkl:kw.length≤1000){Q:List (Str×d8g)→d8f→Prop}
 (hQ:∀h' tk,Sub s.heap h'→h'.DictOf (d8t C.prog C.w) s.heap.objs.size kw→Q (ps.zip vals++[(ka,.ref s.heap.objs.size)]) { s with heap:=h',toks:=tk }) :
  d8i (model C.prog C.w) A (bindArgs fd ⟨vals,kw⟩) Q E s:=by
 obtain⟨_,_,⟨po,ar,va,ko,kd,kv,df⟩,_,_,_,_,dV,_,_,_,_,_,_,_⟩:=fd;cases po with|cons _ _=>cases h|nil=>?_
 cases va with|some _=>cases h|none=>?_
 cases ko with|cons _ _=>cases h|nil=>?_
 cases kv with|none=>cases h|some ak=>?_
 obtain rfl:=b7i (a0a (a0b h));obtain rfl:ak.arg=ka:=beq_iff_eq.mp (a0a (a0b (a0b h)));obtain rfl:ar.map (·.arg)=ps:=beq_iff_eq.mp (a0a h);clear h;dsimp only[bindArgs,List.map_nil,List.nil_append,List.append_nil];refine c4h (b0a kw ((ar.map (·.arg)).zip vals) [] _ fun x hx st=>?_) ?_
 ·exact d1n (by show ¬((ar.map (·.arg)).contains x.fst||false)=true; rw[Bool.or_false,List.contains_iff_mem]; exact hk x hx) (d7i rfl rfl)
 refine c4h (show seqItems? Value.none=pure none from rfl) ?_
 refine d4r (show ¬(decide (vals.length>(ar.map (·.arg)).length)&&true)=true by rw[hl,decide_eq_false (Nat.lt_irrefl _)]; exact Bool.false_ne_true) ?_
 refine d4r (by
  show ¬(!(List.filter (fun n=>(List.lookup n ((ar.map (·.arg)).zip vals)).isNone) (List.take ((ar.map (·.arg)).length-(List.drop (0-(ar.map (·.arg)).length) ([]:List d8g)).length) (ar.map (·.arg)))).isEmpty)=true;rw[List.drop_nil,List.length_nil,Nat.sub_zero,List.take_length,a2y hl hn]; exact Bool.false_ne_true) ?_
 refine c4h (v:=(ar.map (·.arg)).zip vals) ?_ ?_
 ·show forIn ((List.drop _ (ar.map (·.arg))).zip (List.drop (0-(ar.map (·.arg)).length) ([]:List d8g))) _ _=_
  rw[List.drop_nil,List.zip_nil_right]; rfl
 refine c4h (show forIn ([]:List Str) _ _=pure _ from rfl) ?_
 refine d4r Bool.false_ne_true ?_;refine d4r (by show ¬([]++kw).length>d8y+1; rw[List.nil_append]; have:d8y=_:=sizeLine_eq; omega) ?_
 have hdo:=Heap.DictOf.new (knd:=d8t C.prog C.w) s.heap;refine d8d (wpAny_alloc ?_);refine d8d (d1x hdo kw (by simpa using hkn) fun h' tk hd hs=>?_)
 refine d8h ?_;show Q (List.filterMap (fun n=>(List.lookup n ((ar.map (·.arg)).zip vals)).map (n,·)) (ar.map (·.arg)++[])++[(ak.arg,.ref s.heap.objs.size)]) { s with heap:=h',toks:=tk }
 rw[List.append_nil,a5z hl hn];exact hQ h' tk (fun b o e=>hs.extBut b o (Nat.ne_of_lt (Heap.lt_size e)) (Heap.get?_push_of_some _ e)) hd
end
end
section
theorem b1m:isSubtype (.type "dict") (.type "dict")=pure true:=by rw[isSubtype_type]; kernel_rfl
section
variable {C:Cfg} {A:d8q} {E:d8g→d8f→Prop} {s:d8f}
theorem b6i{d:Addr}{k:Str}{key v:d8g}(hkey:(d8t C.prog C.w).is k key=true)(hm:s.heap.DictOf (d8t C.prog C.w) d kvs)(hf:k∉kvs.map (·.1))(hsz:kvs.length≤1000)
 (hQ:∀h',h'.DictOf (d8t C.prog C.w) d (kvs++[(k,v)])→Heap.SameBut d s.heap h'→Q () { s with heap:=h' }):d8i (model C.prog C.w) A (dictPut d ((d8t C.prog C.w).hash k) key v) Q E s:=by
 obtain⟨o,es,ep,ho,hc,hd,hk,hp,hn⟩:=hm;have hes:es.size≤d8y:=by
  have e1:=hp.length; have e2:es.toList.length=es.size:=by simp
  have:d8y=_:=sizeLine_eq
  omega
 unfold dictPut;refine d8d (wpAny_dictFind_of hkey ho hd hk ?_);have hidx:(es.findIdx? fun e=>(d8t C.prog C.w).is k e.key)=none:=by
  have h1:(es.findIdx? fun e=>(d8t C.prog C.w).is k e.key)=kvs.findIdx? fun kv=>decide (kv.1=k):=by
   rw[←hp.findIdx k]; obtain⟨l⟩:=es; simp
  rw[h1,List.findIdx?_eq_none_iff];intro kv hkv;exact decide_eq_false fun q=>hf (q▸List.mem_map.mpr ⟨kv,hkv,rfl⟩)
 rw[hidx];refine wpAny_updateDictKeys (hz:=hes) ho hd (hQ _ ⟨_,_,ep+1,Heap.get?_update_self _ ho (Obj.isFreed_of_dict (Obj.data_mapDictKeys hd _)),hc.mapDictKeys _,Obj.data_mapDictKeys hd _,hk.push hkey _,?_,?_⟩ (Heap.SameBut.update ..))
 ·have:=hp.append hkey ((d8t C.prog C.w).hash k) v
  obtain⟨l⟩:=es;simpa using this
 ·rw[List.map_append,List.nodup_append]
  refine⟨hn,by simp,fun a ha b hb e=>?_⟩
  simp at hb; subst hb; subst e; exact hf ha
theorem c4n{d m:Addr}{kw:List (Str×d8g)}(hd:s.heap.DictOf (d8t C.prog C.w) d [])(hm:s.heap.DictOf (d8t C.prog C.w) m kw)(hne:d≠m)(hsys:(m==sysModules)=false)(hkl:kw.length≤1000)
 (hQ:∀h',h'.DictOf (d8t C.prog C.w) d kw→Heap.SameBut d s.heap h'→Q () { s with heap:=h' }):d8i (model C.prog C.w) A (mergeMapping d (.ref m) true) Q E s:=by
 have hT:=hm.typeIs;obtain⟨om,em,pm,hom,hcm,hdm,hkm,hpm,hnm⟩:=id hm;obtain⟨od,ed,pd,hod,hcd,hdd,hkd,hpd,hnd⟩:=id hd;have hed:ed=#[]:=by
  have:=hpd.length
  simp at this
  exact this
 subst hed;unfold mergeMapping;refine d8d (wpAny_isInstance hT b1m ?_);refine d8d (wpAny_specialOf hT F.slot_dict_iter.lookup ?_);refine d8d (d8h ?_);rw[show(some (Value.builtin "dict.__iter__")==some (Value.builtin "dict.__iter__"))=true from by decide]
 dsimp only;rw[if_neg (by rw[hsys]; decide)]
 refine d8d (wpAny_dictEntries hod hdd ?_);rw[if_pos (show(#[]:Array DictEntry).isEmpty=true from rfl)]
 refine d8d (wpAny_dictEntries hom hdm ?_);have keys:∀e∈em,∃k t,e.key=.str k t:=fun e he=>by
  obtain⟨k,h1,_⟩:=hkm e he;obtain⟨t,ht⟩:=Value.isStrOf_shape h1;exact⟨k,t,ht⟩
 have hsz:em.size=kw.length:=by have:=hpm.length; simpa using this
 refine d8d (wpAny_forIn_array' _ (fun rest _ s'=>s'=s∧∀e∈rest,∃k t,e.key=.str k t) _ (fun e rest b s' hI=>?_) (fun b s' hI=>?_) em PUnit.unit ⟨rfl,fun e he=>keys e (by simpa using he)⟩)
 ·obtain⟨rfl,hr⟩:=hI
  obtain⟨k,t,ht⟩:=hr e (.head _);simp only[ht];exact d8h ⟨rfl,fun e he=>hr e (List.mem_cons_of_mem _ he)⟩
 obtain⟨rfl,_⟩:=hI;refine d8d (wpAny_dictEntries hom hdm ?_);refine d8d (wpAny_dictEpoch hom hdm ?_);refine d8d (wpAny_forIn_list _ (fun rest _ s1=>∃i h',rest=List.range' i (em.size-i)∧i≤em.size∧s1={ s' with heap:=h' } ∧ h'.DictOf (d8t C.prog C.w) d (kw.take i)∧Heap.SameBut d s'.heap h') _ (fun x rest b s1 hI=>?_) (fun b s1 hI=>?_) _ PUnit.unit ⟨0,s'.heap,by rw[List.range_eq_range']; simp,Nat.zero_le _,rfl,by simpa using hd,.refl ..⟩)
 ·obtain⟨i,h',hr,hi,rfl,hd',hs'⟩:=hI
  have hlt:i<em.size:=by
   rcases Nat.lt_or_ge i em.size with h|h
   ·exact h
   ·rw[Nat.sub_eq_zero_of_le h]at hr; cases hr
  obtain⟨rfl,hrest⟩:x=i∧rest=List.range' (i+1) (em.size-(i+1)):=by
   have e:em.size-i=(em.size-(i+1))+1:=by exact a1d (.e (.s N0 N1) (.p (.s N0 (.p N1 O1)) O1)) (.t N1 N0) hlt
   rw[e,List.range'_succ]at hr;exact⟨(List.cons.inj hr).1,(List.cons.inj hr).2⟩
  have hom':h'.get? m=some om:=hs'.extBut _ _ (Ne.symm hne) hom;refine d8d (wpAny_dictEntries (s:={ s' with heap:=h' }) hom' hdm ?_)
  have hgx:em[x]?=some em[x]:=Array.getElem?_eq_getElem hlt;rw[hgx];obtain⟨kv,hkv⟩:∃kv,kw[x]?=some kv:=⟨kw[x]'(by exact a2q (.t N0 N1) (.e N2 N1) (.t N0 N2) hsz hlt),List.getElem?_eq_getElem (by exact a2q (.t N0 N1) (.e N2 N1) (.t N0 N2) hsz hlt)⟩
  obtain⟨hkey,hval⟩:=hpm.get? (e:=em[x]) (k:=kv.1) (v:=kv.2) (by rw[Array.getElem?_toList]; exact hgx) hkv
  obtain⟨k',hk1,hk2⟩:=hkm em[x] (Array.getElem_mem hlt);have hkk:k'=kv.1:=by
   obtain⟨t1,e1⟩:=Value.isStrOf_shape hk1;obtain⟨t2,e2⟩:=Value.isStrOf_shape hkey;rw[e1]at e2; cases e2; rfl
  rw[hkk]at hk2;have hfresh:kv.1∉(kw.take x).map (·.1):=fun hmem=>by
   obtain⟨p,hp,e⟩:=List.mem_map.mp hmem;obtain⟨j,hj,ej⟩:=List.getElem_of_mem hp;rw[List.length_take]at hj;rw[List.getElem_take]at ej;have e3:(kw.map (·.1))[j]'(by rw[List.length_map]; exact a1z (.t N0 N1) (.t N0 (.b 2 N2 N1)) hj)=(kw.map (·.1))[x]'(by rw[List.length_map]; exact a2q (.t N0 N1) (.e N2 N1) (.t N0 N2) hsz hlt):=by
    rw[List.getElem_map,List.getElem_map,ej,e]
    have:=List.getElem?_eq_some_iff.mp hkv
    rw[this.2]
   have:=(List.getElem_inj (h₀:=by rw[List.length_map]; exact a1z (.t N0 N1) (.t N0 (.b 2 N2 N1)) hj) (h₁:=by rw[List.length_map]; exact a2q (.t N0 N1) (.e N2 N1) (.t N0 N2) hsz hlt) hnm).mp e3
   exact a2q .f (.t N0 (.b 2 N1 N2)) (.e N0 N1) hj this
  obtain⟨od',ed',pd',hod',hcd',hdd',hkd',hpd',hnd'⟩:=id hd';dsimp only;rw[if_pos rfl,hk2];refine d8d (d8l (d8d (wpAny_dictFind_of (s:={ s' with heap:=h' }) hkey hod' hdd' hkd' ?_)))
  have hidx:(ed'.findIdx? fun e=>(d8t C.prog C.w).is kv.1 e.key)=none:=by
   have h1:(ed'.findIdx? fun e=>(d8t C.prog C.w).is kv.1 e.key)=(kw.take x).findIdx? fun p=>decide (p.1=kv.1):=by
    rw[←hpd'.findIdx kv.1]; obtain⟨l⟩:=ed'; simp
   rw[h1,List.findIdx?_eq_none_iff];intro p hp;exact decide_eq_false fun q=>hfresh (q▸List.mem_map.mpr ⟨p,hp,rfl⟩)
  rw[hidx,if_neg (by simp)]
  refine b6i (s:={ s' with heap:=h' }) hkey hd' hfresh (by rw[List.length_take]; exact a1d (.l (.b 2 N0 N1) (.k 1000)) (.l N1 (.k 1000)) hkl) fun h2 hd2 hs2=>?_
  have hom2:h2.get? m=some om:=hs2.extBut _ _ (Ne.symm hne) hom';refine d8d (wpAny_dictEpoch (s:={ s' with heap:=h2 }) hom2 hdm ?_)
  rw[if_neg (by simp)]
  refine d8h ⟨x+1,h2,hrest,hlt,rfl,?_,hs'.trans hs2⟩;have hkv2:(kv.1,em[x].val)=kv:=by rw[hval]
  rw[hkv2]at hd2;rw[List.take_succ,hkv]; exact hd2
 ·obtain⟨i,h',hr,hi,rfl,hd',hs'⟩:=hI
  have hin:i=em.size:=by
   rcases Nat.lt_or_ge i em.size with h|h
   ·have e:em.size-i=(em.size-(i+1))+1:=by exact a1d (.e (.s N0 N1) (.p (.s N0 (.p N1 O1)) O1)) (.t N1 N0) h
    rw[e,List.range'_succ]at hr; cases hr
   ·exact a1s (.e N0 N1) (.l N0 N1) (.l N1 N0) hi h
  rw[hin,hsz,List.take_length]at hd';exact d8h (hQ h' hd' hs')
theorem b8u{f:d8g}{x:Sem d8g}{m:Addr}{kw:List (Str×d8g)}{Q:Addr→d8f→Prop}(hm:s.heap.DictOf (d8t C.prog C.w) m kw)(hsys:(m==sysModules)=false)(hkl:kw.length≤1000)
 (hx:∀Qx:d8g→d8f→Prop,Qx (.ref m) { s with heap:=s.heap.push { cls:=.type "dict",data:=.dict #[] } }→d8i (model C.prog C.w) A x Qx E { s with heap:=s.heap.push { cls:=.type "dict",data:=.dict #[] } })
 (hQ:∀h',h'.DictOf (d8t C.prog C.w) s.heap.objs.size kw→Sub s.heap h'→Q s.heap.objs.size { s with heap:=h' }):d8i (model C.prog C.w) A (mergedKeywords f [(none,x)]) Q E s:=by
 have hd:=Heap.DictOf.new (knd:=d8t C.prog C.w) s.heap;have hm1:(s.heap.push { cls:=.type "dict",data:=.dict #[] }).DictOf (d8t C.prog C.w) m kw:=hm.at fun o e=>Heap.get?_push_of_some _ e;have hne:s.heap.objs.size≠m:=by
  obtain⟨o,_,_,ho,_⟩:=hm;exact Nat.ne_of_gt (Heap.lt_size ho)
 unfold mergedKeywords;refine d8d (wpAny_alloc ?_);refine d8d (d8l ?_);refine d8d ?_;rw[List.forIn_cons];refine d8d ?_;refine d8d (d8h ?_);refine d8d (hx _ ?_);refine d8d (wpAny_onRaise (d8l (wpAny_tryCatch (wpAny_onRaise (c4n hd hm1 hne hsys hkl fun h' hd' hs'=>?_)))));refine d8h ?_;show d8i _ _ (forIn ([]:List (Option Str×Sem d8g)) ([]:List (Str×Sem d8g)) _) _ _ _;rw[List.forIn_nil];refine d8h (d8h (d8h ?_));exact hQ h' hd' fun b o e=>hs'.extBut b o (Nat.ne_of_lt (Heap.lt_size e)) (Heap.get?_push_of_some _ e)
theorem c2g{K:Type}[DecidableEq K]{knd:KeyKind prog w K}{e:DictEntry}{es:List DictEntry}{r:List (K×d8g)}(h:Pairs knd (e::es) r):∃kv r',r=kv::r'∧knd.is kv.1 e.key=true∧e.val=kv.2∧Pairs knd es r':=by
 cases h with
 |cons h1 h2 h3=>exact⟨_,_,rfl,h1,h2,h3⟩
theorem b5i{f:d8g}{d:Addr}{kw:List (Str×d8g)}{Q:List (Str×d8g)→d8f→Prop}(hd:s.heap.DictOf (d8t C.prog C.w) d kw)(hQ:Q kw s):d8i (model C.prog C.w) A (keywordsIn f d) Q E s:=by
 obtain⟨o,es,ep,ho,hc,hdd,hk,hp,hn⟩:=hd;unfold keywordsIn;refine d8d (wpAny_dictEntries ho hdd ?_);refine d8d (wpAny_forIn_array' _ (fun rest acc s'=>s'=s∧∃r,Pairs (d8t C.prog C.w) rest r∧acc++r=kw) _ (fun e rest acc s' hI=>?_) (fun acc s' hI=>?_) es [] ⟨rfl,kw,hp,rfl⟩)
 ·obtain⟨rfl,r,hr,hacc⟩:=hI
  obtain⟨kv,kvs,e1,h1,h2,h3⟩:=c2g hr;obtain⟨t,ht⟩:=Value.isStrOf_shape h1;simp only[ht];refine d8h ⟨rfl,kvs,h3,?_⟩;rw[←hacc,h2,e1]; simp
 ·obtain⟨rfl,r,hr,hacc⟩:=hI
  obtain rfl:=List.eq_nil_of_length_eq_zero hr.length.symm;rw[List.append_nil]at hacc;subst hacc;exact d8h hQ
end
end
section
def d7l (nm:Nat→Option Str) (Γ:Ctx):Spec:=fun hz ks us ow Q=>∃u0 f2 ws,us=u0 :: .fn f2::ws∧(nm f2).isSome=true∧ks.length=ws.length∧ks.Nodup∧(∀k∈ks,k ≠ "name_index" ∧ k ≠ "get_name")∧ks.length≤1000 ∧
 Γ f2 hz ks (u0::ws) ow fun v ow'=>∃d,v=.dat d∧(Q (.twin d) ow'∨Q (.dat (.tuple [d,d])) ow')
noncomputable def c5l (l:List Stmt):List Stmt:=[.If (.Compare (.Name "get_name" (xP (x1 (sV (sh l))))) [.IsNot] [.Constant .none (xK (xa0 (sV (sh l)))) (xP (xa0 (sV (sh l))))] (xP (sV (sh l)))) [.Assign [.Name "argval" (xP (sT (sh (sB (sh l)))))] (.Call (.Name "get_name" (xP (x1 (sV (sh (sB (sh l))))))) [.Name "name_index" (xP (xa0 (sV (sh (sB (sh l))))))] [⟨none,.Name "extrainfo" (xP (kV (xW (sV (sh (sB (sh l))))))),kP (xW (sV (sh (sB (sh l)))))⟩] (xP (sV (sh (sB (sh l)))))) (sP (sh (sB (sh l)))),
 .Return (some (.Tuple [.Name "argval" (xP (xa0 (sV (sh (sB (sh l)).tail)))),.Name "argval" (xP (xa1 (sV (sh (sB (sh l)).tail))))] (xK (sV (sh (sB (sh l)).tail))) (xP (sV (sh (sB (sh l)).tail))))) (sP (sh (sB (sh l)).tail))] (sE (sh l)) (sP (sh l))]
noncomputable def c9l(fd:FuncData):Bool:=
  fd.closure.isEmpty&&fd.scope.kind == .function && !fd.scope.isCoroutine && !fd.scope.isGenerator &&
  fd.globals==d8o&&fd.builtins==builtinsNs&&fd.scope.names.all (fun p=>p.2 != .cell&&p.2 != .free)&&d7e fd.params fd.defaults ["name_index", "get_name"] "extrainfo" &&
  ([("name_index" : Str), "get_name", "extrainfo", "argval"]).all (fun x=>fd.scope.names.lookup x==some .local)
inductive GniAt(C:Cfg)(f:Nat):Prop
 |mk:∀a o fd l,C.fnv f=.ref a→o.data=.func fd→(∀g,C.Amb g→g.get? a=some o∧g.CodeRec fd.code fd.qualname)→fd.body=.stmts (c5l l)→c9l fd=true→GniAt C f
section
variable {C:Cfg} {Γ:Ctx} {n:Nat} {k:Ck}
theorem b2q{E:d8g→d8f→Prop}{s:d8f}{pos np:Pos}{a m:Addr}{ni ex:Str}{np2 kp:Pos}{v0:d8g}{kw:List (Str×d8g)}{Q:d8g→d8f→Prop}(hd:o.data=.func fd)(ho:s.heap.get? a=some o)
 (hv:∀Qx:d8g→d8f→Prop,Qx v0 s→d8i (model C.prog C.w) A (eval (.Name ni np) env) Qx E s)
 (hm:s.heap.DictOf (d8t C.prog C.w) m kw) (hsys:(m==sysModules)=false) (hkl:kw.length≤1000)
 (hx:∀(s':d8f) (Qx:d8g→d8f→Prop),Sub s.heap s'.heap→Qx (.ref m) s'→d8i (model C.prog C.w) A (eval (.Name ex np2) env) Qx E s')
 (h:∀h' ,Sub s.heap h'→d8i (model C.prog C.w) A (call (.ref a) [v0] kw) Q E { s with heap:=h' }) :
  d8i (model C.prog C.w) A (callWith pos (.ref a) [] (d8x pos (d8s [.Name ni np] env)) (backToKw pos (keywordEach [⟨none,.Name ex np2,kp⟩] env))) Q E s:=by
 unfold callWith;refine d8d (d8l ?_);unfold evalArgs;refine d8d (m:=spliced (d8x pos (d8s [.Name ni np] env))) (spliced_more (hv _ (spliced_nil ?_)) rfl);refine d8d (d8h ?_);refine d8l ?_;refine d8d (m:=mergedKeywords (.ref a) [(none,do let v ←eval (.Name ex np2) env; standAt pos; pure v)]) (b8u hm hsys hkl (fun Qx hq=>d8d (hx _ _ (a0e _) (d8d (d8r (d8h hq))))) fun h' hd' hs'=>?_)
 refine d8d (d8h ?_);refine d8d (d8l (b5i (s:={ s with heap:=h' }) hd' ?_))
 refine d8h ?_;refine d8d (d8r ?_);refine d8d (m:=keeperOf (.ref a)) ?_;unfold keeperOf;refine d8d (wpAny_load (s:={ s with heap:=h' }) (hs' _ _ ho) ?_)
 rw[hd];refine d8h ?_;refine d8d (m:=callMarked starredCall (.ref a) ([]++[v0]) kw) ?_;unfold callMarked;exact Calls.wpAny_keep (d8p (h h' hs') (fun r s₂ hr=>d8d (d8l (wpAny_point (d8h hr)))) fun _ _ e=>e)
theorem d4h(P:GniAt C f)(Γok:a4c C Γ n)(Gd:Good C k):b8w C (d7l k.fname Γ) (n+1) f:=fun A g s al ow hz ps ks kvs us Eh Q Q' aok B fb hkl hiv hw kk=>by
 obtain⟨u0,f2,ws,rfl,hsome,hks,hknd,hkne,hklen,hw⟩:=hw;obtain⟨a,o,fd,lb,hfv,hfo,hg,hbody,hck⟩:=P;obtain⟨v0,v1,rfl⟩:∃v0 v1,ps=[v0,v1]:=by
  have h1:=hiv.len
  have:ps.length=2:=by simp at h1; exact c3r (.e N0 (.k 2)) (.e N1 N2) (.e N1 N3) (.e (.p N0 N2) (.p (.p N3 O1) O1)) hkl hks h1
  exact two this
 obtain⟨iv0,iv1,ivs⟩:=hiv;have iv1:v1=C.fnv f2:=iv1;obtain⟨nm2,hnm2⟩:=Option.isSome_iff_exists.mp hsome;obtain⟨a2,o2,fd2,ha2,hd2,hg2⟩:=Gd.fo f2 nm2 hnm2;rw[ha2]at iv1;subst iv1;unfold c9l at hck;unfold c5l at hbody;simp only[Bool.and_eq_true,beq_iff_eq,List.isEmpty_iff,Bool.not_eq_true',List.all_eq_true]at hck;obtain⟨⟨⟨⟨⟨⟨⟨⟨hclo,hkind⟩,hco⟩,hgen⟩,hglob⟩,hbuil⟩,hnames⟩,hkw⟩,hloc⟩:=hck;have lk:∀x∈([("name_index" : Str), "get_name", "extrainfo", "argval"]),fd.scope.names.lookup x=some .local:=fun x hx=>hloc x hx;have hnocell:∀p∈fd.scope.names,p.2 ≠ .cell:=fun p hp=>by have:=(hnames p hp).1; simpa using this
 obtain⟨ho,hcr⟩:=hg g B.amb;have T:=B.amb.T.keeps B.sub;rw[hfv];have hkl':(ks.zip kvs).length≤1000:=by rw[List.length_zip]; exact a1d (.l (.b 2 N0 N1) (.k 1000)) (.l N0 (.k 1000)) hklen
 have hzk:(ks.zip kvs).map (·.1)=ks:=a7y ks kvs hkl;refine wpAny_call (codeAny_call_function (by have:=aok.depth; exact a1z (.t N0 N1) (.l (.p N0 (.p N2 O1)) N1) this) (B.sub _ _ ho) hfo hco hgen hbody ?_ ?_)
 ·obtain⟨c,oc,fs,t,e1,e2,e3,e4⟩:=hcr; exact⟨c,oc,fs,t,e1,B.sub _ _ e2,e3,e4⟩
 refine c9y hkw (by decide) [v0,.ref a2] rfl (ks.zip kvs) (fun p hp hm=>?_) (by rw[hzk]; exact hknd) hkl' fun h1 tk1 sb1 hd1=>?_
 ·have hp1:p.1∈ks:=by rw[←hzk]; exact List.mem_map.mpr ⟨p,hp,rfl⟩
  obtain⟨n1,n2⟩:=hkne p.1 hp1;simp at hm;exact hm.elim n1 n2
 rw[hclo];refine wpAny_newFunctionEnv (s:={ s with heap:=h1,toks:=tk1 }) hnocell (fun x hx=>?_) (fun h2 hns hsb=>?_) hkind
 ·simp at hx
  rcases hx with rfl|rfl|rfl <;> exact lk _ (by simp)
 have hns:h2.Ns h1.objs.size fun x=>List.lookup x [(("extrainfo" : Str),Value.ref s.heap.objs.size),("get_name",.ref a2),("name_index",v0)]:=hns;have sb12:Sub h1 h2:=fun b o e=>hsb.extBut b o (Nat.ne_of_lt (Heap.lt_size e)) (Heap.get?_push_of_some _ e);have sb2:Sub s.heap h2:=sb1.trans sb12;refine⟨T.nolimit.keeps sb2,codeAny_func ?_⟩;generalize henv:newEnv fd.scope ({ s with heap:=h1,toks:=tk1 }:d8f).heap.objs.size fd.globals [] (fd.qualname++Str.ofString ".<locals>.") (some a) fd.code none fd.builtins=env
 have he1:env.scope=fd.scope:=henv▸rfl;have he2:env.locals=h1.objs.size:=henv▸rfl;have he4:env.frame=some h1.objs.size:=henv▸rfl;have hk:∀y,env.kindOf y=fd.scope.names.lookup y:=fun y=>by unfold Env.kindOf; rw[he1]
 have hfk:env.scope.kind=.function:=by rw[he1]; exact hkind
 have hsz1:@LE.le Nat _ s.heap.objs.size h1.objs.size:=by
  obtain⟨od,_,_,hod,_⟩:=hd1;exact Nat.le_of_lt (Heap.lt_size hod)
 have Lnew:s.heap.get? h1.objs.size=none:=a0s hsz1;have hd2':h2.DictOf (d8t C.prog C.w) s.heap.objs.size (ks.zip kvs):=hd1.at fun o e=>sb12 _ _ e;have hsys:(s.heap.objs.size==sysModules)=false:=by
  have:@LT.lt Nat _ sysModules s.heap.objs.size:=modules_low T.nolimit
  exact beq_false_of_ne (Nat.ne_of_gt this)
 have name:∀(x:Str) (v:d8g) {p:Pos} (s':d8f) (Qx:d8g→d8f→Prop) (E:d8g→d8f→Prop),x∈([("name_index" : Str), "get_name", "extrainfo", "argval"])→List.lookup x [(("extrainfo" : Str),Value.ref s.heap.objs.size),("get_name",.ref a2),("name_index",v0)]=some v→(x==("__debug__" : Str))=false→Sub h2 s'.heap→Qx v s'→
   d8i (model C.prog C.w) (A.deeper env) (eval (.Name x p) env) Qx E s':=fun x v {p} s' Qx E hx hl hdb hsub hq=>
  wpAny_Name (d8z hfk ((hk x).trans (lk x hx)) (by rw[he2]; exact hns.keeps hsub) hl hq) hdb
 refine d8m (wpAny_If (wpAny_isTrue_Compare1 (name "get_name" (.ref a2) _ _ _ (by simp) rfl (by decide) (by exact fun b o e=>e) (wpAny_Constant_none (wpAny_isNot_other rfl (by simp) ?_))) (by rfl)))
 refine a3y (g:=g) (b:=true) (RD.bool true) fun tk2=>?_;refine d8m (wpAny_Assign_Name ?_ (a4f rfl));refine wpAny_Call_ofName (name "get_name" (.ref a2) { s with heap:=h2,toks:=tk2 } _ _ (by simp) rfl (by decide) (by exact fun b o e=>e) ?_)
 have ho2:∀h',Sub s.heap h'→h'.get? a2=some o2:=fun h' hs=>hs _ _ (B.sub _ _ (hg2 g B.amb));refine b2q hd2 (ho2 _ sb2) (fun Qx hq=>name "name_index" v0 { s with heap:=h2,toks:=tk2 } Qx _ (by simp) rfl (by decide) (by exact fun b o e=>e) hq) hd2' hsys hkl' (fun s' Qx hsub hq=>name "extrainfo" _ s' Qx _ (by simp) rfl (by decide) hsub hq) fun h3 hs3=>?_
 have sb3:Sub s.heap h3:=sb2.trans hs3;have x3:Step [] s g { s with heap:=h3,toks:=tk2 } g:=Step.ext sb3
 have B3:BRel C g h3 al ow:=B.move x3 (B.sub.trans sb3) (by simp)
 have FB3:FrB C (A.deeper env) g h3 al:=by
  obtain⟨fs,f1,f2'⟩:=fb;refine⟨env::fs,by show A.frames.map _=_; rw[f1]; rfl,fun e he=>?_⟩
  rcases List.mem_cons.mp he with rfl|he
  ·obtain⟨o',es,ep,q1,q2,_⟩:=hns.keeps hs3
   refine⟨by rw[he1,hkind]; simp,h1.objs.size,he4,a3d B.sub Lnew,fun hm=>?_,fun hm=>?_,o',es,ep,q1,q2⟩
   ·obtain⟨j,hj,e'⟩:=List.getElem_of_mem hm
    obtain⟨a',ha',q⟩:=B.own j _ (List.getElem?_eq_getElem (by rw[←B.olen]; exact hj))
    rw[List.getElem?_eq_getElem hj,e']at ha';cases ha';obtain⟨ob,hob⟩:=q.alive B.sub;rw[Lnew]at hob; cases hob
   ·obtain⟨_,o'',ho'',_⟩:=B.tabs _ hm
    rw[Lnew]at ho''; cases ho''
  ·obtain⟨k1,L,k2,k3,k4,k5,o',es,ep,k6,k7⟩:=f2' e he
   exact⟨k1,L,k2,k3,k4,k5,o',es,ep,sb3 _ _ k6,k7⟩
 have Lout:h1.objs.size∉al∧h1.objs.size∉C.TA:=by
  obtain⟨fs',e1,hfr⟩:=FB3;obtain⟨fs,f1,_⟩:=fb;have e1:A.frames.map (env :: ·)=some fs':=e1;rw[f1]at e1; cases e1;obtain⟨_,L,q1,_,q2,q3,_⟩:=hfr env (.head _);rw[he4]at q1; cases q1;exact⟨q2,q3⟩
 have aok2:AOK (A.deeper env) n hz g:=⟨by have:=aok.depth; show A.depth+1+n≤_; exact a1z (.l (.p (.p N0 O1) N1) N2) (.l (.p N0 (.p N1 O1)) N2) this,by have:=aok.units; show A.units+3+4*n+70<_; exact a1z (.t (.p (.p (.p N0 (.k 3)) (.m 0 4 N1)) (.k 70)) N2) (.t (.p (.p N0 (.m 0 4 (.p N1 O1))) (.k 70)) N2) this,aok.none,aok.handled⟩
 rw[show call (.ref a2) [v0] (ks.zip kvs)=call (C.fnv f2) [v0] (ks.zip kvs) from by rw[ha2]]
 refine Γok f2 (A.deeper env) g { s with heap:=h3,toks:=tk2 } al ow hz [v0] ks kvs (u0::ws) _ _ _ aok2 B3 FB3 hkl ⟨iv0,ivs⟩ hw fun v u ow' s4 g4 B4 x4 iv4 hq4=>?_
 ·obtain⟨d,rfl,hq4⟩:=hq4
  have Lg:g4.get? h1.objs.size=none:=by
   obtain⟨o',es,ep,q1,q2,_⟩:=hns.keeps hs3;exact x4.fresh _ o' (fun hm=>(List.mem_append.mp hm).elim Lout.1 Lout.2) q1 (a3d B.sub Lnew)
  have hn4:s4.heap.Ns env.locals (fun x=>List.lookup x [(("extrainfo" : Str),Value.ref s.heap.objs.size),("get_name",.ref a2),("name_index",v0)]):=by
   rw[he2];exact KeptIn.ns (hns.keeps hs3) fun o' e'=>x4.keep _ o' (fun hm=>(List.mem_append.mp hm).elim Lout.1 Lout.2) e'
  refine wpAny_storeName_local ((hk "argval").trans (lk "argval" (by simp))) hn4 (fun h5 hn5 hs5=>?_) (by rw[hfk]; rfl)
  rw[he2]at hs5;obtain⟨x5,sg5⟩:=Step.one (tk:=s4.toks+1) B4.sub Lg hs5;refine d8m (wpAny_Return_some (Tuple_ ?_));have ld:∀{p:Pos} {Qx:d8g→d8f→Prop} {E:d8g→d8f→Prop},Qx v { s4 with heap:=h5,toks:=s4.toks+1 }→d8i (model C.prog C.w) (A.deeper env) (eval (.Name "argval" p) env) Qx E { s4 with heap:=h5,toks:=s4.toks+1 }:=fun{p Qx E} hq=>
   wpAny_Name (d8z hfk ((hk "argval").trans (lk "argval" (by simp))) hn5 (by simp) hq) (by decide)
  refine spliced_more (ld (spliced_more (ld (spliced_nil ?_)) rfl)) rfl;refine wpAny_newTuple ?_;have hp:(h5.push { cls:=.type "tuple",data:=.seq #[v,v] }).get? h5.objs.size=some { cls:=.type "tuple",data:=.seq #[v,v] }:=Heap.get?_push_size _ rfl;obtain⟨g6,x6,x7,x8⟩:=Step.grow (s:={ s4 with heap:=h5,toks:=s4.toks+1 }) (tk:=s4.toks+1) sg5 (a0e { cls:=.type "tuple",data:=.seq #[v,v] }) (a0d h5) (fun o e hc=>by rw[hp]at e; cases e; simp at hc)
  have x56:Step [h1.objs.size] s4 g4 { s4 with heap:=h5.push { cls:=.type "tuple",data:=.seq #[v,v] },toks:=s4.toks+1 } g6:=x5.tr (x6.mono fun _ h=>nomatch h)
  have B6:BRel C g6 (h5.push { cls:=.type "tuple",data:=.seq #[v,v] }) al ow':=B4.move x56 x7 fun b hb=>by simp at hb; subst hb; exact Lout
  have step:Step (al++C.TA) s g { s4 with heap:=h5.push { cls:=.type "tuple",data:=.seq #[v,v] },toks:=s4.toks+1 } g6:=((x3.mono (W':=al++C.TA) fun _ h=>nomatch h).tr x4).trans x56 fun b hb=>by simp at hb; subst hb; exact .inr Lnew
  have rv:RD g6 v d:=RD.mono x56.sub iv4;have hT:g6.IsTuple h5.objs.size #[v,v]:=⟨_,x8.trans hp,rfl,0,rfl⟩
  rcases hq4 with hq|hq
  ·exact kk (.ref h5.objs.size) (.twin d) ow' _ g6 B6 step ⟨_,v,rfl,hT,rv⟩ hq
  ·exact kk (.ref h5.objs.size) (.dat (.tuple [d,d])) ow' _ g6 B6 step (RD.tuple (vs:=[v,v]) hT (.cons rv (.one rv))) hq
end
end
section
noncomputable def b9l(fd:FuncData)(ps ls:List Str):Bool:=
 fd.closure.isEmpty&&fd.scope.kind == .function && !fd.scope.isCoroutine && !fd.scope.isGenerator&&fd.globals==d8o&&fd.builtins==builtinsNs&&decide ((fd.scope.names.map (·.1)).Nodup)&&decide ((ps++ls).Nodup) &&
  (ps++ls).all (fun x=>fd.scope.names.lookup x==some .local||fd.scope.names.lookup x==some .cell)&&fd.scope.names.all (fun p=>p.2 != .free)&&a4e fd.params fd.defaults ps
theorem b7v{ps ls:List Str}(hb:fd.body=.stmts stmts)(h:b9l fd ps ls=true):FnOK fd ps ls stmts:=by
 have h11:=a0a h;have h10:=List.all_eq_true.mp (a0a (a0b h));have h9:=List.all_eq_true.mp (a0a (a0b (a0b h)));have h8:=of_decide_eq_true (a0a (a0b (a0b (a0b h))));exact{
     body:=hb,closure:=List.isEmpty_iff.mp (a0b (a0b (a0b (a0b (a0b (a0b (a0b (a0b (a0b (a0b h)))))))))),kind:=beq_iff_eq.mp (a0a (a0b (a0b (a0b (a0b (a0b (a0b (a0b (a0b (a0b h)))))))))),co:=b2o (a0a (a0b (a0b (a0b (a0b (a0b (a0b (a0b (a0b h))))))))),gen:=b2o (a0a (a0b (a0b (a0b (a0b (a0b (a0b (a0b h)))))))),globals:=beq_iff_eq.mp (a0a (a0b (a0b (a0b (a0b (a0b (a0b h))))))),builtins:=beq_iff_eq.mp (a0a (a0b (a0b (a0b (a0b (a0b h)))))),nodup:=of_decide_eq_true (a0a (a0b (a0b (a0b (a0b h))))),xnodup:=h8
     kinds:=fun x hx=>(Bool.or_eq_true_iff.mp (h9 x hx)).imp beq_iff_eq.mp beq_iff_eq.mp
     nofree:=fun p hp=>bne_iff_ne.mp (h10 p hp)
     bind:=fun vals hl=>a9z h11 (List.nodup_append.mp h8).1 vals hl
     bindK:=fun vals ks kvs=>a8g h11 (List.nodup_append.mp h8).1 vals ks kvs }
theorem nn{α:Type}{a:α}{P:Prop}(h:none=some a):P:=nomatch h
noncomputable def asR:d8g→Option Addr|.ref a=>some a|_=>none
noncomputable def asI:d8g→Option Int|.int i _=>some i|_=>none
noncomputable def asS:d8g→Option Str|.str s _=>some s|_=>none
noncomputable def asT:d8g→Option String|.type c=>some c|_=>none
noncomputable def asF:Data→Option FuncData|.func f=>some f|_=>none
noncomputable def asD:Data→Option (Array DictEntry)|.dict e _=>some e|_=>none
noncomputable def asB:FuncBody→Option (List Stmt)|.stmts l=>some l|_=>none
theorem c7d{a:Addr}(h:asR v=some a):v=.ref a:=by cases v <;> first|exact nn h|exact congrArg _ (Option.some.inj h)
theorem c6r{a:Int}(h:asI v=some a):∃t,v=.int a t:=by cases v <;> first|exact nn h|exact⟨_,congrArg (Value.int · _) (Option.some.inj h)⟩
theorem c7a{a:Str}(h:asS v=some a):∃t,v=.str a t:=by cases v <;> first|exact nn h|exact⟨_,congrArg (Value.str · _) (Option.some.inj h)⟩
theorem d3n{a:String}(h:asT v=some a):v=.type a:=by cases v <;> first|exact nn h|exact congrArg _ (Option.some.inj h)
theorem d3r{v:Data}{a:FuncData}(h:asF v=some a):v=.func a:=by cases v <;> first|exact nn h|exact congrArg _ (Option.some.inj h)
theorem d3o{v:Data}{a:Array DictEntry}(h:asD v=some a):∃n,v=.dict a n:=by cases v <;> first|exact nn h|exact⟨_,congrArg (Data.dict · _) (Option.some.inj h)⟩
theorem d2c{v:FuncBody}{a:List Stmt}(h:asB v=some a):v=.stmts a:=by cases v <;> first|exact nn h|exact congrArg _ (Option.some.inj h)
theorem d1c{α:Type}{o:Option α}{p:α→Bool}(h:o.any p=true):∃q,o=some q∧p q=true:=by
 cases o with
 |none=>cases h
 |some q=>exact⟨q,rfl,h⟩
theorem c8s{α:Type}{o:Option (Option α)}{v:α}(h:o.bind id=some v):o=some (some v):=by
 obtain⟨w,h1,h2⟩:=Option.bind_eq_some_iff.mp h;exact h1.trans (congrArg some h2)
noncomputable def c8o(K:Frag)(x:Str):Option (Addr×Obj×FuncData×List Stmt):=((nsIn K d8o x).bind id).bind fun v=>(asR v).bind fun a=>(K.lookup a).bind fun o=>(asF o.data).bind fun fd=>(asB fd.body).map fun l=>(a,o,fd,l)
theorem b1z{K:Frag}{a:Addr}{l:List Stmt}(h:c8o K x=some (a,o,fd,l)):nsIn K d8o x=some (some (.ref a))∧K.lookup a=some o∧o.data=.func fd∧fd.body=.stmts l:=by
 obtain⟨v,h0,h⟩:=Option.bind_eq_some_iff.mp h;obtain⟨a',h2,h⟩:=Option.bind_eq_some_iff.mp h;obtain⟨o',h3,h⟩:=Option.bind_eq_some_iff.mp h;obtain⟨fd',h4,h⟩:=Option.bind_eq_some_iff.mp h;obtain⟨l',h5,h⟩:=Option.map_eq_some_iff.mp h;cases h;exact⟨(c8s h0).trans (congrArg (fun v=>some (some v)) (c7d h2)),h3,d3r h4,d2c h5⟩
noncomputable def a0l(K:Frag)(x:Str):List Stmt:=((c8o K x).map (·.2.2.2)).getD []
theorem b3k{K:Frag}{a:Addr}{l:List Stmt}(h:c8o K x=some (a,o,fd,l)):a0l K x=l:=congrArg (fun q=>(Option.map (fun r:Addr×Obj×FuncData×List Stmt=>r.2.2.2) q).getD []) h
noncomputable def a7g(K:Frag)(x:Str)(ps ls:List Str)(chk:FuncData→List Stmt→Bool):Bool:=(c8o K x).any fun q=>b9l q.2.2.1 ps ls&&codeIn K q.2.2.1.code q.2.2.1.qualname&&chk q.2.2.1 q.2.2.2
inductive TD(C:Cfg)(K:Frag)(f:Nat)(x:Str)(ps ls:List Str)(chk:FuncData→List Stmt→Bool):Prop
 |mk:∀a o fd stmts,C.mg x=some (.ref a)→C.fnv f=.ref a→o.data=.func fd→(∀g,C.Amb g→g.get? a=some o∧g.CodeRec fd.code fd.qualname)→FnOK fd ps ls stmts→chk fd stmts=true→a0l K x=stmts→TD C K f x ps ls chk
structure Tied(C:Cfg)(K:Frag)(names:List Str):Prop where
 ins:∀g,C.Amb g→K.In g
 mg:∀x v,nsIn K d8o x=some (some v)→C.mg x=some v
 mn:∀x,nsIn K d8o x=some none→C.mg x=none
 fnv:∀(f:Nat) x v,names[f]?=some x→nsIn K d8o x=some (some v)→C.fnv f=v
section
variable {C:Cfg} {K:Frag} {names:List Str} {k:Ck}
theorem Tied.def(T:Tied C K names){ps ls:List Str}{chk:FuncData→List Stmt→Bool}(hf:names[f]?=some x)(h:a7g K x ps ls chk=true) :
  TD C K f x ps ls chk:=by
 obtain⟨⟨a,o,fd,l⟩,e,h⟩:=d1c h;obtain⟨h1,h2,h3,h4⟩:=b1z e;exact⟨a,o,fd,l,T.mg _ _ h1,T.fnv f x _ hf h1,h3,fun g hg=>⟨T.ins g hg _ _ h2,codeRec_of (T.ins g hg) (a0a (a0b h))⟩,b7v h4 (a0b (a0b h)),a0a h,b3k e⟩
theorem Tied.defAt(T:Tied C K names){ps ls:List Str}{body:Ss}(hf:names[f]?=some x)(h:a7g K x ps ls (fun fd stmts=>b7w k hzf (a2f fd.scope.names (ps++ls)) body stmts)=true)(hr:a5i body (a0l K x)=a0l K x):DefAt C k f ps.length body hzf:=by
 obtain⟨a,o,fd,stmts,_,h2,h3,h4,h5,h6,h7⟩:=T.def hf h;exact⟨a,o,fd,ps,ls,stmts,h2,h3,h4,h5,rfl,stmts,h6,by rw[←h7]; exact hr⟩
noncomputable def d6z(K:Frag)(x:Str)(i:Int):Bool:=((nsIn K d8o x).bind id).any fun v=>decide (asI v=some i)
noncomputable def d7o(K:Frag)(x:Str)(i:Str):Bool:=((nsIn K d8o x).bind id).any fun v=>decide (asS v=some i)
noncomputable def d1u(K:Frag)(x:Str):Bool:=(nsIn K d8o x).any (·.isNone)
theorem Tied.good(T:Tied C K names)(hn:∀(f:Nat) x,k.fname f=some x→names[f]?=some x)(h1:(names.all fun x=>(c8o K x).isSome)=true)(h2:k.gi.all (fun p=>d6z K p.1 p.2)=true)(h3:k.gs.all (fun p=>d7o K p.1 p.2)=true)(h4:bnames.all (d1u K)=true)(h5:∀f,k.fcl f=false):Good C k where
 gi:=fun x i h=>by
  obtain⟨v,h0,e⟩:=d1c (List.all_eq_true.mp h2 _ (d8k h));obtain⟨t,rfl⟩:=c6r (of_decide_eq_true e);exact⟨t,T.mg _ _ (c8s h0)⟩
 gs:=fun x i h=>by
  obtain⟨v,h0,e⟩:=d1c (List.all_eq_true.mp h3 _ (d8k h));obtain⟨t,rfl⟩:=c7a (of_decide_eq_true e);exact⟨t,T.mg _ _ (c8s h0)⟩
 fn:=fun f x h=>by
  obtain⟨q,e⟩:=Option.isSome_iff_exists.mp (List.all_eq_true.mp h1 x (List.mem_of_getElem? (hn f x h)));have e:=(b1z e).1;exact(T.mg _ _ e).trans (congrArg some (T.fnv f x _ (hn f x h) e).symm)
 fo:=fun f x h=>by
  obtain⟨q,e⟩:=Option.isSome_iff_exists.mp (List.all_eq_true.mp h1 x (List.mem_of_getElem? (hn f x h)));have e:=b1z e;exact⟨_,_,_,T.fnv f x _ (hn f x h) e.1,e.2.2.1,fun g hg=>T.ins g hg _ _ e.2.1⟩
 bn:=fun x hx=>by
  obtain⟨v,h0,e⟩:=d1c (List.all_eq_true.mp h4 x hx);exact T.mn _ (h0.trans (congrArg some (Option.isNone_iff_eq_none.mp e)))
 fc:=fun f h=>by rw[h5 f]at h; cases h
end
end
section
open PySem
noncomputable def nF:Nat:=100
noncomputable def c1u:S:=.assignOwn 2 (.bin .mul (.list (.cons (.int 0) .nil)) (.bin .fdiv (.bin .sub (.bin .add (.me .bitlen (.var 0) .nil) (.var 1)) (.int 1)) (.var 1)))
noncomputable def a9c:Es:=.cons (.var 0) (.cons (.int 0) (.cons (.bi .len (.cons (.var 2) .nil)) .nil))
noncomputable def i2dLs:List Str:=["mid", "shift", "upper", "lower"]
noncomputable def a6z:Ss:=
 .cons (.ifs (.cmp .eq (.bin .add (.var 1) (.int 1)) (.var 2)) (.cons (.setIdx 7 (.var 1) (.var 0)) (.cons .retNone .nil)) .nil)
 (.cons (.assign 3 (.bin .shr (.bin .add (.var 1) (.var 2)) (.int 1)))
 (.cons (.assign 4 (.bin .mul (.bin .sub (.var 3) (.var 1)) (.var 8)))
 (.cons (.assign 5 (.bin .shr (.var 0) (.var 4)))
 (.cons (.assign 6 (.bin .bxor (.var 0) (.bin .shl (.var 5) (.var 4))))
 (.cons (.expr (.callV 9 nF (.cons (.var 6) (.cons (.var 1) (.cons (.var 3) .nil)))))
 (.cons (.expr (.callV 9 nF (.cons (.var 5) (.cons (.var 3) (.cons (.var 2) .nil))))) .nil))))))
noncomputable def a9k:Es:=.cons (.int 0) (.cons (.bi .len (.cons (.var 0) .nil)) .nil)
noncomputable def d2iLs:List Str:=["mid", "shift"]
noncomputable def a6y:Ss:=
 .cons (.ifs (.cmp .eq (.bin .add (.var 0) (.int 1)) (.var 1)) (.cons (.ret (.idx (.var 4) (.var 0))) .nil) .nil)
 (.cons (.assign 2 (.bin .shr (.bin .add (.var 0) (.var 1)) (.int 1)))
 (.cons (.assign 3 (.bin .mul (.bin .sub (.var 2) (.var 0)) (.var 5)))
 (.cons (.ret (.bin .add (.bin .shl (.callV 6 nF (.cons (.var 2) (.cons (.var 1) .nil))) (.var 3)) (.callV 6 nF (.cons (.var 0) (.cons (.var 2) .nil))))) .nil)))
end
section
structure Mk where
 c:Addr
 P:Addr
 pos:Pos
 qual:Str
noncomputable def c8y(K:Frag)(names:List Str)(f:Nat):d8g:=match names[f]? with
 |some x=>(match nsIn K d8o x with|some (some v)=>v|_=>.none)
 |none=>.none
noncomputable def mkC(prog:Program)(w:World)(K:Frag)(mg mb:Str→Option d8g)(p:Program)(loose:List Str)(names:List Str)(toks:List (d8e×d8e))(TL:List Mk)(bm:Addr)(ob:Obj):Cfg where
 prog:=prog
 w:=w
 KI:=fun g=>K.In g∧(∀t∈TL,CodeHd g t.c t.P)∧g.get? bm=some ob
 KM:=fun g g' s h=>⟨h.1.keeps s,fun t ht=>(h.2.1 t ht).keeps s,s _ _ h.2.2⟩
 base:=[]
 p:=p
 loose:=loose
 mg:=mg
 mb:=mb
 tabs:=TL.map fun t=>(t.c,t.P)
 fnv:=c8y K names
 toks:=toks
 tabOk:=fun g P o=>∃ps,o=tabObj ps∧(ps=#[]∨∃t∈TL,t.P=P∧∃c',ps=#[rawInt t.pos.line,rawInt t.pos.col,.ref c']∧g.CodeRec (.ref c') t.qual)
 tabMono:=fun g g' P o s=>Exists.imp fun _=>And.imp_right (Or.imp id (Exists.imp fun _=>And.imp_right (And.imp_right (Exists.imp fun _=>And.imp_right (a1h s)))))
section
variable {prog:Program} {w:World} {K:Frag} {mg mb:Str→Option d8g} {p:Program} {loose names:List Str} {toks:List (d8e×d8e)} {TL:List Mk} {bm:Addr} {ob:Obj}
theorem c5d:Tied (mkC prog w K mg mb p loose names toks TL bm ob) K names∨∀g,¬(mkC prog w K mg mb p loose names toks TL bm ob).Amb g:=by
 by_cases h:∃g,(mkC prog w K mg mb p loose names toks TL bm ob).Amb g
 ·obtain⟨g,hg⟩:=h
  have G:g.Ns d8o mg:=hg.T.g;have hf:∀(f:Nat) x v,names[f]?=some x→nsIn K d8o x=some (some v)→c8y K names f=v:=fun f x v e1 e2=>by
   unfold c8y;rw[e1]; dsimp only; rw[e2]
  exact .inl ⟨fun g hg=>hg.K.1,fun x v e=>mg_of hg.K.1 G e,fun x e=>ns_none_of hg.K.1 G e,hf⟩
 ·exact .inr fun g hg=>h ⟨g,hg⟩
theorem b7j {t:Mk} (ht:t∈TL) (hu:∀t'∈TL,t'.P=t.P→t'=t) (hb:mg "__builtins__" = some (.ref bm)) (b2:bm≠builtinsNs) (b3:ob.cls=.type "module") (b4:ob.dict=some builtinsNs) (b5:ob.data=.plain) :
  NestAt (mkC prog w K mg mb p loose names toks TL bm ob) t.c t.P t.pos t.qual where
 hd:=fun g hg=>hg.K.2.1 t ht
 mem:=List.mem_map.mpr ⟨(t.c,t.P),List.mem_map.mpr ⟨t,ht,rfl⟩,rfl⟩
 out:=fun g o=>Exists.imp fun _=>And.imp_right (Or.imp id fun h=>h.elim fun t' h=>hu t' h.1 h.2.1▸h.2.2)
 put:=fun g c' hc=>⟨_,rfl,.inr ⟨t,ht,rfl,c',rfl,hc⟩⟩
 bm:=⟨bm,ob,hb,b2,b3,b4,b5,fun g hg=>hg.K.2.2⟩
end
noncomputable def a6f(o:Obj):Bool:=match o.data with
 |.seq _ _=>!(o.cls == .type "list")||o.dict.isNone
 |_=>true
noncomputable def b0m(K:Frag):Bool:=K.all fun p=>a6f p.2
theorem a6m(h:∀vs n,o.data ≠ .seq vs n):a6f o=true:=by
 unfold a6f;cases e:o.data with
 |seq vs n=>exact absurd e (h vs n)
 |_=>rfl
noncomputable def b5e(h:Heap)(b:Addr):Bool:=match h.get? b with
 |some o=>a6f o
 |none=>false
theorem b1e{b:Addr}(e:h.get? b=some o):b5e h b=a6f o:=by unfold b5e; rw[e]
theorem c8e{tabs:List (Addr×Addr)}(hT:TabsAt tabs h):∃g:Heap,Sub g h∧ND g∧(∀P∈tabs.map (·.2),g.get? P=none)∧(∀b o,h.get? b=some o→o≠tabObj #[]→a6f o=true→g.get? b=some o) ∧
  (∀b o,h.get? b=some o→g.get? b=some o∨o=tabObj #[]∧b∈tabs.map (·.2)∨(∃vs n,o.data=.seq vs n)):=by
 obtain⟨g,_,e⟩:=a4y (ghostOf h tabs) (b5e h);have sub:Sub g h:=fun b o he=>by
  rw[e b]at he
  split at he
  ·exact of_hideAll _ he
  ·cases he
 have get:∀b o,h.get? b=some o→b∉tabs.map (·.2)→a6f o=true→g.get? b=some o:=fun b o he hb hp=>by
  rw[e b,b1e he,hp,if_pos rfl];exact ghost_ne he hb
 refine⟨g,sub,fun a o he hc ⟨vs,n,hd⟩=>?_,fun P hP=>?_,fun b o he hn hp=>get b o he (fun hm=>?_) hp,fun b o he=>?_⟩
 ·have he':=sub _ _ he
  rw[e a,b1e he']at he
  split at he
  ·rename_i hp
   unfold a6f at hp;rw[hd]at hp;simpa[hc]using hp
  ·cases he
 ·rw[e P]
  split
  ·exact hideAll_none _ hP
  ·rfl
 ·obtain⟨r,hr,e2⟩:=List.mem_map.mp hm
  have e3:=(hT r hr).2;rw[e2,he]at e3;exact hn (Option.some.inj e3)
 ·by_cases hb:b∈tabs.map (·.2)
  ·obtain⟨r,hr,e2⟩:=List.mem_map.mp hb
   have e3:=(hT r hr).2;rw[e2,he]at e3;exact .inr (.inl ⟨Option.some.inj e3,hb⟩)
  ·by_cases hp:a6f o=true
   ·exact .inl (get b o he hb hp)
   ·refine .inr (.inr ?_)
    apply Classical.byContradiction;intro hq;exact hp (a6m fun vs n q=>hq ⟨vs,n,q⟩)
theorem b9k{g:Heap}:∀{vs:List d8g} {is:List Int},IntsAre vs is→RDs g vs (is.map .int)
 |_,_,.nil=>.nil
 |_,_,.cons _ _ t=>.cons (RD.int _ _) (b9k t)
section
variable {prog:Program} {w:World} {K:Frag} {mg mb:Str→Option d8g} {p:Program} {loose names:List Str} {toks:List (d8e×d8e)} {TL:List Mk} {mean:ExcName→Option d8g}
theorem c4a{s:d8f}{a:Addr}{is:List Int}(KX:K.In s.heap)(h1:noTabs K=true)(h2:b0m K=true)(hT:TabsAt (TL.map fun t=>(t.c,t.P)) s.heap)(T:Top p loose mean mg mb s.heap)
 (hw:s.heap.get? a=some { cls:=.type "list",data:=.seq vs.toArray }) (hI:IntsAre vs is) :
  ∃bm ob,mg "__builtins__" = some (.ref bm)∧bm≠builtinsNs∧ob.cls=.type "module" ∧ ob.dict=some builtinsNs∧ob.data=.plain ∧
   ∃g,BRel (mkC prog w K mg mb p loose names toks TL bm ob) g s.heap [] []∧RD g (.ref a) (.list (is.map .int)) ∧
    ∀s' g',BRel (mkC prog w K mg mb p loose names toks TL bm ob) g' s'.heap [] []→Step (mkC prog w K mg mb p loose names toks TL bm ob).TA s g s' g'→OldK s.heap s'.heap:=by
 obtain⟨bm,ob,b1,b2,b3,b4,b5,b6⟩:=T.bmain;obtain⟨g,sub,nd,gn,get,alt⟩:=c8e hT;have notab:∀o:Obj,(∀vs,o.data ≠ .fields vs)→o≠tabObj #[]:=fun o h q=>by subst q; exact h _ rfl
 have ns:∀{N:Addr} {m:Str→Option d8g},s.heap.Ns N m→g.Ns N m:=Exists.imp fun o=>Exists.imp fun es=>Exists.imp fun ep h=>
  ⟨get _ _ h.1 (notab _ fun vs q=>by rw[h.2.1]at q; cases q) (a6m fun vs n q=>by rw[h.2.1]at q; cases q),h.2⟩
 have TR:TopRead p loose mg mb g:=by
  have T0:=topRead_of T;exact⟨ns T0.g,ns T0.b,(T0.nolimit.imp fun _=>And.imp_left ns),T0.builtins,T0.free⟩
 have KG:K.In g:=fun b o e=>by
  have hm:=mem_of_lookupK e;refine get b o (KX _ _ e) (fun q=>?_) (List.all_eq_true.mp h2 _ hm);have h3:=List.all_eq_true.mp h1 _ hm;subst q;exact absurd (show false=true from h3) Bool.false_ne_true
 have TT:(mkC prog w K mg mb p loose names toks TL bm ob).TA=TL.map fun t=>t.P:=by
  show((TL.map fun t=>(t.c,t.P)).map (·.2))=_;rw[List.map_map]; rfl
 have B:BRel (mkC prog w K mg mb p loose names toks TL bm ob) g s.heap [] []:={
  sub:=sub
  amb:=⟨⟨KG,fun t ht=>by
   obtain⟨⟨o,vs',file,tf,flags,tg,inF,text,tt,e1,e2,e3,r⟩,_⟩:=hT (t.c,t.P) (List.mem_map.mpr ⟨t,ht,rfl⟩);exact⟨o,vs',file,tf,flags,tg,inF,text,tt,get _ _ e1 (fun q=>by rw[q]at e2; cases e2) (a6m fun vs n q=>by rw[e3]at q; cases q),e2,e3,r⟩,
   get _ _ b3 (fun q=>by rw[q]at b4; cases b4) (a6m fun vs n q=>by rw[b6]at q; cases q)⟩,TR⟩
  nd:=nd
  tabs:=fun P hP=>by
   obtain⟨q,hq,rfl⟩:=List.mem_map.mp hP;have hq:q∈TL.map fun t=>(t.c,t.P):=hq;exact⟨gn _ (List.mem_map.mpr ⟨q,hq,rfl⟩),tabObj #[],(hT q hq).2,(by intro es ep h; cases h),#[],rfl,.inl rfl⟩
  olen:=rfl
  own:=fun k o e=>by simp at e
  alnd:=List.nodup_nil
  ata:=fun b hb=>nomatch hb
  base:=List.prefix_refl _ }
 have ha:=get _ _ hw (fun q=>by have:=congrArg Obj.data q; cases this) (by rfl)
 refine⟨bm,ob,b1,b2,b4,b5,b6,g,B,RD.list ⟨_,ha,rfl,0,rfl⟩ (b9k hI),fun s' g' B' x=>⟨fun b o e=>?_,fun b o e=>?_⟩⟩
 ·rcases alt b o e with hb|⟨rfl,hb⟩|⟨vs',n,hd⟩
  ·exact .inl (B'.sub _ _ (x.sub _ _ hb))
  ·obtain⟨q,hq,rfl⟩:=List.mem_map.mp hb
   obtain⟨_,o',ho',_,ps,rfl,_⟩:=B'.tabs q.2 (List.mem_map.mpr ⟨q,hq,rfl⟩);exact .inr (.inl ⟨((hT q hq).1.tab (hT q hq).2).isCodeTable,rfl,#[],ps,rfl,by simpa using ho'⟩)
  ·by_cases hb:b∈(mkC prog w K mg mb p loose names toks TL bm ob).TA
   ·obtain⟨q,hq,rfl⟩:=List.mem_map.mp hb
    have:=(hT q hq).2
    rw[e]at this; cases this; cases hd
   ·exact .inl ((x.keep b o hb e).exact fun es ep q=>by rw[hd]at q; cases q)
 ·by_cases hb:b∈(mkC prog w K mg mb p loose names toks TL bm ob).TA
  ·obtain⟨_,o',ho',_⟩:=B'.tabs b hb; exact⟨o',ho'⟩
  ·exact(x.keep b o hb e).alive
end
end
section
noncomputable def d7m (l:List Stmt):List Stmt:=.Assign [.Name "b" (xP (sT (sh l)))] (.Call (.Name "next" (xP (x1 (sV (sh l))))) [.Name "iterator" (xP (xa0 (sV (sh l))))] [] (xP (sV (sh l)))) (sP (sh l))::l.tail
noncomputable def d4f (fd:FuncData) (_:List Stmt):Bool:=fd.scope.names.lookup ("next" : Str)==some .globalImplicit&&fd.scope.names.lookup ("iterator" : Str)==some .local
set_option backward.match.sparseCases false in
noncomputable def sRz:Stmt→Expr|.Raise (some e) _ _=>e|_=>default
noncomputable def d7d (l:List Stmt):List Stmt:=.If (.Compare (.Name "b" (xP (x1 (sV (sh l))))) [.Eq] [.Constant (.int 0) (xK (xa0 (sV (sh l)))) (xP (xa0 (sV (sh l))))] (xP (sV (sh l)))) [.Raise (some (.Name "ZeroDivisionError" (xP (sRz (sh (sB (sh l))))))) none (sP (sh (sB (sh l))))] (sE (sh l)) (sP (sh l))::l.tail
noncomputable def d3t (fd:FuncData) (_:List Stmt):Bool:=fd.scope.names.lookup ("ZeroDivisionError" : Str)==some .globalImplicit&&(fd.scope.names.lookup ("b" : Str)==some .local&&fd.scope.names.lookup ("a" : Str)==some .local)
noncomputable def d6x (K:Frag):Bool:=(c8o K "_get_name_info").any fun q=>c9l q.2.2.1&&codeIn K q.2.2.1.code q.2.2.1.qualname
section
variable {C:Cfg} {K:Frag} {names:List Str} {k:Ck}
theorem Tied.pv (T:Tied C K names) (hf:names[f]?=some ("_parse_varint" : Str)) (h:a7g K "_parse_varint" ["iterator"] ls d4f=true) (hr:d7m (a0l K "_parse_varint")=a0l K "_parse_varint"):PvAt C k:=by
  obtain⟨a,o,fd,stmts,h1,h2,h3,h4,h5,h6,h7⟩:=T.def hf h;rw[←h7,←hr]at h5;exact⟨a,o,fd,_,_,_,_,_,_,ls,h1,h3,h4,h5,beq_iff_eq.mp (a0b h6),beq_iff_eq.mp (a0a h6)⟩
theorem Tied.zd (T:Tied C K names) (hf:names[f]?=some ("int_divmod" : Str)) (h:a7g K "int_divmod" ["a", "b"] ls d3t=true) (hr:d7d (a0l K "int_divmod")=a0l K "int_divmod"):ZdAt C:=by
  obtain⟨a,o,fd,stmts,h1,h2,h3,h4,h5,h6,h7⟩:=T.def hf h;rw[←h7,←hr]at h5;exact⟨a,o,fd,ls,_,_,_,_,_,_,_,_,_,h1,h3,h4,h5,beq_iff_eq.mp (a0b h6),beq_iff_eq.mp (a0b (a0a h6)),beq_iff_eq.mp (a0a (a0a h6))⟩
theorem Tied.gni (T:Tied C K names) (hf:names[f]?=some ("_get_name_info" : Str)) (h:d6x K=true) (hr:c5l (a0l K "_get_name_info")=a0l K "_get_name_info"):GniAt C f:=by
  obtain⟨⟨a,o,fd,l⟩,e,h⟩:=d1c h;obtain⟨h1,h2,h3,h4⟩:=b1z e;rw[←(show a0l K _=l from b3k e),←hr]at h4
  exact⟨a,_,fd,_,T.fnv f _ _ hf h1,h3,fun g hg=>⟨T.ins g hg _ _ h2,codeRec_of (T.ins g hg) (a0a h)⟩,h4,a0b h⟩
noncomputable def c3s(K:Frag)(d:Addr):List DictEntry:=((K.lookup d).bind fun o=>asD o.data).elim [] Array.toList
noncomputable def c7k (K:Frag) (d:Addr):Bool:=(K.lookup d).any fun o=>decide (asT o.cls=some "dict")&&o.dict.isNone&&o.slots.isEmpty&&(asD o.data).isSome
noncomputable def d1b(e:DictEntry):Option (Str×d8g×Int):=(asS e.key).bind fun x=>(asI e.val).map fun j=>(x,e.val,j)
noncomputable def b9d(es:List DictEntry):List (d8e×d8e):=es.filterMap fun e=>(d1b e).map fun q=>(.str q.1,.int q.2.2)
noncomputable def a2v(es:List DictEntry):List Str:=es.filterMap fun e=>(d1b e).map fun q=>q.1
noncomputable def d5x(es:List DictEntry):Bool:=es.all (fun e=>(d1b e).isSome)&&decide ((a2v es).Nodup)&&decide (es.length≤1000)
theorem b3s{e:DictEntry}{q:Str×d8g×Int}(h:d1b e=some q):(∃t,e.key=.str q.1 t)∧e.val=q.2.1∧∃t,q.2.1=.int q.2.2 t:=by
 obtain⟨x,h1,h⟩:=Option.bind_eq_some_iff.mp h;obtain⟨j,h2,h⟩:=Option.map_eq_some_iff.mp h;cases h;exact⟨c7a h1,rfl,c6r h2⟩
theorem b3x{prog:Program}{w:World}:∀(es:List DictEntry),(es.all fun e=>(d1b e).isSome)=true→
  ∃kvs:List (Str×d8g),Pairs (d8t prog w) es kvs∧kvs.map (·.1)=a2v es∧PyProof.V.FlatPairs PyData.str kvs (b9d es)∧∀p∈b9d es,∃x j,p=(PyData.str x,PyData.int j)
 |[]=>fun _=>⟨[],.nil,rfl,.nil,fun _ h=>nomatch h⟩
 |e::es=>fun h=>by
  simp only[List.all_cons,Bool.and_eq_true]at h;obtain⟨kvs,h1,h2,h3,h4⟩:=b3x (prog:=prog) (w:=w) es h.2;obtain⟨q,hq⟩:=Option.isSome_iff_exists.mp h.1;obtain⟨⟨t,e1⟩,e2,u,e3⟩:=b3s hq;refine⟨(q.1,q.2.1)::kvs,.cons (by rw[e1]; exact strKind_is prog w q.1 t) e2 h1,?_,?_,?_⟩
  ·have:a2v (e::es)=q.1::a2v es:=by simp[a2v,hq]
   rw[this,←h2]; rfl
  ·have:b9d (e::es)=(.str q.1,.int q.2.2)::b9d es:=by simp[b9d,hq]
   rw[this];exact .cons (by rw[e3]; exact fun h=>.int _ _) h3
  ·have:b9d (e::es)=(.str q.1,.int q.2.2)::b9d es:=by simp[b9d,hq]
   rw[this];intro p hp
   rcases List.mem_cons.mp hp with rfl|hp
   ·exact⟨_,_,rfl⟩
   ·exact h4 p hp
theorem Tied.tok (T:Tied C K names) {d:Addr} (h1:nsIn K d8o "EXACT_TOKEN_TYPES" = some (some (.ref d))) (h2:c7k K d=true) (h3:d5x (c3s K d)=true) (h4:(d==sysModules)=false)
 (h5:(c3s K d).map (·.hash)=(a2v (c3s K d)).map (PyData.keyHash C.w.params)) (h6:a3w (b9d (c3s K d))=C.toks):TokAt C:=by
  obtain⟨o,hl,h2⟩:=d1c h2;obtain⟨es,hs⟩:=Option.isSome_iff_exists.mp (a0a h2);obtain⟨n,hd⟩:=d3o hs;have hes:c3s K d=es.toList:=congrArg (fun o=>Option.elim o [] Array.toList) (((congrArg (fun o=>Option.bind o fun o:Obj=>asD o.data) hl)).trans hs);rw[hes]at h3 h5 h6;unfold d5x at h3;simp only[Bool.and_eq_true,decide_eq_true_eq]at h3;obtain⟨⟨a1,a2⟩,a3⟩:=h3;obtain⟨kvs,p1,p2,p3,p4⟩:=b3x (prog:=C.prog) (w:=C.w) es.toList a1;refine⟨d,b9d es.toList,T.mg _ _ h1,fun g hg=>⟨h4,kvs,⟨_,es,n,T.ins g hg _ _ hl,⟨d3n (of_decide_eq_true (a0b (a0b (a0b h2)))),Option.isNone_iff_eq_none.mp (a0a (a0b (a0b h2))),Array.isEmpty_iff.mp (a0a (a0b h2))⟩,hd,fun e he=>?_,p1,by rw[p2]; exact a2⟩,p3⟩,p4,?_,h6.symm⟩
  ·-- the hashes
   have key:∀(l:List DictEntry),(l.all fun e=>(d1b e).isSome)=true→l.map (·.hash)=(a2v l).map (PyData.keyHash C.w.params)→∀e∈l,∃k,(d8t C.prog C.w).is k e.key=true∧e.hash=(d8t C.prog C.w).hash k:=by
    intro l
    induction l with
    |nil=>intro _ _ e he; cases he
    |cons x r ih=>
     intro ha hh e he;simp only[List.all_cons,Bool.and_eq_true]at ha;obtain⟨q,hq⟩:=Option.isSome_iff_exists.mp ha.1;have ek:a2v (x::r)=q.1::a2v r:=by simp[a2v,hq]
     rw[ek,List.map_cons,List.map_cons,List.cons.injEq]at hh
     rcases List.mem_cons.mp he with rfl|he
     ·obtain⟨⟨t,e1⟩,_⟩:=b3s hq
      exact⟨q.1,by rw[e1]; exact strKind_is C.prog C.w q.1 t,hh.1⟩
     ·exact ih ha.2 hh.2 e he
   exact key es.toList a1 h5 e (by simpa using he)
  ·have:(b9d es.toList).length≤es.toList.length:=List.length_filterMap_le _ _
   omega
end
end
section
noncomputable def b2v(K:Frag)(x:Str):Addr:=(((nsIn K d8o x).bind id).bind asR).getD 0
noncomputable def b8n(k:Ck)(hzf:Bool)(xs:List Str)(b:Ss)(fd:FuncData)(stmts:List Stmt):Bool:=b7w k hzf (a2f fd.scope.names xs) b stmts
noncomputable def c3j (t:Mk) (fd:FuncData):Bool:=(asR fd.code==some t.c)&&fd.scope.names.lookup ("inner" : Str)==some .cell&&fd.qualname ++ ".<locals>." ++ "inner" == t.qual
noncomputable def c7p(k:Ck)(t:Mk)(fd:FuncData)(stmts:List Stmt):Bool:=d3q k nF fd c1u a9c i2dLs a6z t.pos stmts&&c3j t fd
noncomputable def c6p(k:Ck)(t:Mk)(fd:FuncData)(stmts:List Stmt):Bool:=d4e k nF fd a9k d2iLs a6y t.pos stmts&&c3j t fd
theorem b7c {t:Mk} (h:c3j t fd=true):fd.code=.ref t.c∧∀L a,qualnameIn (d8j fd L a) "inner" "inner" = t.qual:=by
 unfold c3j at h;simp only[Bool.and_eq_true,beq_iff_eq]at h;obtain⟨⟨h1,h2⟩,h3⟩:=h;refine⟨?_,fun L a=>?_⟩
 ·exact c7d h1
 ·have hk:(d8j fd L a).kindOf ("inner" : Str)=some .cell:=h2
  unfold qualnameIn;rw[hk,if_neg (by decide)]
  exact h3
def d6w(tk:List (d8e×d8e))(n:Nat)(Γ:Ctx):Spec:=fun hz ks us ow Q=>hz=true∧d4k (d6y Γ tk nF i2dLs.length a6z n c1u a9c) 2 2 hz ks us ow Q
def d7f(tk:List (d8e×d8e))(n:Nat)(Γ:Ctx):Spec:=fun hz ks us ow Q=>hz=true∧d4k (d7q Γ tk nF d2iLs.length a6y n a9k) 2 1 hz ks us ow Q
def ntS:Spec:=fun hz ks us ow Q=>hz=true∧d4k wNt 1 1 hz ks us ow Q
def kwS(tk:List (d8e×d8e))(ps:List Str)(nl:Nat)(body:Ss)(hzf:Bool)(Γ:Ctx):Spec:=fun hz ks us ow Q=>(hzf=true→hz=true)∧ks=ps.drop (us.length-ks.length)∧fnW Γ tk ps.length nl body hz [] us ow Q
section
variable {C:Cfg} {K:Frag} {names:List Str} {k:Ck} {Γ:Ctx} {n:Nat}
theorem Tied.kw(T:Tied C K names)(Gd:Good C k)(Γok:a4c C Γ n)(X:Extra C Γ n k){ps ls:List Str}{body:Ss}(hf:names[f]?=some x)(h:a7g K x ps ls (fun fd stmts=>b7w k hzf (a2f fd.scope.names (ps++ls)) body stmts)=true)(hr:a5i body (a0l K x)=a0l K x) :
  b8w C (kwS C.toks ps nl body hzf Γ) (n+1) f:=by
 obtain⟨a,o,fd,stmts,_,h2,h3,h4,h5,h6,h7⟩:=T.def hf h;intro A g s al ow hz ps' ks kvs us Eh Q Q' aok B fb hl iv hw kk;have hI:c8f k hzf (a2f fd.scope.names (ps++ls)) body stmts:=⟨stmts,h6,by rw[←h7]; exact hr⟩
 have hS:=b5j Gd Γok X (a8i h5) hI;have hks:ks=ps.drop ps'.length:=by
  have h1:=iv.len;rw[List.length_append]at h1;have h2:=hw.2.1;rwa[show us.length-ks.length=ps'.length from by exact b2z (.e (.s N0 N1) N2) (.e N1 N3) (.e (.p N2 N3) N0) hl h1]at h2
 exact b3e h2 h3 h4 h5 (W:=fun st Q=>a1n Γ C.toks body st Q) (fun A env g s al st Eh Q Q' _ H hw kk=>hS A env g s al st Eh Q Q' H hw fun fl f al' g' s' st' a' hf hq=>kk fl f al' g' s' st' a'.pre a'.here.rel.b a'.step hf hq)
  A g s al ow hz ps' ks kvs us Eh Q Q' hw.1 aok B fb hl iv hks ⟨rfl,hw.2.2.2.1,hw.2.2.2.2⟩ kk
theorem Tied.i2d (T:Tied C K names) (Gd:Good C k) (Γok:a4c C Γ n) (X:Extra C Γ n k) (PV:PvAt C k) (TK:TokAt C) {t:Mk} (N:NestAt C t.c t.P t.pos t.qual) (hf:names[f]?=some ("_int2digits" : Str)) (h:a7g K "_int2digits" ["a", "n"] ["a_digits", "inner"] (c7p k t)=true) (hr:c4w c1u a9c a6z (a0l K "_int2digits")=a0l K "_int2digits") :
  b8w C (d6w C.toks n Γ) (n+1) f:=by
 obtain⟨a,o,fd,stmts,h1,h2,h3,h4,h5,h6,h7⟩:=T.def hf h;obtain⟨hc,hq⟩:=b7c (a0a h6);have hS:=c3f rfl Gd Γok X PV TK N h5 hc hq (a0b h6);rw[←h7,hr,h7]at hS;exact fun A g s al ow hz ps ks kvs us Eh Q Q' aok B fb hl iv hw kk=>a6j (nl:=2) h2 h3 h4 h5 hS A g s al ow hz ps ks kvs us Eh Q Q' (fun _=>hw.1) aok B fb hl iv hw.2 kk
theorem Tied.d2i (T:Tied C K names) (Gd:Good C k) (Γok:a4c C Γ n) (PV:PvAt C k) (TK:TokAt C) {t:Mk} (N:NestAt C t.c t.P t.pos t.qual) (hf:names[f]?=some ("_digits2int" : Str)) (h:a7g K "_digits2int" ["digits", "n"] ["inner"] (c6p k t)=true) (hr:c4q a9k a6y (a0l K "_digits2int")=a0l K "_digits2int") :
  b8w C (d7f C.toks n Γ) (n+1) f:=by
 obtain⟨a,o,fd,stmts,h1,h2,h3,h4,h5,h6,h7⟩:=T.def hf h;obtain⟨hc,hq⟩:=b7c (a0a h6);have hS:=c0x rfl Gd Γok PV TK N h5 hc hq (a0b h6);rw[←h7,hr,h7]at hS;exact fun A g s al ow hz ps ks kvs us Eh Q Q' aok B fb hl iv hw kk=>a6j (nl:=1) h2 h3 h4 h5 hS A g s al ow hz ps ks kvs us Eh Q Q' (fun _=>hw.1) aok B fb hl iv hw.2 kk
theorem Tied.nt (T:Tied C K names) (Gd:Good C k) (Z:ZdAt C) (hn:0<n) (hf:names[f]?=some ("_law_nought" : Str)) (h:a7g K "_law_nought" ["number"] ["error"] (fun fd stmts=>d6h fd stmts)=true) (hr:d4s (a0l K "_law_nought")=a0l K "_law_nought") :
  b8w C ntS (n+1) f:=by
 obtain⟨a,o,fd,stmts,h1,h2,h3,h4,h5,h6,h7⟩:=T.def hf h;have hS:=c3z rfl Gd Z hn h5 (l0:=stmts) h6;rw[←h7,hr,h7]at hS;exact fun A g s al ow hz ps ks kvs us Eh Q Q' aok B fb hl iv hw kk=>a6j (nl:=1) h2 h3 h4 h5 hS A g s al ow hz ps ks kvs us Eh Q Q' (fun _=>hw.1) aok B fb hl iv hw.2 kk
end
end
section
set_option maxRecDepth 100000
namespace L1
open PySem
noncomputable def fns:List Str:=["_div2n1n", "_div3n2n", "_int2digits", "_digits2int", "_divmod_pos", "int_divmod", "_get_name_info", "_parse_varint", "_ellipsis_match", "ISNONTERMINAL", "ISEOF", "_law_fits", "_law_number", "_law_nought", "_law_lookup", "_law_told", "_law_read", "law"]
noncomputable def div2n1n_ps:List Str:=["a", "b", "n"]
noncomputable def div2n1n_ls:List Str:=["pad", "half_n", "mask", "b1", "b2", "q1", "r", "q2"]
noncomputable def div2n1n_nl:Nat:=8
noncomputable def div2n1n:Ss:=(.cons (.ifs (.cmp .le (.bin .sub (.me .bitlen (.var 0) .nil) (.var 2)) (.gint "_DIV_LIMIT" 4000)) (.cons (.ret (.bi .divmod (.cons (.var 0) (.cons (.var 1) .nil))))
 .nil) .nil)
 (.cons .stuck (.cons .stuck (.cons .stuck (.cons .stuck (.cons .stuck (.cons .stuck (.cons .stuck (.cons .stuck (.cons .stuck .nil))))))))))
noncomputable def divmod_pos_ps:List Str:=["a", "b"]
noncomputable def divmod_pos_ls:List Str:=["n", "a_digits", "r", "q_digits", "a_digit", "q_digit", "q"]
noncomputable def divmod_pos_nl:Nat:=7
noncomputable def divmod_pos:Ss:=(.cons (.assign 2 (.me .bitlen (.var 1) .nil))
 (.cons (.assign 3 (.call 2 (.cons (.var 0) (.cons (.var 2) .nil))))
 (.cons (.assign 4 (.int 0))
 (.cons (.assignOwn 5 (.list .nil))
 (.cons (.for (.one 6) (.rev (.var 3)) (.cons (.assignTup [7,4] (.call 0 (.cons (.bin .add (.bin .shl (.var 4) (.var 2)) (.var 6)) (.cons (.var 1) (.cons (.var 2) .nil)))))
 (.cons (.append 5 (.var 7))
 .nil)))
 (.cons (.reverse 5)
 (.cons (.assign 8 (.call 3 (.cons (.var 5) (.cons (.var 2) .nil))))
 (.cons (.ret (.tup (.cons (.var 8) (.cons (.var 4) .nil))))
 .nil))))))))
noncomputable def int_divmod_ps:List Str:=["a", "b"]
noncomputable def int_divmod_ls:List Str:=["q", "r"]
noncomputable def int_divmod_nl:Nat:=2
noncomputable def int_divmod:Ss:=(.cons (.ifs (.cmp .eq (.var 1) (.int 0)) (.cons .stuck
 .nil) (.cons (.ifs (.cmp .lt (.var 1) (.int 0)) (.cons (.assignTup [2,3] (.call 5 (.cons (.neg (.var 0)) (.cons (.neg (.var 1)) .nil))))
 (.cons (.ret (.tup (.cons (.var 2) (.cons (.neg (.var 3)) .nil))))
 .nil)) (.cons (.ifs (.cmp .lt (.var 0) (.int 0)) (.cons (.assignTup [2,3] (.call 5 (.cons (.inv (.var 0)) (.cons (.var 1) .nil))))
 (.cons (.ret (.tup (.cons (.inv (.var 2)) (.cons (.bin .add (.var 1) (.inv (.var 3))) .nil))))
 .nil)) (.cons (.ret (.call 4 (.cons (.var 0) (.cons (.var 1) .nil))))
 .nil))
 .nil))
 .nil))
 .nil)
noncomputable def parse_varint_ps:List Str:=["iterator"]
noncomputable def parse_varint_ls:List Str:=["b", "val"]
noncomputable def parse_varint_nl:Nat:=2
noncomputable def parse_varint:Ss:=(.cons (.assign 1 (.next 0))
 (.cons (.assign 2 (.bin .band (.var 1) (.int 63)))
 (.cons (.while (.bin .band (.var 1) (.int 64)) (.cons (.aug 2 .shl (.int 6))
 (.cons (.assign 1 (.next 0))
 (.cons (.aug 2 .bor (.bin .band (.var 1) (.int 63)))
 .nil))))
 (.cons (.ret (.var 2))
 .nil))))
noncomputable def ellipsis_match_ps:List Str:=["want", "got"]
noncomputable def ellipsis_match_ls:List Str:=["ws", "startpos", "endpos", "w"]
noncomputable def ellipsis_match_nl:Nat:=4
noncomputable def ellipsis_match:Ss:=(.cons (.ifs (.cmp .notin (.gstr "ELLIPSIS_MARKER" "...") (.var 0)) (.cons (.ret (.cmp .eq (.var 0) (.var 1)))
 .nil) .nil)
 (.cons (.assignOwn 2 (.me .split (.var 0) (.cons (.gstr "ELLIPSIS_MARKER" "...") .nil)))
 (.cons (.assert (.cmp .ge (.bi .len (.cons (.var 2) .nil)) (.int 2)))
 (.cons (.assignTup [3,4] (.tup (.cons (.int 0) (.cons (.bi .len (.cons (.var 1) .nil)) .nil))))
 (.cons (.assign 5 (.idx (.var 2) (.int 0)))
 (.cons (.ifs (.var 5) (.cons (.ifs (.me .starts (.var 1) (.cons (.var 5) .nil)) (.cons (.assign 3 (.bi .len (.cons (.var 5) .nil)))
 (.cons (.delIdx 2 (0))
 .nil)) (.cons (.ret (.bool false))
 .nil))
 .nil) .nil)
 (.cons (.assign 5 (.idx (.var 2) (.neg (.int 1))))
 (.cons (.ifs (.var 5) (.cons (.ifs (.me .ends (.var 1) (.cons (.var 5) .nil)) (.cons (.aug 4 .sub (.bi .len (.cons (.var 5) .nil)))
 (.cons (.delIdx 2 (-1))
 .nil)) (.cons (.ret (.bool false))
 .nil))
 .nil) .nil)
 (.cons (.ifs (.cmp .gt (.var 3) (.var 4)) (.cons (.ret (.bool false))
 .nil) .nil)
 (.cons (.for (.one 5) (.over (.var 2)) (.cons (.assign 3 (.me .find (.var 1) (.cons (.var 5) (.cons (.var 3) (.cons (.var 4) .nil)))))
 (.cons (.ifs (.cmp .lt (.var 3) (.int 0)) (.cons (.ret (.bool false))
 .nil) .nil)
 (.cons (.aug 3 .add (.bi .len (.cons (.var 5) .nil)))
 .nil))))
 (.cons (.ret (.bool true))
 .nil)))))))))))
noncomputable def ISNONTERMINAL_ps:List Str:=["x"]
noncomputable def ISNONTERMINAL_ls:List Str:=[]
noncomputable def ISNONTERMINAL_nl:Nat:=0
noncomputable def ISNONTERMINAL:Ss:=(.cons (.ret (.cmp .ge (.var 0) (.gint "NT_OFFSET" 256)))
 .nil)
noncomputable def ISEOF_ps:List Str:=["x"]
noncomputable def ISEOF_ls:List Str:=[]
noncomputable def ISEOF_nl:Nat:=0
noncomputable def ISEOF:Ss:=(.cons (.ret (.cmp .eq (.var 0) (.gint "ENDMARKER" 0)))
 .nil)
noncomputable def law_fits_ps:List Str:=["pieces", "text"]
noncomputable def law_fits_ls:List Str:=["ends", "piece", "least"]
noncomputable def law_fits_nl:Nat:=4
noncomputable def law_fits:Ss:=(.cons (.assign 2 (.ite (.cmp .eq (.sl (.var 1) .none (.some (.bi .len (.cons (.idx (.var 0) (.int 0)) .nil)))) (.idx (.var 0) (.int 0))) (.list (.cons (.bi .len (.cons (.idx (.var 0) (.int 0)) .nil)) .nil)) (.list .nil)))
 (.cons (.for (.one 3) (.over (.sl (.var 0) (.some (.int 1)) .none)) (.cons (.assign 4 (.bin .add (.bi .min (.cons (.bin .add (.var 2) (.list (.cons (.bin .add (.bi .len (.cons (.var 1) .nil)) (.int 1)) .nil))) .nil)) (.bi .len (.cons (.var 3) .nil))))
 (.cons (.assign 2 (.comp (.forIf (.one 5) (.range2 (.var 4) (.bin .add (.bi .len (.cons (.var 1) .nil)) (.int 1))) (.cmp .eq (.sl (.var 1) (.some (.bin .sub (.var 5) (.bi .len (.cons (.var 3) .nil)))) (.some (.var 5))) (.var 3)) (.elt (.var 5)))))
 .nil)))
 (.cons (.ret (.cmp .isin (.bi .len (.cons (.var 1) .nil)) (.var 2)))
 .nil)))
noncomputable def law_number_ps:List Str:=["message", "rest", "names", "weights", "pieces"]
noncomputable def law_number_ls:List Str:=["told", "number", "sums", "shares", "j", "text", "fits", "row", "one"]
noncomputable def law_number_nl:Nat:=12
noncomputable def law_number:Ss:=(.cons (.assignTup [5,6,7,8] (.tup (.cons (.list .nil) (.cons (.var 1) (.cons (.int 1) (.cons (.int 1) .nil))))))
 (.cons (.for (.one 9) (.revRange (.bi .len (.cons (.var 0) .nil))) (.cons (.assign 10 (.me .join (.str "") (.cons (.comp (.for (.one 14) (.over (.sl (.var 0) .none (.some (.var 9)))) (.elt (.idx (.var 2) (.var 14))))) .nil)))
 (.cons (.assign 11 (.comp (.for (.one 15) (.over (.var 4)) (.elt (.call 11 (.cons (.var 15) (.cons (.var 10) .nil)))))))
 (.cons (.assignTup [12,13] (.tup (.cons (.idx (.var 3) (.ite (.idx (.var 11) (.int 0)) (.int 0) (.ite (.idx (.var 11) (.int 1)) (.int 1) (.int 2)))) (.cons (.idx (.var 0) (.var 9)) .nil))))
 (.cons (.assign 6 (.bin .add (.bin .add (.bin .mul (.bi .sum (.cons (.var 12) .nil)) (.bin .fdiv (.var 6) (.idx (.var 12) (.var 13)))) (.bi .sum (.cons (.sl (.var 12) .none (.some (.var 13))) .nil))) (.bin .mod (.var 6) (.idx (.var 12) (.var 13)))))
 (.cons (.assignTup [7,8] (.tup (.cons (.bin .mul (.var 7) (.bi .sum (.cons (.var 12) .nil))) (.cons (.bin .mul (.var 8) (.idx (.var 12) (.var 13))) .nil))))
 (.cons (.assign 5 (.bin .add (.list (.cons (.bin .add (.bin .add (.list (.cons (.var 13) (.cons (.var 10) .nil))) (.var 11)) (.comp (.for (.one 16) (.over (.var 11)) (.elt (.not (.var 16)))))) .nil)) (.var 5)))
 .nil)))))))
 (.cons (.ret (.list (.cons (.var 5) (.cons (.var 6) (.cons (.var 7) (.cons (.var 8) .nil))))))
 .nil)))
noncomputable def law_lookup_ps:List Str:=["place", "tables", "asked"]
noncomputable def law_lookup_ls:List Str:=[]
noncomputable def law_lookup_nl:Nat:=0
noncomputable def law_lookup:Ss:=(.cons (.append 2 (.var 0))
 (.cons (.ret (.idx (.var 1) (.var 0)))
 .nil))
noncomputable def law_told_ps:List Str:=["number", "symbols", "texts", "patterns", "weights"]
noncomputable def law_told_ls:List Str:=["told", "asked", "text", "step", "fits", "row", "again", "whole", "dividend", "divisor", "quotient", "left", "one"]
noncomputable def law_told_nl:Nat:=17
noncomputable def law_told:Ss:=(.cons (.multi (.own 5 (.list .nil) (.own 6 (.list .nil) (.plain 7 (.str "") .nil))))
 (.cons (.for (.one 8) (.range (.int 30)) (.cons (.assign 9 (.comp (.for (.one 18) (.over (.var 3)) (.elt (.call 8 (.cons (.var 18) (.cons (.var 7) .nil)))))))
 (.info 10 11 12 6 (.cons (.ite (.idx (.var 9) (.int 0)) (.int 0) (.ite (.idx (.var 9) (.int 1)) (.int 1) (.int 2))) (.cons (.gfn 14) .nil)) ["tables", "asked"] (.cons (.var 4) (.cons (.var 6) .nil))
 (.cons (.assignTup [13,14] (.idx (.list (.cons (.tup (.cons (.var 0) (.cons (.var 12) .nil))) (.cons (.tup (.cons (.neg (.var 0)) (.cons (.neg (.var 12)) .nil))) (.cons (.tup (.cons (.inv (.var 0)) (.cons (.var 12) .nil))) .nil)))) (.bin .mod (.var 8) (.int 3))))
 (.cons (.assignTup [15,16] (.call 5 (.cons (.var 13) (.cons (.var 14) .nil))))
 (.cons (.assignTup [15,16] (.idx (.list (.cons (.tup (.cons (.var 15) (.cons (.var 16) .nil))) (.cons (.tup (.cons (.var 15) (.cons (.neg (.var 16)) .nil))) (.cons (.tup (.cons (.inv (.var 15)) (.cons (.bin .sub (.bin .sub (.var 12) (.int 1)) (.var 16)) .nil))) .nil)))) (.bin .mod (.var 8) (.int 3))))
 (.cons (.assign 17 (.bi .max (.cons (.bin .add (.list (.cons (.int 0) .nil)) (.comp (.forIf (.one 19) (.over (.tup (.cons (.int 1) (.cons (.int 2) (.cons (.int 3) .nil))))) (.cmp .le (.bi .sum (.cons (.sl (.var 10) .none (.some (.var 19))) .nil)) (.var 16)) (.elt (.var 19))))) .nil)))
 (.cons (.assign 0 (.bin .sub (.bin .add (.bin .mul (.idx (.var 10) (.var 17)) (.var 15)) (.var 16)) (.bi .sum (.cons (.sl (.var 10) .none (.some (.var 17))) .nil))))
 (.cons (.append 5 (.bin .add (.bin .add (.list (.cons (.var 17) (.cons (.var 7) .nil))) (.comp (.for (.one 20) (.over (.var 9)) (.elt (.cmp .is (.var 20) (.bool true)))))) (.comp (.for (.one 21) (.over (.var 9)) (.elt (.cmp .is (.var 21) (.bool false)))))))
 (.cons (.ifs (.call 10 (.cons (.idx (.var 1) (.var 17)) .nil)) (.cons (.ret (.list (.cons (.var 5) (.cons (.var 0) (.cons (.bi .len (.cons (.var 6) .nil)) .nil)))))
 .nil) .nil)
 (.cons (.assign 7 (.bin .add (.var 7) (.idx (.var 2) (.idx (.var 1) (.var 17)))))
 .nil)))))))))))
 (.cons (.ret .none)
 .nil)))
noncomputable def law_read_ps:List Str:=["tape"]
noncomputable def law_read_ls:List Str:=["octets", "row", "sections", "numbers", "texts", "one", "patterns"]
noncomputable def law_read_nl:Nat:=11
noncomputable def law_read:Ss:=(.cons (.multi (.iter 1 (.var 0) (.own 2 (.list .nil) (.plain 3 (.list (.cons (.list .nil) .nil)) .nil))))
 (.cons (.while (.or (.cmp .eq (.var 2) (.list .nil)) (.not (.call 10 (.cons (.idx (.var 2) (.neg (.int 1))) .nil)))) (.cons (.append 2 (.call 7 (.cons (.var 1) .nil)))
 .nil))
 (.cons (.assignOwn 4 (.list (.cons (.call 7 (.cons (.var 1) .nil)) (.cons (.call 7 (.cons (.var 1) .nil)) .nil))))
 (.cons (.tryStop [2,4] 1 (.cons (.toks 5)
 .nil))
 (.cons (.for (.one 6) (.over (.sl (.var 2) .none (.some (.neg (.int 1))))) (.cons (.assign 3 (.ite (.call 9 (.cons (.var 6) .nil)) (.bin .add (.var 3) (.list (.cons (.list .nil) .nil))) (.bin .add (.sl (.var 3) .none (.some (.neg (.int 1)))) (.list (.cons (.bin .add (.idx (.var 3) (.neg (.int 1))) (.list (.cons (.var 6) .nil))) .nil)))))
 .nil))
 (.cons (.assign 7 (.comp (.for (.one 8) (.over (.sl (.var 3) (.some (.int 1)) (.some (.int 3)))) (.elt (.me .join (.str "") (.cons (.comp (.for (.one 9) (.over (.sl (.var 8) (.some (.int 4)) .none)) (.elt (.idx (.var 5) (.var 9))))) .nil))))))
 (.cons (.setIdx 4 (.int 0) (.ite (.cmp .eq (.idx (.var 5) (.idx (.idx (.var 3) (.int 3)) (.int 4))) (.str "-")) (.neg (.idx (.var 4) (.int 0))) (.idx (.var 4) (.int 0))))
 (.cons (.ret (.comp (.for (.one 10) (.over (.var 4)) (.elt (.call 15 (.cons (.var 10) (.cons (.bin .add (.list (.cons (.int 0) .nil)) (.idx (.var 3) (.int 0))) (.cons (.var 5) (.cons (.var 7) (.cons (.comp (.for (.one 11) (.over (.sl (.var 3) (.some (.int 1)) .none)) (.elt (.sl (.var 11) .none (.some (.int 4)))))) .nil))))))))))
 .nil))))))))
noncomputable def law_ps:List Str:=["script"]
noncomputable def law_ls:List Str:=["numbers", "place", "x", "signs", "pool", "codes", "names", "weights", "parts", "pieces", "j", "part", "row", "message", "rest", "told", "number", "sums", "shares", "tape", "octets", "report", "other", "one", "pairs"]
noncomputable def law_nl:Nat:=37
noncomputable def law:Ss:=(.cons (.assignOwn 1 (.list (.cons (.int 74913) (.cons (.int 1234567) (.cons (.int 2468013) (.cons (.int 3141592) (.cons (.int 201009) (.cons (.int 39) (.cons (.int 654325) (.cons (.int 500) .nil))))))))))
 (.cons (.for (.tup [2,3]) (.enum (.sl (.var 0) .none (.some (.int 60)))) (.cons (.augIdx 1 (.bin .mod (.var 2) (.int 8)) .add (.bin .mod (.var 3) (.bin .pow (.int 10) (.int 6))))
 .nil))
 (.cons (.assign 4 (.words "( ) [ ] : , ; + - * / | & < > = . % { } == != <= >= ~ ^ << >> ** += -= *= /= %= &= |= ^= <<= >>= **= // //= @ @= -> ... := !" (("(" : Str)::(")" : Str)::("[" : Str)::("]" : Str)::(":" : Str)::("," : Str)::(";" : Str)::("+" : Str)::("-" : Str)::("*" : Str)::("/" : Str)::("|" : Str)::("&" : Str)::("<" : Str)::(">" : Str)::("=" : Str)::("." : Str)::("%" : Str)::("{" : Str)::("}" : Str)::("==" : Str)::("!=" : Str)::("<=" : Str)::(">=" : Str)::("~" : Str)::("^" : Str)::("<<" : Str)::(">>" : Str)::("**" : Str)::("+=" : Str)::("-=" : Str)::("*=" : Str)::("/=" : Str)::("%=" : Str)::("&=" : Str)::("|=" : Str)::("^=" : Str)::("<<=" : Str)::(">>=" : Str)::("**=" : Str)::("//" : Str)::("//=" : Str)::("@" : Str)::("@=" : Str)::("->" : Str)::("..." : Str)::(":=" : Str)::("!" : Str)::[])))
 (.cons (.assignOwn 5 (.comp (.forIf (.one 26) (.range (.int 48)) (.cmp .notin (.idx (.var 4) (.var 26)) (.tup (.cons (.str ".") (.cons (.str "...") .nil)))) (.elt (.var 26)))))
 (.cons (.assign 6 (.list (.cons (.bin .add (.int 7) (.pop 5 (.bin .mod (.idx (.var 1) (.int 0)) (.int 46)))) (.cons (.bin .add (.int 7) (.pop 5 (.bin .mod (.bin .fdiv (.idx (.var 1) (.int 0)) (.int 46)) (.int 45)))) (.cons (.bin .add (.int 7) (.pop 5 (.bin .mod (.bin .fdiv (.idx (.var 1) (.int 0)) (.int 2070)) (.int 44)))) .nil)))))
 (.cons (.assign 7 (.bin .add (.list (.cons (.str "") .nil)) (.comp (.for (.one 27) (.over (.var 6)) (.elt (.idx (.var 4) (.bin .sub (.var 27) (.int 7))))))))
 (.cons (.assign 8 (.comp (.for (.one 28) (.over (.sl (.var 1) (.some (.int 1)) (.some (.int 4)))) (.elt (.comp (.for (.one 29) (.range (.int 4)) (.elt (.bin .add (.int 16) (.bin .mod (.bin .fdiv (.var 28) (.bin .pow (.int 45) (.var 29))) (.int 45))))))))))
 (.cons (.assign 9 (.comp (.for (.one 30) (.range (.int 10)) (.elt (.bin .mod (.bin .fdiv (.idx (.var 1) (.int 4)) (.bin .pow (.int 4) (.var 30))) (.int 4))))))
 (.cons (.assignOwn 10 (.list (.cons (.list (.cons (.str "") .nil)) (.cons (.list (.cons (.str "") .nil)) .nil))))
 (.cons (.for (.tup [11,12]) (.enum (.var 9)) (.cons (.assign 13 (.idx (.var 10) (.bin .fdiv (.var 11) (.int 5))))
 (.cons (.setIdx 10 (.bin .fdiv (.var 11) (.int 5)) (.ite (.cmp .eq (.var 12) (.int 0)) (.bin .add (.var 13) (.list (.cons (.str "") .nil))) (.bin .add (.sl (.var 13) .none (.some (.neg (.int 1)))) (.list (.cons (.bin .add (.idx (.var 13) (.neg (.int 1))) (.idx (.var 7) (.var 12))) .nil)))))
 .nil)))
 (.cons (.assign 14 (.bin .add (.comp (.for (.one 31) (.range (.bin .mod (.idx (.var 1) (.int 5)) (.int 6))) (.elt (.bin .add (.int 1) (.bin .mod (.bin .fdiv (.bin .fdiv (.idx (.var 1) (.int 5)) (.int 6)) (.bin .pow (.int 3) (.var 31))) (.int 3)))))) (.list (.cons (.int 0) .nil))))
 (.cons (.assign 15 (.bin .mul (.bin .fdiv (.bin .mul (.bin .fdiv (.idx (.var 1) (.int 6)) (.int 2)) (.bin .pow (.int 10) (.int 6))) (.bin .pow (.int 100) (.bin .mod (.idx (.var 1) (.int 6)) (.int 7)))) (.bin .sub (.int 1) (.bin .mul (.int 2) (.bin .mod (.idx (.var 1) (.int 6)) (.int 2))))))
 (.cons (.assignTup [16,17,18,19] (.call 12 (.cons (.var 14) (.cons (.var 15) (.cons (.var 7) (.cons (.var 8) (.cons (.var 10) .nil)))))))
 (.cons (.assign 9 (.comp (.for (.one 32) (.over (.var 9)) (.elt (.idx (.bin .add (.list (.cons (.int 52) .nil)) (.var 6)) (.var 32))))))
 (.cons (.assign 20 (.bin .add (.bin .add (.bin .add (.bin .add (.bin .add (.bin .add (.bin .add (.bin .add (.bin .add (.var 6) (.list (.cons (.int 256) .nil))) (.idx (.var 8) (.int 0))) (.sl (.var 9) .none (.some (.int 5)))) (.list (.cons (.int 257) .nil))) (.idx (.var 8) (.int 1))) (.sl (.var 9) (.some (.int 5)) .none)) (.list (.cons (.int 258) .nil))) (.idx (.var 8) (.int 2))) (.list (.cons (.ite (.cmp .lt (.var 17) (.int 0)) (.int 15) (.int 14)) (.cons (.int 0) (.cons (.bi .abs (.cons (.var 17) .nil)) (.cons (.bin .mod (.idx (.var 1) (.int 7)) (.int 1024)) .nil)))))))
 (.cons (.assign 21 (.comp (.for (.one 33) (.over (.var 20)) (.for (.one 34) (.rangeDown (.bin .fdiv (.bi .max2 (.cons (.int 0) (.cons (.bin .sub (.me .bitlen (.var 33) .nil) (.int 1)) .nil))) (.int 6))) (.elt (.bin .add (.bin .mod (.bin .fdiv (.var 33) (.bin .pow (.int 64) (.var 34))) (.int 64)) (.bin .mul (.int 64) (.cmp .gt (.var 34) (.int 0)))))))))
 (.cons (.assign 22 (.call 16 (.cons (.comp (.for (.tup [35,36]) (.enum (.var 21)) (.elt (.bin .add (.var 36) (.bin .mul (.int 128) (.cmp .eq (.bin .mod (.bin .add (.var 35) (.idx (.var 1) (.int 7))) (.int 3)) (.int 0))))))) .nil)))
 (.cons (.ifs (.or (.cmp .ne (.idx (.var 22) (.int 0)) (.list (.cons (.var 16) (.cons (.var 15) (.cons (.bi .len (.cons (.var 14) .nil)) .nil))))) (.cmp .is (.idx (.var 22) (.int 1)) .none)) (.cons (.ret (.bool false))
 .nil) .nil)
 (.cons (.assign 23 (.comp (.for (.one 37) (.over (.idx (.idx (.var 22) (.int 1)) (.int 0))) (.elt (.idx (.var 37) (.int 0))))))
 (.cons (.ifs (.cmp .ne (.bin .add (.sl (.call 12 (.cons (.var 23) (.cons (.idx (.idx (.var 22) (.int 1)) (.int 1)) (.cons (.var 7) (.cons (.var 8) (.cons (.var 10) .nil)))))) .none (.some (.int 2))) (.list (.cons (.bi .len (.cons (.var 23) .nil)) .nil))) (.list (.cons (.idx (.idx (.var 22) (.int 1)) (.int 0)) (.cons (.bin .mod (.idx (.var 1) (.int 7)) (.int 1024)) (.cons (.idx (.idx (.var 22) (.int 1)) (.int 2)) .nil))))) (.cons (.ret (.bool false))
 .nil) .nil)
 (.cons (.for (.one 24) (.over (.list (.cons (.int 0) (.cons (.int 1) (.cons (.neg (.int 1)) (.cons (.int 255) (.cons (.int 256) (.cons (.var 17) (.cons (.neg (.var 17)) .nil))))))))) (.cons (.ifs (.or (.cmp .isnot (.call 9 (.cons (.var 24) .nil)) (.cmp .gt (.var 24) (.int 255))) (.cmp .isnot (.call 10 (.cons (.var 24) .nil)) (.cmp .eq (.var 24) (.int 0)))) (.cons (.ret (.bool false))
 .nil) .nil)
 .nil))
 (.cons (.assign 25 (.list (.cons (.call 5 (.cons (.var 17) (.cons (.var 18) .nil))) (.cons (.call 5 (.cons (.neg (.var 15)) (.cons (.neg (.var 19)) .nil))) (.cons (.call 13 (.cons (.var 17) .nil)) .nil)))))
 (.cons (.ret (.cmp .eq (.var 25) (.list (.cons (.tup (.cons (.bin .fdiv (.var 15) (.var 19)) (.cons (.bin .sub (.var 17) (.bin .mul (.var 18) (.bin .fdiv (.var 15) (.var 19)))) .nil))) (.cons (.tup (.cons (.bin .fdiv (.var 15) (.var 19)) (.cons (.neg (.bin .mod (.var 15) (.var 19))) .nil))) (.cons (.str "") .nil))))))
 .nil)))))))))))))))))))))))
end L1
end
section
set_option maxRecDepth 100000
noncomputable def kk1:Ck:=⟨fun f=>L1.fns[f]?,[("NT_OFFSET",256),("ENDMARKER",0),("_DIV_LIMIT",4000)],[("ELLIPSIS_MARKER", "...")],fun _=>false⟩
noncomputable def a0o:List (d8e×d8e):=[(.int 54,.str "!"),(.int 28,.str "!="),(.int 24,.str "%"),(.int 40,.str "%="),(.int 19,.str "&"),(.int 41,.str "&="),(.int 7,.str "("),(.int 8,.str ")"),(.int 16,.str "*"),(.int 35,.str "**"),(.int 46,.str "**="),(.int 38,.str "*="),(.int 14,.str "+"),(.int 36,.str "+="),(.int 12,.str ","),(.int 15,.str "-"),(.int 37,.str "-="),(.int 51,.str "->"),(.int 23,.str "."),(.int 52,.str "..."),(.int 17,.str "/"),(.int 47,.str "//"),(.int 48,.str "//="),(.int 39,.str "/="),(.int 11,.str ":"),(.int 53,.str ":="),(.int 13,.str ";"),(.int 20,.str "<"),(.int 33,.str "<<"),(.int 44,.str "<<="),(.int 29,.str "<="),(.int 22,.str "="),(.int 27,.str "=="),(.int 21,.str ">"),(.int 30,.str ">="),(.int 34,.str ">>"),(.int 45,.str ">>="),(.int 49,.str "@"),(.int 50,.str "@="),(.int 9,.str "["),(.int 10,.str "]"),(.int 32,.str "^"),(.int 43,.str "^="),(.int 25,.str "{"),(.int 18,.str "|"),(.int 42,.str "|="),(.int 26,.str "}"),(.int 31,.str "~")]
noncomputable def d2t:Nat→Option Def
 |0=>some (.ir L1.div2n1n_ps.length L1.div2n1n_nl L1.div2n1n true)
 |1=>none
 |2=>some (.spec (d6w a0o))
 |3=>some (.spec (d7f a0o))
 |4=>some (.ir L1.divmod_pos_ps.length L1.divmod_pos_nl L1.divmod_pos true)
 |5=>some (.ir L1.int_divmod_ps.length L1.int_divmod_nl L1.int_divmod true)
 |6=>some (.spec fun _ Γ=>d7l kk1.fname Γ)
 |7=>some (.ir L1.parse_varint_ps.length L1.parse_varint_nl L1.parse_varint true)
 |8=>some (.ir L1.ellipsis_match_ps.length L1.ellipsis_match_nl L1.ellipsis_match true)
 |9=>some (.ir L1.ISNONTERMINAL_ps.length L1.ISNONTERMINAL_nl L1.ISNONTERMINAL false)
 |10=>some (.ir L1.ISEOF_ps.length L1.ISEOF_nl L1.ISEOF false)
 |11=>some (.ir L1.law_fits_ps.length L1.law_fits_nl L1.law_fits true)
 |12=>some (.ir L1.law_number_ps.length L1.law_number_nl L1.law_number true)
 |13=>some (.spec fun _ _=>ntS)
 |14=>some (.spec fun _ Γ=>kwS a0o L1.law_lookup_ps L1.law_lookup_nl L1.law_lookup true Γ)
 |15=>some (.ir L1.law_told_ps.length L1.law_told_nl L1.law_told true)
 |16=>some (.ir L1.law_read_ps.length L1.law_read_nl L1.law_read true)
 |17=>some (.ir L1.law_ps.length L1.law_nl L1.law true)
 |_=>none
noncomputable abbrev a1w:Nat→Ctx:=lev a0o d2t
end
section
set_option maxRecDepth 100000
noncomputable def mkI1:Mk:=⟨34,30,⟨32,4,41,28⟩, "_int2digits.<locals>.inner"⟩
noncomputable def mkD1:Mk:=⟨41,37,⟨47,4,52,55⟩, "_digits2int.<locals>.inner"⟩
section
variable (P:Params)
theorem b8x:a7g (hk.heap_1 P) "_div2n1n" L1.div2n1n_ps L1.div2n1n_ls (b8n kk1 true (L1.div2n1n_ps++L1.div2n1n_ls) L1.div2n1n)=true:=by kernel_rfl
theorem b8j:a5i L1.div2n1n (a0l (hk.heap_1 P) "_div2n1n")=a0l (hk.heap_1 P) "_div2n1n" :=by kernel_rfl
theorem b1o:a7g (hk.heap_1 P) "_divmod_pos" L1.divmod_pos_ps L1.divmod_pos_ls (b8n kk1 true (L1.divmod_pos_ps++L1.divmod_pos_ls) L1.divmod_pos)=true:=by kernel_rfl
theorem b1y:a5i L1.divmod_pos (a0l (hk.heap_1 P) "_divmod_pos")=a0l (hk.heap_1 P) "_divmod_pos" :=by kernel_rfl
theorem b1g:a7g (hk.heap_1 P) "int_divmod" L1.int_divmod_ps L1.int_divmod_ls (b8n kk1 true (L1.int_divmod_ps++L1.int_divmod_ls) L1.int_divmod)=true:=by kernel_rfl
theorem b1v:a5i L1.int_divmod (a0l (hk.heap_1 P) "int_divmod")=a0l (hk.heap_1 P) "int_divmod" :=by kernel_rfl
theorem a8q:a7g (hk.heap_1 P) "_parse_varint" L1.parse_varint_ps L1.parse_varint_ls (b8n kk1 true (L1.parse_varint_ps++L1.parse_varint_ls) L1.parse_varint)=true:=by kernel_rfl
theorem a8m:a5i L1.parse_varint (a0l (hk.heap_1 P) "_parse_varint")=a0l (hk.heap_1 P) "_parse_varint" :=by kernel_rfl
theorem a6r:a7g (hk.heap_1 P) "_ellipsis_match" L1.ellipsis_match_ps L1.ellipsis_match_ls (b8n kk1 true (L1.ellipsis_match_ps++L1.ellipsis_match_ls) L1.ellipsis_match)=true:=by kernel_rfl
theorem a6q:a5i L1.ellipsis_match (a0l (hk.heap_1 P) "_ellipsis_match")=a0l (hk.heap_1 P) "_ellipsis_match" :=by kernel_rfl
theorem a7j:a7g (hk.heap_1 P) "ISNONTERMINAL" L1.ISNONTERMINAL_ps L1.ISNONTERMINAL_ls (b8n kk1 false (L1.ISNONTERMINAL_ps++L1.ISNONTERMINAL_ls) L1.ISNONTERMINAL)=true:=by kernel_rfl
theorem a7l:a5i L1.ISNONTERMINAL (a0l (hk.heap_1 P) "ISNONTERMINAL")=a0l (hk.heap_1 P) "ISNONTERMINAL" :=by kernel_rfl
theorem c5g:a7g (hk.heap_1 P) "ISEOF" L1.ISEOF_ps L1.ISEOF_ls (b8n kk1 false (L1.ISEOF_ps++L1.ISEOF_ls) L1.ISEOF)=true:=by kernel_rfl
theorem c6a:a5i L1.ISEOF (a0l (hk.heap_1 P) "ISEOF")=a0l (hk.heap_1 P) "ISEOF" :=by kernel_rfl
theorem b6b:a7g (hk.heap_1 P) "_law_fits" L1.law_fits_ps L1.law_fits_ls (b8n kk1 true (L1.law_fits_ps++L1.law_fits_ls) L1.law_fits)=true:=by kernel_rfl
theorem b6o:a5i L1.law_fits (a0l (hk.heap_1 P) "_law_fits")=a0l (hk.heap_1 P) "_law_fits" :=by kernel_rfl
theorem b2f:a7g (hk.heap_1 P) "_law_number" L1.law_number_ps L1.law_number_ls (b8n kk1 true (L1.law_number_ps++L1.law_number_ls) L1.law_number)=true:=by kernel_rfl
theorem b2c:a5i L1.law_number (a0l (hk.heap_1 P) "_law_number")=a0l (hk.heap_1 P) "_law_number" :=by kernel_rfl
theorem b1p:a7g (hk.heap_1 P) "_law_lookup" L1.law_lookup_ps L1.law_lookup_ls (b8n kk1 true (L1.law_lookup_ps++L1.law_lookup_ls) L1.law_lookup)=true:=by kernel_rfl
theorem b2w:a5i L1.law_lookup (a0l (hk.heap_1 P) "_law_lookup")=a0l (hk.heap_1 P) "_law_lookup" :=by kernel_rfl
theorem b5k:a7g (hk.heap_1 P) "_law_told" L1.law_told_ps L1.law_told_ls (b8n kk1 true (L1.law_told_ps++L1.law_told_ls) L1.law_told)=true:=by kernel_rfl
theorem b6k:a5i L1.law_told (a0l (hk.heap_1 P) "_law_told")=a0l (hk.heap_1 P) "_law_told" :=by kernel_rfl
theorem b6n:a7g (hk.heap_1 P) "_law_read" L1.law_read_ps L1.law_read_ls (b8n kk1 true (L1.law_read_ps++L1.law_read_ls) L1.law_read)=true:=by kernel_rfl
theorem b6h:a5i L1.law_read (a0l (hk.heap_1 P) "_law_read")=a0l (hk.heap_1 P) "_law_read" :=by kernel_rfl
theorem d3f:a7g (hk.heap_1 P) "law" L1.law_ps L1.law_ls (b8n kk1 true (L1.law_ps++L1.law_ls) L1.law)=true:=by kernel_rfl
theorem d2s:a5i L1.law (a0l (hk.heap_1 P) "law")=a0l (hk.heap_1 P) "law" :=by kernel_rfl
theorem d3b:a7g (hk.heap_1 P) "_int2digits" ["a", "n"] ["a_digits", "inner"] (c7p kk1 mkI1)=true:=by kernel_rfl
theorem d2l:c4w c1u a9c a6z (a0l (hk.heap_1 P) "_int2digits")=a0l (hk.heap_1 P) "_int2digits" :=by kernel_rfl
theorem d2n:a7g (hk.heap_1 P) "_digits2int" ["digits", "n"] ["inner"] (c6p kk1 mkD1)=true:=by kernel_rfl
theorem d2e:c4q a9k a6y (a0l (hk.heap_1 P) "_digits2int")=a0l (hk.heap_1 P) "_digits2int" :=by kernel_rfl
theorem d5y:a7g (hk.heap_1 P) "_law_nought" ["number"] ["error"] (fun fd stmts=>d6h fd stmts)=true:=by kernel_rfl
theorem d5w:d4s (a0l (hk.heap_1 P) "_law_nought")=a0l (hk.heap_1 P) "_law_nought" :=by kernel_rfl
theorem d4y:a7g (hk.heap_1 P) "_parse_varint" ["iterator"] ["b", "val"] d4f=true:=by kernel_rfl
theorem d5q:d7m (a0l (hk.heap_1 P) "_parse_varint")=a0l (hk.heap_1 P) "_parse_varint" :=by kernel_rfl
theorem d5p:a7g (hk.heap_1 P) "int_divmod" ["a", "b"] ["q", "r"] d3t=true:=by kernel_rfl
theorem d6j:d7d (a0l (hk.heap_1 P) "int_divmod")=a0l (hk.heap_1 P) "int_divmod" :=by kernel_rfl
theorem d1w:d6x (hk.heap_1 P)=true:=by kernel_rfl
theorem d3m:c5l (a0l (hk.heap_1 P) "_get_name_info")=a0l (hk.heap_1 P) "_get_name_info" :=by kernel_rfl
theorem c8x:nsIn (hk.heap_1 P) d8o "EXACT_TOKEN_TYPES" = some (some (.ref (b2v (hk.heap_1 P) "EXACT_TOKEN_TYPES"))):=by kernel_rfl
theorem c9d:c7k (hk.heap_1 P) (b2v (hk.heap_1 P) "EXACT_TOKEN_TYPES")=true:=by kernel_rfl
theorem c8j:d5x (c3s (hk.heap_1 P) (b2v (hk.heap_1 P) "EXACT_TOKEN_TYPES"))=true:=by kernel_rfl
theorem c8h:(b2v (hk.heap_1 P) "EXACT_TOKEN_TYPES" == sysModules)=false:=by kernel_rfl
theorem c9e:(c3s (hk.heap_1 P) (b2v (hk.heap_1 P) "EXACT_TOKEN_TYPES")).map (·.hash)=(a2v (c3s (hk.heap_1 P) (b2v (hk.heap_1 P) "EXACT_TOKEN_TYPES"))).map (PyData.keyHash P):=by kernel_rfl
theorem d0q:a3w (b9d (c3s (hk.heap_1 P) (b2v (hk.heap_1 P) "EXACT_TOKEN_TYPES")))=a0o:=by kernel_rfl
theorem d5s:L1.fns.all (fun x=>(c8o (hk.heap_1 P) x).isSome)=true:=by kernel_rfl
theorem d5u:kk1.gi.all (fun p=>d6z (hk.heap_1 P) p.1 p.2)=true:=by kernel_rfl
theorem d6o:kk1.gs.all (fun p=>d7o (hk.heap_1 P) p.1 p.2)=true:=by kernel_rfl
theorem d5d:bnames.all (d1u (hk.heap_1 P))=true:=by kernel_rfl
theorem d5t:noTabs (hk.heap_1 P)=true:=by kernel_rfl
theorem d6f:b0m (hk.heap_1 P)=true:=by kernel_rfl
end
end
section
set_option maxRecDepth 100000
section
variable {C:Cfg} {P:Params}
theorem c9o(hP:C.w.params=P)(T:Tied C (hk.heap_1 P) L1.fns)(ht:C.toks=a0o)(NI:NestAt C mkI1.c mkI1.P mkI1.pos mkI1.qual)(ND:NestAt C mkD1.c mkD1.P mkD1.pos mkD1.qual)(n:Nat):a4c C (a1w n) n:=by
 have Gd:Good C kk1:=T.good (k:=kk1) (fun f x h=>h) (d5s P) (d5u P) (d6o P) (d5d P) fun _=>rfl;have PV:PvAt C kk1:=T.pv (f:=7) rfl (d4y P) (d5q P);have ZD:ZdAt C:=T.zd (f:=5) rfl (d5p P) (d6j P);have TK:TokAt C:=T.tok (c8x P) (c9d P) (c8j P) (c8h P) (by rw[hP]; exact c9e P) (by rw[ht]; exact d0q P)
 have GN:GniAt C 6:=T.gni rfl (d1w P) (d3m P);have key:a4c C (lev C.toks d2t n) n:=by
  refine c7h Gd (fun f=>?_) (fun m hm Γok=>a7r Gd PV TK hm) n
  match f with
  |0=>exact T.defAt rfl (b8x P) (b8j P)
  |1=>exact trivial
  |2=>intro m Γok hm; rw[←ht]; exact T.i2d Gd Γok (a7r Gd PV TK hm) PV TK NI rfl (d3b P) (d2l P)
  |3=>intro m Γok hm; rw[←ht]; exact T.d2i Gd Γok PV TK ND rfl (d2n P) (d2e P)
  |4=>exact T.defAt rfl (b1o P) (b1y P)
  |5=>exact T.defAt rfl (b1g P) (b1v P)
  |6=>intro m Γok hm; exact d4h GN Γok Gd
  |7=>exact T.defAt rfl (a8q P) (a8m P)
  |8=>exact T.defAt rfl (a6r P) (a6q P)
  |9=>exact T.defAt rfl (a7j P) (a7l P)
  |10=>exact T.defAt rfl (c5g P) (c6a P)
  |11=>exact T.defAt rfl (b6b P) (b6o P)
  |12=>exact T.defAt rfl (b2f P) (b2c P)
  |13=>intro m Γok hm; exact T.nt Gd ZD hm rfl (d5y P) (d5w P)
  |14=>intro m Γok hm; rw[←ht]; exact T.kw Gd Γok (a7r Gd PV TK hm) rfl (b1p P) (b2w P)
  |15=>exact T.defAt rfl (b5k P) (b6k P)
  |16=>exact T.defAt rfl (b6n P) (b6h P)
  |17=>exact T.defAt rfl (d3f P) (d2s P)
  |f+18=>exact trivial
 rw[ht]at key;exact key
end
noncomputable def c7g:Nat:=40
def c7n:Prop:=∀is:List Int,is.length≤63→a1w c7g 17 true [] [.dat (.list (is.map .int))] [] fun v _=>v=.dat (.bool true)
theorem law1_of(plain:c7n):PySem.Challenge.rw_kl0251_01.Holds:=hd (by
 intro w s₀ s₁ mg mb G Y fa o pm cd doc dV kV ho hd' hcd hD hmg hg args vals as hpre hlay hrd hwl hlo;have KX:=km_in_of Y;have hT8:=km_tabs_of Y;refine Ground.open G ?_;intro T B D TE TW;have hT9:TabsAt ([mkI1,mkD1].map fun t=>(t.c,t.P)) s₁.heap:=List.forall_mem_cons.mpr ⟨⟨codeHd_of_K (c:=34) (P:=30) KX (by kernel_rfl),hT8 30 (by k_mem)⟩,List.forall_mem_cons.mpr ⟨⟨codeHd_of_K (c:=41) (P:=37) KX (by kernel_rfl),hT8 37 (by k_mem)⟩,fun _ h=>nomatch h⟩⟩
 clear hd' ho
 wrow_args hpre hlay hrd hwl hlo
 rename_i is hs hlay0 hL1 hr1 hl2 as1 as2 sa vs as3 hL ra w1 r0 hI hr hc1 hc2;have hlen:is.length≤63:=by exact a0j (.l N0 (.k 63)) (.n (.t (.c (.k 63)) (.c N0))) hc1
 obtain⟨vs2,hpl⟩:∃vs2:List d8g,s₁.heap.get? sa=some { cls:=.type "list",data:=.seq vs2.toArray }:=by cases w1; exact⟨_,by assumption⟩
 have hvs:vs2=vs:=by
  obtain⟨oL,ho,_,n,hd⟩:=hL;rw[hpl]at ho; cases ho;have h2:=(Data.seq.inj hd).1;simpa using congrArg Array.toList h2
 subst hvs;obtain⟨bm,ob,b1,b2,b3,b4,b5,g,B0,rd,old⟩:=c4a (prog:=PySem.Challenge.rw_kl0251_01.row.prog) (w:=w) (names:=L1.fns) (toks:=a0o) KX (d5t w.params) (d6f w.params) hT9 T hpl hI;have TI:=(c5d (prog:=PySem.Challenge.rw_kl0251_01.row.prog) (w:=w) (K:=hk.heap_1 w.params) (mg:=mg) (mb:=mb) (p:=a4d) (loose:=looseW a4d a4p) (names:=L1.fns) (toks:=a0o) (TL:=[mkI1,mkD1]) (bm:=bm) (ob:=ob)).resolve_right fun h=>h g B0.amb;have NI:=b7j (prog:=PySem.Challenge.rw_kl0251_01.row.prog) (w:=w) (K:=hk.heap_1 w.params) (mb:=mb) (p:=a4d) (loose:=looseW a4d a4p) (names:=L1.fns) (toks:=a0o) (TL:=[mkI1,mkD1]) (t:=mkI1) (.head _) (fun t ht hP=>by simp at ht; rcases ht with rfl|rfl <;> first|rfl|exact absurd hP (by decide)) b1 b2 b3 b4 b5
 have ND:=b7j (prog:=PySem.Challenge.rw_kl0251_01.row.prog) (w:=w) (K:=hk.heap_1 w.params) (mb:=mb) (p:=a4d) (loose:=looseW a4d a4p) (names:=L1.fns) (toks:=a0o) (TL:=[mkI1,mkD1]) (t:=mkD1) (.tail _ (.head _)) (fun t ht hP=>by simp at ht; rcases ht with rfl|rfl <;> first|rfl|exact absurd hP (by decide)) b1 b2 b3 b4 b5
 have hl:=c9o (P:=w.params) rfl TI rfl NI ND c7g;have hlaw:nsIn (hk.heap_1 w.params) d8o "law" = some (some (.ref (b2v (hk.heap_1 w.params) "law"))):=by kernel_rfl
 have hfa:Value.ref fa=Value.ref (b2v (hk.heap_1 w.params) "law"):=by
  have h1:=TI.mg _ _ hlaw;have h2:mg "law" = some (.ref fa):=hmg;exact Option.some.inj (h2.symm.trans h1)
 have hf17:=TI.fnv 17 "law" _ rfl hlaw;show d8i _ _ (call (.ref fa) [.ref sa]) _ _ _;rw[hfa,←hf17];refine hl 17 callerA g s₁ [] [] true [.ref sa] [] [] [.dat (.list (is.map .int))] _ _ _ ⟨by decide +kernel,by decide +kernel,fun _=>rfl,.inl rfl⟩ B0 ⟨[],rfl,fun e he=>nomatch he⟩ rfl ⟨rd,trivial⟩ (plain is hlen) fun v u ow' s' g' B' x iv hq=>?_
 subst hq;obtain rfl:=RD.boolE iv;have how:ow'=[]:=List.length_eq_zero_iff.mp B'.olen.symm;subst how;obtain⟨h',tk',rfl⟩:=x.same;refine⟨.inl ⟨.bool true,.bool true,[],rfl,fun _=>rfl,.bool true,by kernel_rfl,fun _=>⟨List.nodup_nil,fun a ha=>nomatch ha⟩⟩,old _ _ B' x,rfl,.of_eq hg⟩)
end
theorem own_ix0(ow l:List OV):(ow++l)[ow.length]?=l[0]?:=by rw[List.getElem?_append_right (Nat.le_refl _),Nat.sub_self]
theorem own_ix(ow l:List OV)(k:Nat):(ow++l)[ow.length+k]?=l[k]?:=by rw[List.getElem?_append_right (Nat.le_add_right _ _),Nat.add_sub_cancel_left]
theorem own_set0(ow l:List OV)(x:OV):(ow++l).set ow.length x=ow++l.set 0 x:=by rw[List.set_append_right _ _ (Nat.le_refl _),Nat.sub_self]
theorem own_set(ow l:List OV)(k:Nat)(x:OV):(ow++l).set (ow.length+k) x=ow++l.set k x:=by rw[List.set_append_right _ _ (Nat.le_add_right _ _),Nat.add_sub_cancel_left]
local macro_rules (kind:=Lean.Parser.Tactic.simpAutoUnfold)|s=>return qx #[s[4][1]] ("%TtacticRepeat_ repeat { %Tfirst first %null %group | { %Tdsimp dsimp %ToptConfig %null / / %null / %null only / %null [ %null " ++ qxm "wpS wpE wpT wpEs wpAs wpRs wpI wpO wpMs keepV argV St.dat? St.datAll St.get St.set St.setOwn St.push b_add b_sub b_mul b_fdiv b_mod b_pow b_shl b_shr b_and b_or b_xor b_str b_list b_bool b_rep a_add a_sub a_shl a_or c_eqi c_eqs c_eql c_eqb c_ne c_lt c_le c_gt c_ge c_isb c_isn c_nob c_ins c_inl c_nis c_nit i_tab i_dl i_dt i_ol f_lenl f_lens f_sum f_min f_max f_max2 f_abs f_dm f_ii f_il m_bl m_jn m_st m_en m_fi m_sp g_bl g_jn g_st g_en g_fi g_sp sl_l sl_s truthV tw_n tw_b tw_i tw_s tw_l bindT seqD bdD St.clr Mw.Internal.G.ids Mw.Internal.T.ids gd0 gdS List.set_cons_zero List.set_cons_succ List.getElem?_cons_zero List.getElem?_cons_succ List.length_cons List.length_nil List.nil_append List.cons_append List.foldl_cons List.foldl_nil List.zip_cons_cons List.zip_nil_left List.replicate_zero Option.bind_some Option.bind_none" ++ " / ] / %null / / } / %group | { %Tsimp simp %ToptConfig %null / / %null / %null only / %null [ %null " ++ qxm "own_ix0 own_ix own_set0 own_set List.append_assoc List.length_append List.append_nil and_true true_and reduceIte Bool.false_eq_true Bool.true_eq_false Nat.zero_add List.replicate_succ" ++ " , @0 / ] / %null / / } / / / } /")
theorem d0t{n:Nat}{i:Int}{ow:List OV}{Q:V→List OV→Prop}(hn:2≤n)(h:Q (.dat (.bool (i==0))) ow):a1w n 10 hz [] [.dat (.int i)] ow Q:=by
 obtain⟨m,rfl⟩:∃m,n=m+2:=⟨n-2,by omega⟩
 refine⟨Nat.succ_pos _,fun q=>(nomatch q),rfl,rfl,?_⟩;dsimp only[L1.ISEOF,L1.ISEOF_nl];refine wq2 ?_;simp![];simpa using h
theorem d7n{n:Nat}{i:Int}{ow:List OV}{Q:V→List OV→Prop}(hn:2≤n)(h:Q (.dat (.bool (decide (256≤i)))) ow):a1w n 9 hz [] [.dat (.int i)] ow Q:=by
 obtain⟨m,rfl⟩:∃m,n=m+2:=⟨n-2,by omega⟩
 refine⟨Nat.succ_pos _,fun q=>(nomatch q),rfl,rfl,?_⟩;dsimp only[L1.ISNONTERMINAL,L1.ISNONTERMINAL_nl];refine wq2 ?_;simp![];simpa using h
theorem c1e{n:Nat}{a b m:Int}{ow:List OV}{Q:V→List OV→Prop}(hn:2≤n)(h1:Builtin.Int.intBits a-m≤4000)(hb:b≠0)(hb2:b.natAbs<2^4000)
 (h:Q (.dat (.tuple [.int (a.fdiv b),.int (a.fmod b)])) ow):a1w n 0 true [] [.dat (.int a),.dat (.int b),.dat (.int m)] ow Q:=by
 obtain⟨l,rfl⟩:∃m,n=m+2:=⟨n-2,by omega⟩
 refine⟨Nat.succ_pos _,fun _=>rfl,rfl,rfl,?_⟩;dsimp only[L1.div2n1n,L1.div2n1n_nl];refine wq2 ?_;simp![];refine ifp (by simpa using h1) ?_
 refine wq2 ?_;simp![];refine⟨⟨hb,hb2⟩,?_⟩;simpa using h
theorem b3f(x s:Nat):x &&& (x/2^s*2^s)=x/2^s*2^s:=by
 rw[←Nat.shiftRight_eq_div_pow,←Nat.shiftLeft_eq];apply Nat.eq_of_testBit_eq;intro i;simp only[Nat.testBit_and,Nat.testBit_shiftLeft,Nat.testBit_shiftRight]
 by_cases h:s≤i
 ·simp[h,Nat.add_sub_cancel' h]
 ·simp[h]
theorem b5h{a b s:Nat}(ha:a%2^s=0)(hb:b<2^s):a &&& b=0:=by
 have hb':b%2^s=b:=Nat.mod_eq_of_lt hb;rw[←hb',←Nat.and_two_pow_sub_one_eq_mod b s,Nat.and_comm b,←Nat.and_assoc,Nat.and_two_pow_sub_one_eq_mod,ha,Nat.zero_and]
theorem c4v(x s:Nat):Builtin.bitXor (x:Int) ((x/2^s*2^s:Nat):Int)=((x%2^s:Nat):Int):=by
 rw[PyProof.Rows.bitXor_and];have h:Builtin.bitAnd (x:Int) ((x/2^s*2^s:Nat):Int)=((x/2^s*2^s:Nat):Int):=by
  unfold Builtin.bitAnd;have h1:decide ((0:Int)≤(x:Int))=true:=by simp
  have h2:decide ((0:Int)≤((x/2^s*2^s:Nat):Int))=true:=decide_eq_true (Int.natCast_nonneg _);rw[h1,h2];simp only[Int.toNat_natCast];rw[b3f]
 rw[h];have h3:=Nat.div_add_mod x (2^s);rw[Nat.mul_comm]at h3;exact a1z (.e (.S (.P (.c N0) (.c N1)) (.n 0 2 (.c N1))) (.c N2)) (.e (.p N1 N2) N0) h3
theorem d1j{a b s:Nat}(ha:a%2^s=0)(hb:b<2^s):Builtin.bitOr (a:Int) (b:Int)=((a+b:Nat):Int):=by
 have h1:Builtin.bitOr (a:Int) (b:Int)=a+b-Builtin.bitAnd (a:Int) (b:Int):=by
  have:=PyProof.Rows.bitXor_and (a:Int) (b:Int)
  unfold Builtin.bitXor at this
  exact lc1 2 [_,_] [_,_] (.e Z0 (.S (.P (.c N0) (.c N1)) Z1)) (.e (.S Z0 Z1) (.S (.P (.c N0) (.c N1)) (.n 0 2 Z1))) this
 have h2:Builtin.bitAnd (a:Int) (b:Int)=0:=by
  unfold Builtin.bitAnd;have h1:decide ((0:Int)≤(a:Int))=true:=by simp
  have h2:decide ((0:Int)≤(b:Int))=true:=by simp
  rw[h1,h2];simp only[Int.toNat_natCast];rw[b5h ha hb]; rfl
 rw[h1,h2];exact b5v (.e (.S (.P (.c N0) (.c N1)) (.z 0)) (.c (.p N0 N1)))
theorem b6t(x:Nat):Builtin.Int.intBits (x:Int)=if x=0 then 0 else x.log2+1:=by
 unfold Builtin.Int.intBits
 by_cases h:x=0
 ·subst h; rfl
 ·have h1:((x:Int)==0)=false:=by simpa using h
  (rw[h1]; rw[if_neg h]); simp
theorem b2l(x:Nat):x<2^Builtin.Int.intBits (x:Int):=by
 rw[b6t];split
 ·subst_vars; decide
 ·rename_i h
  exact Nat.lt_log2_self
theorem a9n{x k:Nat}(h:x<2^k):Builtin.Int.intBits (x:Int)≤k:=by
 rw[b6t];split
 ·exact Nat.zero_le _
 ·rename_i h0
  have:=(Nat.log2_lt h0).mpr h
  exact a1d (.l (.p N0 O1) N1) (.t N0 N1) this
noncomputable def a5x(n:Nat)(x:Nat)(c:Nat):List d8e:=(List.range c).map fun i=>.int ((x/2^(n*i)%2^n:Nat):Int)
theorem a1g(n x c:Nat):(a5x n x c).length=c:=by simp[a5x]
theorem c5u(n x a b:Nat):a5x n x (a+b)=a5x n (x%2^(n*a)) a++a5x n (x/2^(n*a)) b:=by
 apply List.ext_getElem?;intro i
 by_cases h:i<a
 ·rw[List.getElem?_append_left (by rw[a1g]; exact h)]
  simp only[a5x,List.getElem?_map,List.getElem?_range h,List.getElem?_range (by exact a1z (.t N0 (.p N1 N2)) (.t N0 N1) h:i<a+b),Option.map_some]
  have hle:n*i+n≤n*a:=by
   have:n*(i+1)≤n*a:=Nat.mul_le_mul_left n h
   rw[Nat.mul_succ]at this; exact this
  congr 3
  rw[←Nat.mod_mod_of_dvd (x/2^(n*i)) (Nat.pow_dvd_pow 2 (by exact a1z (.l N0 (.s N1 N2)) (.l (.p N2 N0) N1) hle:n≤n*a-n*i)),←Nat.mod_mod_of_dvd (x%2^(n*a)/2^(n*i)) (Nat.pow_dvd_pow 2 (by exact a1z (.l N0 (.s N1 N2)) (.l (.p N2 N0) N1) hle:n≤n*a-n*i))]
  congr 1
  have e:2^(n*a)=2^(n*i)*2^(n*a-n*i):=by rw[←Nat.pow_add]; congr 1; exact a1z (.e N0 (.p N1 (.s N0 N1))) (.l (.p N1 N2) N0) hle
  rw[e,Nat.mod_mul_right_div_self,Nat.mod_mod]
 ·rw[List.getElem?_append_right (by rw[a1g]; omega),a1g]
  by_cases h2:i<a+b
  ·simp only[a5x,List.getElem?_map,List.getElem?_range h2,List.getElem?_range (by exact a2q (.t (.s N0 N1) N2) (.n (.t N0 N1)) (.t N0 (.p N1 N2)) h h2:i-a<b),Option.map_some]
   congr 3
   rw[Nat.div_div_eq_div_mul,←Nat.pow_add,←Nat.mul_add,Nat.add_sub_cancel' (by omega:a≤i)]
  ·rw[List.getElem?_eq_none (by rw[a1g]; omega),List.getElem?_eq_none (by rw[a1g]; exact a1z (.l N0 (.s N1 N2)) (.n (.t N1 (.p N2 N0))) h2)]
noncomputable def b0l(n:Nat):List Nat→Nat
 |[]=>0
 |d::r=>d+2^n*b0l n r
theorem b5m(n:Nat)(a b:List Nat):b0l n (a++b)=b0l n a+2^(n*a.length)*b0l n b:=by
 induction a with
 |nil=>(dsimp only[b0l]; simp)
 |cons d r ih=>
  dsimp only[b0l,List.cons_append,List.length_cons];rw[ih,Nat.mul_add,←Nat.mul_assoc,←Nat.pow_add,Nat.mul_succ,Nat.add_comm n];exact lc0 3 [_,_,_] [] (.e (.p N0 (.p N1 N2)) (.p (.p N0 N1) N2))
theorem b6z{n x:Nat}(hx:x<2^(n*1)):a5x n x 1=[.int (x:Int)]:=by
 have:x%2^n=x:=Nat.mod_eq_of_lt (by simpa using hx)
 simp only[a5x,List.range_one,List.map_cons,List.map_nil,Nat.mul_zero,Nat.pow_zero,Nat.div_one,this]
theorem d0b{j n:Nat}:∀(k x L c:Nat) (l:List d8e) (ow:List OV) (Q:V→List OV→Prop),1≤c→c≤2^k→x<2^(n*c)→L+c≤l.length→l.length≤1000→n*c≤900→ow[j]?=some (.lst l)→
  Q (.dat .none) (ow.set j (.lst (l.take L++a5x n x c++l.drop (L+c))))→
  inl nF tk 3 4 [.own j,.dat (.int n),.fn nF] a6z (k+2) nF hz [] [.dat (.int x),.dat (.int L),.dat (.int (L+c:Nat))] ow Q:=by
 intro k
 induction k with
 |zero=>
  intro x L c l ow Q h1 h2 hx hL hl hnc hj hQ;have hc:c=1:=by exact lc2 1 [_] [] (.e N0 O1) (.l O1 N0) (.l N0 (.k (Nat.pow 2 0))) h1 h2
  subst hc;refine⟨rfl,Nat.succ_pos _,rfl,rfl,?_⟩;simp only[a6z];refine wq2 ?_;simp![];refine ifp (by simp) ?_
  refine wq2 ?_;simp![hj];refine⟨⟨by exact a1x (.l (.z 0) (.c N0)),by exact a1s (.l (.c N0) (.z 1000000)) (.l N1 (.k 1000)) (.l (.p N0 O1) N1) hl hL⟩,by simp; omega,?_⟩
  refine wq2 ?_;simp![];have e:l.set (L:Int).toNat (.int x)=l.take L++a5x n x 1++l.drop (L+1):=by
   (rw[b6z hx,Int.toNat_natCast,List.set_eq_take_append_cons_drop]; rw[if_pos (by omega)])
   simp
  rw[e,List.take_of_length_le (by simp)]
  exact hQ
 |succ k ih=>
  intro x L c l ow Q h1 h2 hx hL hl hnc hj hQ;refine⟨rfl,Nat.succ_pos _,rfl,rfl,?_⟩;refine wq2 ?_;simp![]
  by_cases hc:c=1
  ·subst hc
   refine ifp (by simp) ?_
   refine wq2 ?_;simp![hj];refine⟨⟨by exact a1x (.l (.z 0) (.c N0)),by exact a1s (.l (.c N0) (.z 1000000)) (.l N1 (.k 1000)) (.l (.p N0 O1) N1) hl hL⟩,by simp; omega,?_⟩
   refine wq2 ?_;simp![];have e:l.set (L:Int).toNat (.int x)=l.take L++a5x n x 1++l.drop (L+1):=by
    (rw[b6z hx,Int.toNat_natCast,List.set_eq_take_append_cons_drop]; rw[if_pos (by omega)])
    simp
   rw[e,List.take_of_length_le (by simp)]
   exact hQ
  ·refine ifn (by simp; exact a0j (.n (.e (.z 1) (.c N0))) (.n (.e N0 O1)) hc) ?_
   refine wq1 ?_;refine wq2 ?_;simp![];refine⟨by omega,?_⟩
   obtain⟨a,b,rfl,hab,hba⟩:∃a b,c=a+b∧a≤b∧b≤a+1:=⟨c/2,c-c/2,by exact a1z (.e N0 (.p N1 (.s N0 N1))) (.e (.p (.m 0 2 N1) N2) N0) (Nat.div_add_mod _ 2),by exact a1z (.l N0 (.s N1 N0)) (.e (.p (.m 0 2 N0) N2) N1) (Nat.div_add_mod _ 2),by exact a2q (.l (.s N0 N1) (.p N1 O1)) (.e (.p (.m 0 2 N1) N2) N0) (.t N2 (.k 2)) (Nat.div_add_mod _ 2) (ml rfl)⟩
   have hap:1≤a:=by exact lc3 2 [_,_] [] (.l O1 N0) (.l O1 (.p N0 N1)) (.n (.e (.p N0 N1) O1)) (.l N1 (.p N0 O1)) h1 hc hba
   have e1:((L:Int)+((L+(a+b):Nat):Int)).fdiv (2^(1:Int).toNat)=((L+a:Nat):Int):=by
    have:(2:Int)^(1:Int).toNat=2:=by decide
    rw[this,Int.fdiv_eq_ediv_of_nonneg _ (by omega)]
    omega
   (rw[e1]; refine wq2 ?_)
   simp![];refine⟨.inl (by exact b2z (.t (.u 1 (.S (.c (.p N0 N1)) (.c N0))) (.k (Nat.pow 2 64))) (.l N2 (.k 1000)) (.l (.p N0 (.p N1 N3)) N2) hl hL),?_⟩
   have e2:(((L+a:Nat):Int)-(L:Int))*(n:Int)=((n*a:Nat):Int):=by
    have:((L+a:Nat):Int)-(L:Int)=(a:Int):=by exact b5v (.e (.S (.c (.p N0 N1)) (.c N0)) (.c N1))
    rw[this,Int.mul_comm]; simp
   (rw[e2]; refine wq2 ?_)
   simp![];refine⟨by exact a1x (.l (.z 0) (.c N0)),?_⟩
   have e3:(x:Int).fdiv (2^((n*a:Nat):Int).toNat)=((x/2^(n*a):Nat):Int):=by
    rw[Int.toNat_natCast,Int.fdiv_eq_ediv_of_nonneg _ (by exact Int.le_of_lt (Int.pow_pos (by decide)))]
    simp
   (rw[e3]; refine wq2 ?_)
   simp![];have big:(2:Nat)^900≤2^4000:=Nat.pow_le_pow_right (by decide) (by decide)
   have hac:a≤a+b:=Nat.le_add_right a b;have hna:n*a≤n*(a+b):=Nat.mul_le_mul_left n hac;have hx9:x<2^900:=Nat.lt_of_lt_of_le hx (Nat.pow_le_pow_right (by decide) hnc)
   refine⟨⟨by exact a1x (.l (.z 0) (.c N0)),by omega,?_⟩,?_⟩
   ·have:x/2^(n*a)≤x:=Nat.div_le_self _ _
    rw[Int.natAbs_natCast];exact Nat.lt_of_le_of_lt this (Nat.lt_of_lt_of_le hx9 big)
   have e4:Builtin.bitXor (x:Int) (((x/2^(n*a):Nat):Int)*2^((n*a:Nat):Int).toNat)=((x%2^(n*a):Nat):Int):=by
    rw[←c4v,Int.toNat_natCast];exact congrArg _ (by simp)
   (rw[e4]; refine wq2 ?_)
   have hlow:x%2^(n*a)<2^(n*a):=Nat.mod_lt _ (Nat.pow_pos (by decide))
   have hup:x/2^(n*a)<2^(n*b):=by
    rw[Nat.div_lt_iff_lt_mul (Nat.pow_pos (by decide)),←Nat.pow_add,←Nat.mul_add,Nat.add_comm b a]
    exact hx
   simp![];refine ih (x%2^(n*a)) L a l ow _ hap (by omega) hlow (by exact b0s (.l (.p N0 N1) N2) (.l (.p N0 (.p N1 N3)) N2) hL) hl (by omega) hj ?_
   refine⟨⟨_,rfl⟩,?_⟩;refine wq2 ?_;simp![];have e5:L+(a+b)=L+a+b:=(Nat.add_assoc L a b).symm;rw[e5];have hl2:(l.take L++a5x n (x%2^(n*a)) a++l.drop (L+a)).length=l.length:=by
    simp[a1g]; exact b0s (.e (.p (.b 2 N0 N1) (.p N2 (.s N1 (.p N0 N2)))) N1) (.l (.p N0 (.p N2 N3)) N1) hL
   have hjl:j<ow.length:=(List.getElem?_eq_some_iff.mp hj).1;refine ih (x/2^(n*a)) (L+a) b _ _ _ (by omega) (by omega) hup (by rw[hl2]; exact b0s (.l (.p (.p N0 N1) N2) N3) (.l (.p N0 (.p N1 N2)) N3) hL) (by rw[hl2]; exact hl) ?_ (by simp[hjl]) ?_
   ·have:n*b≤n*(a+b):=Nat.mul_le_mul_left n (Nat.le_add_left b a)
    omega
   refine⟨⟨_,rfl⟩,?_⟩;refine wq1 ?_;have e6:(List.take L l++a5x n (x%2^(n*a)) a++List.drop (L+a) l).take (L+a)++a5x n (x/2^(n*a)) b++(List.take L l++a5x n (x%2^(n*a)) a++List.drop (L+a) l).drop (L+a+b)=List.take L l++a5x n x (a+b)++List.drop (L+(a+b)) l:=by
    have hlen:(List.take L l++a5x n (x%2^(n*a)) a).length=L+a:=by simp[a1g]; exact b0s (.e (.b 2 N0 N1) N0) (.l (.p N0 (.p N2 N3)) N1) hL
    have hfig:a5x n x (a+b)=a5x n (x%2^(n*a)) a++a5x n (x/2^(n*a)) b:=by
     rw[←c5u]
    rw[List.take_append_of_le_length (by rw[hlen]; exact Nat.le_refl _),List.take_of_length_le (by rw[hlen]; exact Nat.le_refl _),List.drop_append,hlen,List.drop_eq_nil_of_le (by rw[hlen]; exact lc0 3 [_,_,_] [] (.l (.p N0 N1) (.p (.p N0 N1) N2))),List.nil_append,List.drop_drop,hfig,List.append_assoc,List.append_assoc,List.append_assoc]
    rw[show L+a+(L+a+b-(L+a))=L+(a+b) from by rw[Nat.add_sub_cancel_left,Nat.add_assoc],List.append_assoc]
   rw[e6,List.set_set,List.take_of_length_le (by simp)]
   exact hQ
noncomputable def a0c(l:List Nat):List d8e:=l.map fun(d:Nat)=>.int (d:Int)
theorem c2h(n:Nat):∀(l:List Nat),(∀d∈l,d<2^n)→b0l n l<2^(n*l.length)
 |[]=>fun _=>by(dsimp only[b0l]; simp)
 |d::r=>fun h=>by
  have h1:=h d (.head _);have h2:=c2h n r fun x hx=>h x (List.mem_cons_of_mem _ hx)
  (dsimp only[b0l,List.length_cons]; simp only[Nat.mul_succ])
  rw[Nat.pow_add,Nat.mul_comm (2^(n*r.length))];have h3:2^n*b0l n r+2^n≤2^n*2^(n*r.length):=by
   rw[←Nat.mul_succ]; exact Nat.mul_le_mul_left _ h2
  exact b2z (.t (.p N0 N1) N2) (.t N0 N3) (.l (.p N1 N3) N2) h1 h3
theorem c9b{n:Nat}{ds:List Nat}(hds:∀d∈ds,d<2^n)(hl:ds.length≤1000)(hnl:n*ds.length≤900):∀(k L c:Nat) (ow:List OV) (Q:V→List OV→Prop),1≤c→c≤2^k→L+c≤ds.length→
  Q (.dat (.int (b0l n ((ds.drop L).take c):Nat))) ow→
  inl nF tk 2 2 [.dat (.list (a0c ds)),.dat (.int n),.fn nF] a6y (k+2) nF hz [] [.dat (.int L),.dat (.int (L+c:Nat))] ow Q:=by
 have base:∀(L:Nat) (m:Nat) (ow:List OV) (Q:V→List OV→Prop),L+1≤ds.length→Q (.dat (.int (b0l n ((ds.drop L).take 1):Nat))) ow→
   inl nF tk 2 2 [.dat (.list (a0c ds)),.dat (.int n),.fn nF] a6y (m+2) nF hz [] [.dat (.int L),.dat (.int (L+1:Nat))] ow Q:=by
  intro L m ow Q hL hQ;refine⟨rfl,Nat.succ_pos _,rfl,rfl,?_⟩
  change a1n _ _ (.cons _ _) _ _
  refine wq2 ?_;simp![];refine ifp (by simp) ?_
  refine wq2 ?_;have hg:(a0c ds)[L]?=some (.int ((ds[L]'(by omega):Nat):Int)):=by
   simp[a0c,List.getElem?_map,List.getElem?_eq_getElem (by omega:L<ds.length)]
  have hix:a1i (a0c ds).length (L:Int)=some L:=by
   unfold a1i; (rw[if_pos (by exact a1x (.l (.z 0) (.c N0)))]; rw[if_pos (by simp[a0c]; omega)]); simp
  simp![hix,hg];refine⟨⟨by exact a1x (.l (.z (Int.neg 1000000)) (.c N0)),by exact a1s (.l (.c N0) (.z 1000000)) (.l N1 (.k 1000)) (.l (.p N0 O1) N1) hl hL⟩,?_⟩
  have e:(ds.drop L).take 1=[ds[L]'(by omega)]:=by
   rw[List.drop_eq_getElem_cons (by omega:L<ds.length)]; rfl
  rw[e]at hQ
  (dsimp only[b0l]at hQ; simpa using hQ)
 intro k
 induction k with
 |zero=>
  intro L c ow Q h1 h2 hL hQ;have hc:c=1:=by exact lc2 1 [_] [] (.e N0 O1) (.l O1 N0) (.l N0 (.k (Nat.pow 2 0))) h1 h2
  subst hc;exact base L 0 ow Q hL hQ
 |succ k ih=>
  intro L c ow Q h1 h2 hL hQ
  by_cases hc:c=1
  ·subst hc; exact base L (k+1) ow Q hL hQ
  refine⟨rfl,Nat.succ_pos _,rfl,rfl,?_⟩
  change a1n _ _ (.cons _ _) _ _
  refine wq2 ?_;simp![];refine ifn (by simp; exact a0j (.n (.e (.z 1) (.c N0))) (.n (.e N0 O1)) hc) ?_
  refine wq1 ?_;refine wq2 ?_;simp![];refine⟨by omega,?_⟩
  obtain⟨a,b,rfl,hab,hba⟩:∃a b,c=a+b∧a≤b∧b≤a+1:=⟨c/2,c-c/2,by exact a1z (.e N0 (.p N1 (.s N0 N1))) (.e (.p (.m 0 2 N1) N2) N0) (Nat.div_add_mod _ 2),by exact a1z (.l N0 (.s N1 N0)) (.e (.p (.m 0 2 N0) N2) N1) (Nat.div_add_mod _ 2),by exact a2q (.l (.s N0 N1) (.p N1 O1)) (.e (.p (.m 0 2 N1) N2) N0) (.t N2 (.k 2)) (Nat.div_add_mod _ 2) (ml rfl)⟩
  have hap:1≤a:=by exact lc3 2 [_,_] [] (.l O1 N0) (.l O1 (.p N0 N1)) (.n (.e (.p N0 N1) O1)) (.l N1 (.p N0 O1)) h1 hc hba
  have e1:((L:Int)+((L+(a+b):Nat):Int)).fdiv (2^(1:Int).toNat)=((L+a:Nat):Int):=by
   have:(2:Int)^(1:Int).toNat=2:=by decide
   rw[this,Int.fdiv_eq_ediv_of_nonneg _ (by omega)]
   omega
  (rw[e1]; refine wq2 ?_)
  have hn64:n≤900:=by
   have:n*1≤n*ds.length:=Nat.mul_le_mul_left n (by exact b2z (.l O1 N0) (.l (.p N1 (.p N2 N3)) N0) (.l O1 N2) hL hap)
   exact a1s (.l N0 (.k 900)) (.l N1 (.k 900)) (.l (.m 1 1 N0) N1) hnl this
  simp![];refine⟨.inr ?_,?_⟩
  ·rw[Int.natAbs_natCast]; omega
  have e2:(((L+a:Nat):Int)-(L:Int))*(n:Int)=((n*a:Nat):Int):=by
   have:((L+a:Nat):Int)-(L:Int)=(a:Int):=by exact b5v (.e (.S (.c (.p N0 N1)) (.c N0)) (.c N1))
   rw[this,Int.mul_comm]; simp
  (rw[e2]; refine wq2 ?_)
  simp![];have hna:n*a≤n*ds.length:=Nat.mul_le_mul_left n (by exact b0s (.l N0 N1) (.l (.p N2 (.p N0 N3)) N1) hL)
  have e5:L+(a+b)=L+a+b:=(Nat.add_assoc L a b).symm;rw[e5];refine ih (L+a) b ow _ (by omega) (by omega) (by exact b0s (.l (.p (.p N0 N1) N2) N3) (.l (.p N0 (.p N1 N2)) N3) hL) ?_
  refine⟨⟨_,rfl⟩,?_⟩;simp![];have hsub:∀x∈(ds.drop (L+a)).take b,x<2^n:=fun x hx=>hds x (List.mem_of_mem_drop (List.mem_of_mem_take hx));have hv:=c2h n _ hsub;have hlen:((ds.drop (L+a)).take b).length=b:=by rw[List.length_take,List.length_drop]; exact b0s (.e (.b 2 N0 (.s N1 (.p N2 N3))) N0) (.l (.p N2 (.p N3 N0)) N1) hL
  rw[hlen]at hv;have hle:n*b≤n*ds.length:=Nat.mul_le_mul_left n (by exact b0s (.l N0 N1) (.l (.p N2 (.p N3 N0)) N1) hL)
  have big:(2:Nat)^(n*b)≤2^4000:=Nat.pow_le_pow_right (by decide) (by exact a1s (.l N0 (.k 4000)) (.l N1 (.k 900)) (.l N0 N1) hnl hle)
  refine⟨⟨by exact a1x (.l (.z 0) (.c N0)),by exact a1s (.l (.c N0) (.z 1000)) (.l N1 (.k 900)) (.l N0 N1) hnl hna,by rw[Int.natAbs_natCast]; omega⟩,?_⟩
  refine ih L a ow _ hap (by omega) (by exact b0s (.l (.p N0 N1) N2) (.l (.p N0 (.p N1 N3)) N2) hL) ?_
  refine⟨⟨_,rfl⟩,?_⟩;simp![];have e7:((b0l n ((ds.drop (L+a)).take b):Nat):Int)*2^((n*a:Nat):Int).toNat+((b0l n ((ds.drop L).take a):Nat):Int)=((b0l n ((ds.drop L).take (a+b)):Nat):Int):=by
   have e8:(ds.drop L).take (a+b)=(ds.drop L).take a++(ds.drop (L+a)).take b:=by
    rw[show(ds.drop (L+a))=(ds.drop L).drop a from by rw[List.drop_drop],←List.take_add]
   have e9:((ds.drop L).take a).length=a:=by rw[List.length_take,List.length_drop]; exact b0s (.e (.b 2 N0 (.s N1 N2)) N0) (.l (.p N2 (.p N0 N3)) N1) hL
   rw[e8,b5m,e9,Int.toNat_natCast];rw[Int.add_comm,Int.mul_comm]; rfl
  rw[e7];simpa using hQ
theorem c4d(c:Nat):(List.replicate c [PyData.int 0]).flatten=List.replicate c (.int 0):=by
 induction c with
 |zero=>rfl
 |succ c ih=>rw[List.replicate_succ,List.flatten_cons,ih,List.replicate_succ]; rfl
theorem b1d{m:Nat}(h:m≤900):m<2^4000:=Nat.lt_of_lt_of_le (Nat.lt_two_pow_self (n:=m)) (Nat.pow_le_pow_right (by decide) (by omega))
theorem d5v{n a m c:Nat}{ow:List OV}{Q:V→List OV→Prop}(hn:14≤n)(hm:1≤m)(hc:c=(Builtin.Int.intBits (a:Int)+m-1)/m)(hmc:m*c≤900)(hm9:m≤900)(h:Q (.dat (.list (a5x m a c))) ow) :
  a1w n 2 true [] [.dat (.int a),.dat (.int m)] ow Q:=by
 obtain⟨l,rfl⟩:∃l,n=l+13:=⟨n-13,by exact a0j (.e N0 (.p (.s N0 (.k 13)) (.k 13))) (.l (.k 14) N0) hn⟩
 refine⟨Nat.succ_pos _,rfl,rfl,rfl,rfl,?_⟩;have hc9:c≤900:=Nat.le_trans (by have:=Nat.mul_le_mul_right c hm; exact a1d (.l N0 N1) (.l (.m 0 1 N0) N1) this) hmc
 simp only[c1u];have e1:((Builtin.Int.intBits (a:Int):Int)+(m:Int)-1).fdiv (m:Int)=(c:Int):=by
  rw[Int.fdiv_eq_ediv_of_nonneg _ (by exact a1x (.l (.z 0) (.c N0))),hc]
  have:(Builtin.Int.intBits (a:Int):Int)+(m:Int)-1=((Builtin.Int.intBits (a:Int)+m-1:Nat):Int):=by exact a1d (.e (.S (.P (.c N0) (.c N1)) (.z 1)) (.c (.s (.p N0 N1) O1))) (.l O1 N1) hm
  rw[this]; rfl
 have hw:a<2^(m*c):=by
  refine Nat.lt_of_lt_of_le (b2l a) (Nat.pow_le_pow_right (by decide) ?_)
  have h1:=Nat.div_add_mod (Builtin.Int.intBits (a:Int)+m-1) m;have h2:=Nat.mod_lt (Builtin.Int.intBits (a:Int)+m-1) hm;rw[←hc]at h1;exact b2z (.l N0 N1) (.e (.p N1 N2) (.s (.p N0 N3) O1)) (.t N2 N3) h1 h2
 simp![];refine⟨⟨by exact a0j (.n (.e (.c N0) (.z 0))) (.l O1 N0) hm,by rw[Int.natAbs_natCast]; exact b1d hm9⟩,?_⟩
 rw[e1];refine⟨⟨by exact a1x (.l (.z 0) (.c N0)),by exact a0j (.l (.c N0) (.z 1000000)) (.l N0 (.k 900)) hc9,by simp; omega⟩,?_⟩
 rw[Int.toNat_natCast,c4d];refine⟨ow.length,m,?_⟩;simp![]
 by_cases ha:a=0
 ·subst ha
  have hc0:c=0:=by
   rw[hc]
   have:Builtin.Int.intBits ((0:Nat):Int)=0:=by decide
   rw[this];exact Nat.div_eq_of_lt (by exact a0j (.t (.s (.p (.k 0) N0) O1) N0) (.l O1 N0) hm)
  subst hc0;refine ifn (by decide) ?_
  refine⟨[],by simp,?_⟩
  simpa[a5x]using h
 ·refine ifp (by simpa using ha) ?_
  simp only[a9c];simp![List.getElem?_append_right (Nat.le_refl ow.length),Nat.sub_self];refine⟨by simp; omega,fun u hu=>?_,?_⟩
  ·simp at hu; rcases hu with rfl|rfl|rfl <;> exact⟨_,rfl⟩
  have hlen:(List.replicate c (PyData.int 0)).length=c:=by simp
  have hcp:1≤c:=by
   rcases Nat.eq_zero_or_pos c with h0|h0
   ·subst h0; simp at hw; exact lc2 1 [_] [] (.l O1 (.k 0)) (.n (.e N0 (.k 0))) (.e N0 (.k 0)) ha hw
   ·exact h0
  have h10:(2:Nat)^10≤2^(l+10):=Nat.pow_le_pow_right (by decide) (by omega)
  have:=d0b (tk:=a0o) (hz:=true) (j:=ow.length) (n:=m) (l+10) a 0 c (List.replicate c (.int 0)) (ow++[.lst (List.replicate c (.int 0))]) (fun _ ow'=>∃l',ow'[ow.length]?=some (.lst l')∧Q (.dat (.list l')) (List.take ow.length (ow'.set ow.length (.froz l')))) hcp (by exact a1s (.l N0 N1) (.l N0 (.k 900)) (.l (.k (Nat.pow 2 10)) N1) hc9 h10) hw (by simp) (by simp; omega) hmc (by simp) ⟨a5x m a c,by simp,by simpa using h⟩
  have e4:i2dLs.length=4:=rfl;rw[e4];simpa using this
theorem b3h{body:d8e→St→(Fl→St→Prop)→Prop}(I:List d8e→St→Prop)(hs:∀d r st K,I (d::r) st→(∀st',I r st'→K .next st')→body d st K):∀(ds:List d8e) (st:St) (K:Fl→St→Prop),I ds st→(∀st',I [] st'→K .next st')→b3u body ds st K
 |[]=>fun st K h hk=>hk st h
 |d::ds=>fun st K h hk=>hs d ds st _ h fun st' h'=>b3h I hs ds st' K h' hk
theorem d5c{n m:Nat}{ds:List Nat}{ow:List OV}{Q:V→List OV→Prop}(hn:14≤n)(hds:∀d∈ds,d<2^m)(hl:ds.length≤900)(hml:m*ds.length≤900)(h:Q (.dat (.int (b0l m ds:Nat))) ow) :
  a1w n 3 true [] [.dat (.list (a0c ds)),.dat (.int m)] ow Q:=by
 obtain⟨l,rfl⟩:∃l,n=l+13:=⟨n-13,by exact a0j (.e N0 (.p (.s N0 (.k 13)) (.k 13))) (.l (.k 14) N0) hn⟩
 refine⟨Nat.succ_pos _,rfl,rfl,rfl,rfl,?_⟩;refine⟨a0c ds,m,?_⟩;have hle:(a0c ds).length=ds.length:=by simp[a0c]
 simp![];refine⟨by exact a1s (.l N0 (.k 1000000)) (.l N1 (.k 900)) (.e N0 N1) hl hle,?_⟩
 by_cases h0:ds=[]
 ·subst h0
  refine ifn (by simp[a0c]) ?_
  (dsimp only[b0l]at h; simpa using h)
 ·have hp:0<ds.length:=List.length_pos_iff.mpr h0
  refine ifp (by simp[a0c,h0]) ?_
  simp only[a9k];simp![];refine⟨by exact a1s (.l N0 (.k 1000000)) (.l N1 (.k 900)) (.e N0 N1) hl hle,fun u hu=>?_,?_⟩
  ·simp at hu; rcases hu with rfl|rfl <;> exact⟨_,rfl⟩
  have h10:(2:Nat)^10≤2^(l+10):=Nat.pow_le_pow_right (by decide) (by omega)
  have:=c9b (tk:=a0o) (hz:=true) (n:=m) hds (by omega) hml (l+10) 0 ds.length ow (fun v ow'=>∃d,v=.dat d∧Q (.dat d) (List.take ow.length ow')) hp (by exact a1s (.l N0 N1) (.l N0 (.k 900)) (.l (.k (Nat.pow 2 10)) N1) hl h10) (by exact a1x (.l (.p (.k 0) N0) N0)) ⟨_,rfl,by simpa using h⟩
  rw[hle];have e4:d2iLs.length=2:=rfl;rw[e4];simpa using this
theorem c2a(m a k:Nat):(a5x m a (k+1)).reverse=.int ((a/2^(m*k)%2^m:Nat):Int)::(a5x m a k).reverse:=by
 simp[a5x,List.range_succ]
theorem a0r(a b:List Nat):a0c (a++b)=a0c a++a0c b:=by simp[a0c]
theorem b2y(a:List Nat):(a0c a).reverse=a0c a.reverse:=by simp[a0c]
theorem intsL_length(a:List Nat):(a0c a).length=a.length:=by simp[a0c]
theorem a1c(a b:Nat):Int.fdiv (a:Int) (b:Int)=((a/b:Nat):Int):=by
 rw[Int.fdiv_eq_ediv_of_nonneg _ (Int.natCast_nonneg b)]; rfl
theorem a0t(a b:Nat):Int.fmod (a:Int) (b:Int)=((a%b:Nat):Int):=by
 rw[Int.fmod_eq_emod_of_nonneg _ (Int.natCast_nonneg b)]; rfl
noncomputable def d8a:Nat:=2^400
inductive DI(m a b c:Nat)(ow:List OV):List d8e→St→Prop
 |mk {rest} (k r:Nat) (qs:List Nat) (v1 v2:V):k≤c→rest=(a5x m a k).reverse→r=a/2^(m*k)%b→b0l m qs.reverse=a/2^(m*k)/b→(∀d∈qs,d<2^m)→qs.length+k=c→DI m a b c ow rest ⟨[.dat (.int a),.dat (.int b),.dat (.int m),.dat (.list (a5x m a c)),.dat (.int (r:Int)),.own ow.length,v1,v2,.undef],ow++[.lst (a0c qs)],true⟩
theorem b4k{n a b:Nat}{ow:List OV}{Q:V→List OV→Prop}(hn:15≤n)(ha:a<2^400)(hb:b<2^400)(hb0:0<b)
 (h:Q (.dat (.tuple [.int (a/b:Nat),.int (a%b:Nat)])) ow):a1w n 4 true [] [.dat (.int a),.dat (.int b)] ow Q:=by
 obtain⟨l,rfl⟩:∃l,n=l+15:=⟨n-15,by omega⟩
 refine⟨Nat.succ_pos _,fun _=>rfl,rfl,rfl,?_⟩
 replace ha:=a9n ha
 replace hb:=a9n hb
 generalize hm:Builtin.Int.intBits (b:Int)=m at hb;have hbm:b<2^m:=by rw[←hm]; exact b2l b
 have hm1:1≤m:=by
  rcases Nat.eq_zero_or_pos m with h0|h0
  ·subst h0; simp at hbm; exact lc2 1 [_] [] (.l O1 (.k 0)) (.t (.k 0) N0) (.e N0 (.k 0)) hb0 hbm
  ·exact h0
 generalize hc:(Builtin.Int.intBits (a:Int)+m-1)/m=c;have hmc:m*c≤800:=by
  have:=Nat.mul_div_le (Builtin.Int.intBits (a:Int)+m-1) m
  rw[hc]at this; exact lc3 3 [_,_,_] [] (.l N0 (.k 800)) (.l N1 (.k 400)) (.l N2 (.k 400)) (.l N0 (.s (.p N1 N2) O1)) ha hb this
 have hw:a<2^(m*c):=by
  refine Nat.lt_of_lt_of_le (b2l a) (Nat.pow_le_pow_right (by decide) ?_)
  have h1:=Nat.div_add_mod (Builtin.Int.intBits (a:Int)+m-1) m;have h2:=Nat.mod_lt (Builtin.Int.intBits (a:Int)+m-1) hm1;rw[hc]at h1;exact b2z (.l N0 N1) (.e (.p N1 N2) (.s (.p N0 N3) O1)) (.t N2 N3) h1 h2
 refine wq2 ?_;simp![]
 (rw[hm]; refine wq2 ?_)
 simp![];refine d5v (by omega) hm1 (by rw[hc]) (by omega) (by omega) ⟨⟨_,rfl⟩,?_⟩
 refine wq2 ?_;simp![];refine wq2 ?_;simp![];refine wq2 ?_;simp![];have hc9:c≤800:=Nat.le_trans (by have:=Nat.mul_le_mul_right c hm1; exact a1d (.l N0 N1) (.l (.m 0 1 N0) N1) this) hmc
 refine b3h (DI m a b c ow) ?_ _ _ _ ⟨c,0,[],.undef,.undef,Nat.le_refl _,rfl,?_,?_,by simp,by simp⟩ ?_
 ·rintro d rest st K ⟨k,r,qs,v1,v2,hk,hr,hrr,hv,hq,hql⟩ hK
  obtain⟨k,rfl⟩:∃k',k=k'+1:=by
   cases k with
   |zero=>simp[a5x]at hr
   |succ k=>exact⟨k,rfl⟩
  rw[c2a]at hr;obtain⟨rfl,rfl⟩:=List.cons.inj hr;generalize hf:a/2^(m*k)%2^m=f;have hf2:f<2^m:=by rw[←hf]; exact Nat.mod_lt _ (Nat.pow_pos (by decide))
  have hstep:a/2^(m*k)=a/2^(m*(k+1))*2^m+f:=by
   rw[←hf,Nat.mul_succ,Nat.pow_add,←Nat.div_div_eq_div_mul]
   have:=Nat.div_add_mod (a/2^(m*k)) (2^m)
   rw[Nat.mul_comm]at this; exact this.symm
  have hrb:r<b:=by rw[hrr]; exact Nat.mod_lt _ hb0
  have hnum:r*2^m+f<b*2^m:=by
   have:r*2^m+2^m≤b*2^m:=by rw[←Nat.succ_mul]; exact Nat.mul_le_mul_right _ hrb
   exact b2z (.t (.p N0 N1) N2) (.t N1 N3) (.l (.p N0 N3) N2) hf2 this
  have hbig:(2:Nat)^400≤2^4000:=Nat.pow_le_pow_right (by decide) (by decide)
  have hb4:b<2^400:=Nat.lt_of_lt_of_le hbm (Nat.pow_le_pow_right (by decide) hb)
  refine wq2 ?_;simp![];refine⟨⟨by exact a1x (.l (.z 0) (.c N0)),by exact a0j (.l (.c N0) (.z 1000)) (.l N0 (.k 400)) hb,by rw[Int.natAbs_natCast]; exact a1s (.t N0 (.k (Nat.pow 2 4000))) (.t N0 N1) (.t N1 (.k (Nat.pow 2 400))) hrb hb4⟩,?_⟩
  have e1:(r:Int)*2^((m:Nat):Int).toNat+(f:Int)=((r*2^m+f:Nat):Int):=by simp
  rw[e1];refine c1e (by omega) ?_ (by exact a0j (.n (.e (.c N0) (.z 0))) (.t (.k 0) N0) hb0) (by rw[Int.natAbs_natCast]; omega) ⟨⟨_,rfl⟩,?_⟩
  ·have:Builtin.Int.intBits ((r*2^m+f:Nat):Int)≤800:=a9n (by
    refine Nat.lt_of_lt_of_le hnum ?_
    have:(2:Nat)^800=2^400*2^400:=by rw[←Nat.pow_add]
    rw[this];exact Nat.mul_le_mul (by omega) (Nat.pow_le_pow_right (by decide) hb))
   exact a1d (.l (.S (.c N0) (.c N1)) (.z 4000)) (.l N0 (.k 800)) this
  simp![];refine wq2 ?_;simp![];simp only[a1c,a0t];refine⟨⟨_,rfl⟩,by rw[intsL_length]; exact a2q (.t N0 (.k 1000000)) (.l N1 (.k 800)) (.e (.p N0 (.p N2 O1)) N1) hc9 hql,?_⟩
  refine hK _ (Eq.mpr (congrArg (DI m a b c ow _) ?_) (.mk k ((r*2^m+f)%b) (qs++[(r*2^m+f)/b]) (.dat (.int (f:Int))) (.dat (.int (((r*2^m+f)/b:Nat):Int))) (by omega) rfl ?_ ?_ ?_ (by simp; exact a1z (.e (.p (.p N0 O1) N1) N2) (.e (.p N0 (.p N1 O1)) N2) hql)))
  ·rw[a0r]; simp[a0c]
  ·rw[hstep,hrr,Nat.add_mod,Nat.mul_mod,Nat.mod_mod,←Nat.mul_mod,←Nat.add_mod]
  ·rw[List.reverse_append]
   (simp only[List.reverse_singleton,List.singleton_append]; dsimp only[b0l])
   rw[hv,hstep,hrr];generalize a/2^(m*(k+1))=A;have e2:A*2^m+f=b*(2^m*(A/b))+(A%b*2^m+f):=by
    have h1:=Nat.div_add_mod A b;generalize A/b=q at *;generalize A%b=r at *;rw[←h1,Nat.add_mul,Nat.add_assoc,Nat.mul_assoc,Nat.mul_comm q]
   rw[e2,Nat.mul_add_div hb0,Nat.add_comm]
  ·intro d hd
   rcases List.mem_append.mp hd with hd|hd
   ·exact hq d hd
   ·rw[List.mem_singleton.mp hd,Nat.div_lt_iff_lt_mul hb0,Nat.mul_comm (2^m) b]; exact hnum
 ·rw[Nat.div_eq_of_lt hw]; simp
 ·rw[Nat.div_eq_of_lt hw]; (simp only[List.reverse_nil,Nat.zero_div]; rfl)
 ·rintro st ⟨k,r,qs,v1,v2,hk,hr,hrr,hv,hq,hql⟩
  have hk0:k=0:=by
   have:=congrArg List.length hr; simpa[a1g]using this.symm
  subst hk0;simp only[Nat.mul_zero,Nat.pow_zero,Nat.div_one]at hrr hv;refine wq2 ?_;simp![];refine⟨by rw[intsL_length]; exact a1s (.l N0 (.k 1000000)) (.l N1 (.k 800)) (.e (.p N0 (.k 0)) N1) hc9 hql,?_⟩
  refine wq2 ?_;simp![];simp only[b2y];have hle2:m*qs.length≤m*c:=Nat.mul_le_mul_left _ (by exact a1d (.l N0 N1) (.e (.p N0 (.k 0)) N1) hql)
  refine d5c (by omega) (fun d hd=>hq d (List.mem_reverse.mp hd)) (by simp; exact a1s (.l N0 (.k 900)) (.l N1 (.k 800)) (.e (.p N0 (.k 0)) N1) hc9 hql) (by simp; omega) ⟨⟨_,rfl⟩,?_⟩
  refine wq2 ?_;simp![];rw[hv,hrr];simpa using h
theorem c0l(a b:Int)(hb:0<b):((-a-1).fdiv b=-(a.fdiv b)-1)∧((-a-1).fmod b=b-a.fmod b-1):=by
 rw[Int.fdiv_eq_ediv_of_nonneg _ (by exact a2h (.l (.z 0) Z0) (.t (.z 0) Z0) hb),Int.fdiv_eq_ediv_of_nonneg _ (by exact a2h (.l (.z 0) Z0) (.t (.z 0) Z0) hb),Int.fmod_eq_emod_of_nonneg _ (by exact a2h (.l (.z 0) Z0) (.t (.z 0) Z0) hb),Int.fmod_eq_emod_of_nonneg _ (by exact a2h (.l (.z 0) Z0) (.t (.z 0) Z0) hb)]
 have h1:=Int.emod_nonneg a (by exact a2h (.n (.e Z0 (.z 0))) (.t (.z 0) Z0) hb:b≠0)
 have h2:=Int.emod_lt_of_pos a hb;have h3:=Int.mul_ediv_add_emod a b;refine(Int.ediv_emod_unique hb).mpr ⟨?_,by exact c7j (.l (.z 0) (.S (.S Z0 Z1) (.z 1))) (.t Z1 Z0) h2,by exact c7j (.t (.S (.S Z0 Z1) (.z 1)) Z0) (.l (.z 0) Z1) h1⟩
 have:b*(-(a/b)-1)=-(b*(a/b))-b:=by rw[Int.mul_sub,Int.mul_neg,Int.mul_one]
 omega
theorem c6w{n:Nat}{a:Int}{b:Nat}{ow:List OV}{Q:V→List OV→Prop}(hn:18≤n)(ha:a.natAbs<2^400)(hb:b<2^400)(hb0:0<b)
 (h:Q (.dat (.tuple [.int (a.fdiv b),.int (a.fmod b)])) ow):a1w n 5 true [] [.dat (.int a),.dat (.int b)] ow Q:=by
 obtain⟨l,rfl⟩:∃l,n=l+18:=⟨n-18,by omega⟩
 have key:∀(k:Nat),16≤k→∀(a:Nat) (Q:V→List OV→Prop),a<2^400→Q (.dat (.tuple [.int (a/b:Nat),.int (a%b:Nat)])) ow→a1w k 5 true [] [.dat (.int a),.dat (.int b)] ow Q:=by
  intro k hk a Q ha h;obtain⟨k,rfl⟩:∃l,k=l+16:=⟨k-16,by omega⟩
  refine⟨Nat.succ_pos _,fun _=>rfl,rfl,rfl,?_⟩;refine wq2 ?_;simp![]
  (refine ifn (by simp; exact a0j (.n (.e N0 (.k 0))) (.t (.k 0) N0) hb0) ?_; refine wq2 ?_)
  simp![]
  (refine ifn (by simp) ?_; refine wq2 ?_)
  simp![]
  (refine ifn (by simp) ?_; refine wq2 ?_)
  simp![];refine b4k (by omega) ha hb hb0 ⟨⟨_,rfl⟩,?_⟩
  simp![];simpa using h
 by_cases hneg:a<0
 ·refine⟨Nat.succ_pos _,fun _=>rfl,rfl,rfl,?_⟩
  dsimp only[L1.int_divmod,L1.int_divmod_nl];refine wq2 ?_;simp![]
  (refine ifn (by simp; exact a0j (.n (.e N0 (.k 0))) (.t (.k 0) N0) hb0) ?_; refine wq2 ?_)
  simp![]
  (refine ifn (by simp) ?_; refine wq2 ?_)
  simp![]
  (refine ifp (by simpa using hneg) ?_; refine wq2 ?_)
  simp![];obtain⟨a',rfl⟩:∃a':Nat,a=-(a':Int)-1:=let⟨m,e⟩:=Int.eq_negSucc_of_lt_zero hneg; ⟨m,e.trans (by rw[Int.negSucc_eq,Int.neg_add]; rfl)⟩
  have e1:Builtin.bitNot (-(a':Int)-1)=(a':Int):=by unfold Builtin.bitNot; omega
  rw[e1];refine key _ (by omega) a' _ (by exact a0j (.t N0 (.k (Nat.pow 2 400))) (.t (.u 1 (.S (.N (.c N0)) (.z 1))) (.k (Nat.pow 2 400))) ha) ⟨⟨_,rfl⟩,?_⟩
  simp![];refine wq2 ?_;simp![];have hd:=c0l (a':Int) b (by exact a0j (.t (.z 0) (.c N0)) (.t (.k 0) N0) hb0)
  have e2:Builtin.bitNot ((a'/b:Nat):Int)=(-(a':Int)-1).fdiv b:=by rw[hd.1,a1c]; unfold Builtin.bitNot; exact a1x (.e (.S (.N (.c N0)) (.z 1)) (.S (.N (.c N0)) (.z 1)))
  have e3:(b:Int)+Builtin.bitNot ((a'%b:Nat):Int)=(-(a':Int)-1).fmod b:=by rw[hd.2,a0t]; unfold Builtin.bitNot; exact b5v (.e (.P (.c N0) (.S (.N (.c N1)) (.z 1))) (.S (.S (.c N0) (.c N1)) (.z 1)))
  rw[e2,e3];simpa using h
 ·obtain⟨a',rfl⟩:=Int.eq_ofNat_of_zero_le (Int.not_lt.mp hneg)
  rw[a1c,a0t]at h;rw[Int.natAbs_natCast]at ha;exact key _ (by omega) a' Q ha h
theorem b9m{n:Nat}{a b:Int}{ow:List OV}{Q:V→List OV→Prop}(hn:19≤n)(ha:a.natAbs<2^400)(hb:b.natAbs<2^400)(hb0:b≠0)
 (h:Q (.dat (.tuple [.int (a.fdiv b),.int (a.fmod b)])) ow):a1w n 5 true [] [.dat (.int a),.dat (.int b)] ow Q:=by
 by_cases hneg:b<0
 ·obtain⟨b',rfl⟩:∃b':Nat,b=-(b':Int):=⟨b.natAbs,by rw[Int.ofNat_natAbs_of_nonpos (Int.le_of_lt hneg),Int.neg_neg]⟩
  obtain⟨l,rfl⟩:∃l,n=l+19:=⟨n-19,by omega⟩
  refine⟨Nat.succ_pos _,fun _=>rfl,rfl,rfl,?_⟩;dsimp only[L1.int_divmod,L1.int_divmod_nl];refine wq2 ?_;simp![]
  (refine ifn (by simp; exact a0j (.n (.e N0 (.k 0))) (.n (.e (.N (.c N0)) (.z 0))) hb0) ?_; refine wq2 ?_)
  simp![]
  (refine ifp (by simpa using hneg) ?_; refine wq2 ?_)
  simp![];rw[Int.neg_neg];refine c6w (by omega) (by rw[Int.natAbs_neg]; exact ha) (by rwa[Int.natAbs_neg,Int.natAbs_natCast]at hb) (by exact a0j (.t (.k 0) N0) (.n (.e (.N (.c N0)) (.z 0))) hb0) ⟨⟨_,rfl⟩,?_⟩
  simp![];refine wq2 ?_;simp![];have e2:a.fdiv (-(b':Int))=(-a).fdiv b':=by rw[←Int.neg_fdiv_neg,Int.neg_neg]
  have e3:a.fmod (-(b':Int))=-((-a).fmod b'):=by
   have h1:=Int.fmod_def a (-(b':Int));have h2:=Int.fmod_def (-a) (b':Int);rw[e2]at h1;rw[h1,h2,Int.neg_mul]; exact lc0 2 [] [_,_] (.e (.S Z0 (.N Z1)) (.N (.S (.N Z0) Z1)))
  rw[e2,e3]at h;simpa using h
 ·obtain⟨b',rfl⟩:=Int.eq_ofNat_of_zero_le (Int.not_lt.mp hneg)
  exact c6w (by omega) ha (by rwa[Int.natAbs_natCast]at hb) (Nat.pos_of_ne_zero fun e=>hb0 (by rw[e]; rfl)) h
theorem c4k{ow:List OV}{k:Nat}{x:OV}(h:ow[k]?=some x):ow.set k x=ow:=by
 obtain⟨h1,h2⟩:=List.getElem?_eq_some_iff.mp h;rw[←h2]; exact List.set_getElem_self _
noncomputable def vi:Nat→List Nat→Nat→Prop
 |_,[],_=>False
 |acc,o::r,v=>o<256∧if o/64%2=1 then vi (acc*64+o%64) r v else r=[]∧acc*64+o%64=v
theorem d3e:∀{os:List Nat} {acc v:Nat},vi acc os v→acc≤v
 |[],_,_,h=>h.elim
 |o::r,acc,v,h=>by
  obtain⟨_,h⟩:=h
  split at h
  ·have:=d3e h; exact a1z (.l N0 N1) (.l (.p (.m 1 64 N0) N2) N1) this
  ·exact a1z (.l N0 N1) (.e (.p (.m 1 64 N0) N2) N1) h.2
theorem c7c(b:Nat):Builtin.bitAnd (b:Int) 63=((b%64:Nat):Int):=by
 unfold Builtin.bitAnd;have h1:decide ((0:Int)≤(b:Int))=true:=by simp
 rw[h1]
 have:b &&& 63=b%64:=Nat.and_two_pow_sub_one_eq_mod b 6
 simp[this]
theorem d5h:∀b<256,b &&& 64=64*(b/64%2):=by decide +kernel
theorem c6q{b:Nat}(h:b<256):Builtin.bitAnd (b:Int) 64=((64*(b/64%2):Nat):Int):=by
 unfold Builtin.bitAnd;have h1:decide ((0:Int)≤(b:Int))=true:=by simp
 rw[h1];simp[d5h b h]
theorem d2k{a b:Nat}:Builtin.bitOr ((a:Int)*2^(6:Int).toNat) ((b%64:Nat):Int)=((a*64+b%64:Nat):Int):=by
 have:(a:Int)*2^(6:Int).toNat=((a*64:Nat):Int):=by simp
 rw[this];exact d1j (s:=6) (by omega) (by omega)
theorem whs{c:St→(Bool→St→Prop)→Prop}{b:St→(Fl→St→Prop)→Prop}{n:Nat}{st:St}{K:Fl→St→Prop}:a4r c b (n+1) st K=c st fun t st=>if t=true then b st (fun f st=>match f with
   |.next=>a4r c b n st K
   |.ret r=>K (.ret r) st)else K .next st:=rfl
theorem wqw{c:St→(Bool→St→Prop)→Prop}{b:St→(Fl→St→Prop)→Prop}{n:Nat}{st:St}{K:Fl→St→Prop}(h:c st fun t st=>if t=true then b st (fun f st=>match f with
 |.next=>a4r c b n st K
 |.ret r=>K (.ret r) st)else K .next st):a4r c b (n+1) st K:=h
theorem c4u{n k v:Nat}{C:St→(Bool→St→Prop)→Prop}{B:St→(Fl→St→Prop)→Prop}(hC:∀st K,C st K=wpT (a1w n) (.bin .band (.var 1) (.int 64)) st K)(hB:∀st K,B st K=a1n (a1w n) a0o (.cons (.aug 2 .shl (.int 6)) (.cons (.assign 1 (.next 0)) (.cons (.aug 2 .bor (.bin .band (.var 1) (.int 63))) .nil))) st K)(hv:v<2^400){rest:List d8e}{K:Fl→St→Prop}:∀(r:List Nat) (ow:List OV) (b acc fuel:Nat),r.length<fuel→(if b/64%2=1 then vi acc r v else r=[]∧acc=v)→b<256→
  ow[k]?=some (.iter (a0c r++rest))→(∀b',K .next ⟨[.own k,.dat (.int b'),.dat (.int v)],ow.set k (.iter rest),true⟩)→
  a4r C B fuel ⟨[.own k,.dat (.int b),.dat (.int acc)],ow,true⟩ K:=by
 intro r
 induction r with
 |nil=>
  intro ow b acc fuel hf hvi hb hk hK;obtain⟨fuel,rfl⟩:∃f,fuel=f+1:=⟨fuel-1,by simp at hf; exact a0j (.e N0 (.p (.s N0 O1) O1)) (.t (.k 0) N0) hf⟩
  split at hvi
  ·exact hvi.elim
  ·rename_i h1
   (refine wqw ?_; rw[hC])
   simp![]
   (rw[c6q hb]; refine ifn (by simp; omega) ?_)
   rw[hvi.2]
   have:=hK b
   rwa[c4k (by simpa[a0c]using hk)]at this
 |cons o r ih=>
  intro ow b acc fuel hf hvi hb hk hK;obtain⟨fuel,rfl⟩:∃f,fuel=f+1:=⟨fuel-1,by simp at hf; exact a1d (.e N0 (.p (.s N0 O1) O1)) (.t (.p N1 O1) N0) hf⟩
  rw[List.length_cons]at hf
  split at hvi
  ·rename_i h1
   (refine wqw ?_; rw[hC])
   simp![]
   (rw[c6q hb]; refine ifp (by simp; omega) ?_; rw[hB])
   have hav:acc≤v:=d3e hvi;have hbig:(2:Nat)^400≤2^4000:=Nat.pow_le_pow_right (by decide) (by decide)
   refine wq2 ?_;simp![];refine⟨⟨by omega,by omega,by rw[Int.natAbs_natCast]; exact Nat.lt_of_lt_of_le (Nat.lt_of_le_of_lt hav hv) hbig⟩,?_⟩
   have hk':ow[k]?=some (.iter (.int (o:Int)::(a0c r++rest))):=hk;refine wq2 ?_;simp![hk'];refine wq2 ?_;simp![];refine wq1 ?_;obtain⟨ho,hvi⟩:=hvi;rw[c7c,d2k];have hkl:k<ow.length:=(List.getElem?_eq_some_iff.mp hk).1;refine ih (ow.set k (.iter (a0c r++rest))) o (acc*64+o%64) fuel (by exact a1d (.t N0 N1) (.t (.p N0 O1) (.p N1 O1)) hf) ?_ ho (by simp[hkl]) fun b'=>?_
   ·exact hvi
   ·have:=hK b'
    rwa[List.set_set]
  ·exact absurd hvi.1 (by simp)
theorem a7o{n k v:Nat}{os:List Nat}{ow:List OV}{rest:List d8e}{Q:V→List OV→Prop}(hn:2≤n)(hv:v<2^400)(ho:vi 0 os v)(hk:ow[k]?=some (.iter (a0c os++rest)))(h:Q (.dat (.int v)) (ow.set k (.iter rest))) :
  a1w n 7 true [] [.own k] ow Q:=by
 obtain⟨l,rfl⟩:∃m,n=m+2:=⟨n-2,by omega⟩
 refine⟨Nat.succ_pos _,fun _=>rfl,rfl,rfl,?_⟩
 match os,ho with
 |o::r,ho=>
  obtain⟨h1,h2⟩:=ho;have hk':ow[k]?=some (.iter (.int (o:Int)::(a0c r++rest))):=hk;have hkl:k<ow.length:=(List.getElem?_eq_some_iff.mp hk).1;refine wq2 ?_;simp![hk'];refine wq2 ?_;simp![];refine wq2 ?_;refine Exists.intro (r.length+1) ?_;rw[c7c];refine c4u (rest:=rest) (fun _ _=>rfl) (fun _ _=>rfl) hv r _ o (o%64) _ (Nat.lt_succ_self _) ?_ h1 (by simp[hkl]) fun b'=>?_
  ·simpa only[Nat.zero_mul,Nat.zero_add]using h2
  ·refine wq2 ?_
   simp![];have e:(List.take ow.length ((ow.set k (.iter (a0c r++rest))).set k (.iter rest)))=ow.set k (.iter rest):=by
    rw[List.set_set,List.take_of_length_le (by simp)]
   rw[e];exact h
noncomputable def mk(l:List Nat):Str:=⟨l.toArray⟩
theorem mk_length(l:List Nat):(mk l).length=l.length:=by simp[mk,Str.length]
theorem a1a(l:List Nat):(mk l).cps.toList=l:=by simp[mk]
theorem d2v{a b:List Nat}(h:mk a=mk b):a=b:=by rw[←a1a a,h,a1a]
theorem mk_append(a b:List Nat):mk a++mk b=mk (a++b):=by
 apply Str.ext';apply Array.toList_inj.mp;simp[mk,Str.cps_append]
theorem mk_beq(a b:List Nat):(mk a==mk b)=(a==b):=by
 rw[Bool.eq_iff_iff,beq_iff_eq,beq_iff_eq];exact⟨d2v,fun h=>by rw[h]⟩
noncomputable def a9r(t p:List Nat)(hi i:Nat):Bool:=decide (i+p.length≤hi)&&((t.drop i).take p.length==p)
theorem at_iff{t p:List Nat}{hi i:Nat}:StrLaws.At (mk t) (mk p) hi i ↔ a9r t p hi i=true:=by
 unfold StrLaws.At a9r;rw[StrLaws.subAt_eq,a1a,a1a,mk_length,Bool.and_eq_true,decide_eq_true_eq]
theorem c5r(t p:List Nat)(a b:Nat):b8k (mk t) (mk p) (a:Int) (b:Int)=match (List.range' a (b+1-a)).find? (a9r t p b)with|some i=>(i:Int)|none=>-1:=by
 unfold b8k;rw[Int.toNat_natCast,Int.toNat_natCast,StrLaws.occ_eq]
 rcases StrLaws.occ_first (mk t) (mk p) b 1 (Nat.le_refl 1) (List.range' a (b+1-a)) a (fun i hi=>by simp[List.mem_range']at hi; omega)with⟨h0,hn⟩|⟨pre,i,post,e,h0,ha,hn⟩
 ·rw[h0]
  have:(List.range' a (b+1-a)).find? (a9r t p b)=none:=by
   rw[List.find?_eq_none];intro i hi h;exact hn i hi (at_iff.mpr h)
  rw[this]
 ·have:(List.range' a (b+1-a)).find? (a9r t p b)=some i:=by
   rw[e,List.find?_append,List.find?_eq_none.mpr (fun j hj h=>hn j hj (at_iff.mpr h)),List.find?_cons_of_pos (at_iff.mp ha)]
   rfl
  rw[this];rw[←Array.getElem?_toList]at h0;split
  ·rename_i j r ej
   rw[ej]at h0;simp at h0;rw[h0]
  ·rename_i ej
   rw[ej]at h0;simp at h0
theorem c1j(t p:List Nat):Txt.startswith (mk t) (mk p)=(t.take p.length==p):=by
 unfold Txt.startswith;rw[StrLaws.subAt_eq,a1a,a1a,mk_length,mk_length,List.drop_zero]
 by_cases h:p.length≤t.length
 ·rw[decide_eq_true (by exact a1d (.l (.p (.k 0) N0) N1) (.l N0 N1) h),Bool.true_and]
 ·rw[decide_eq_false (by exact a1d (.n (.l (.p (.k 0) N0) N1)) (.n (.l N0 N1)) h),Bool.false_and]
  symm
  rw[beq_eq_false_iff_ne];intro e
  have:=congrArg List.length e
  rw[List.length_take]at this; exact a1s .f (.n (.l N0 N1)) (.e (.b 2 N0 N1) N0) h this
theorem c7z(t p:List Nat):Txt.endswith (mk t) (mk p)=(decide (p.length≤t.length)&&(t.drop (t.length-p.length)==p)):=by
 unfold Txt.endswith;rw[StrLaws.subAt_eq,a1a,a1a,mk_length,mk_length,Nat.zero_add]
 by_cases h:p.length≤t.length
 ·rw[List.take_of_length_le (by simp; exact b5v (.l N0 (.p N1 (.s N0 N1))))]
 ·rw[decide_eq_false h,Bool.false_and,Bool.false_and]
theorem a4h(t p:List Nat):Txt.contains (mk t) (mk p)=true ↔ ∃i,a9r t p t.length i=true:=by
 unfold Txt.contains;rw[StrLaws.found_iff]
 have:(mk t).length=t.length:=mk_length t
 rw[this];exact⟨fun⟨i,h⟩=>⟨i,at_iff.mp h⟩,fun⟨i,h⟩=>⟨i,at_iff.mpr h⟩⟩
noncomputable def jn(sep:List Nat):List (List Nat)→List Nat
 |[]=>[]
 |[p]=>p
 |p::q::r=>p++(sep++jn sep (q::r))
theorem a8x(l:List Nat)(a b:Nat):Builtin.Str.strSub (mk l) a b=mk ((l.drop a).take (b-a)):=by
 apply Str.ext';apply Array.toList_inj.mp;rw[StrLaws.strSub_toList,a1a];simp[mk]
theorem b7b{L:List Nat}{c k:Nat}(hk:1≤k):∀(ps:List (List Nat)) (a f:Nat) (cuts:List Nat),a≤L.length→L.drop a=jn (List.replicate k c) ps→ps≠[]→(∀p∈ps,c∉p)→StrLaws.ChainG (mk L) (mk (List.replicate k c)) L.length a cuts f→
  (∀i,f≤i→¬StrLaws.At (mk L) (mk (List.replicate k c)) L.length i)→StrLaws.partsFrom (mk L) k a cuts=ps.map mk
 |[]=>fun _ _ _ _ _ h _ _ _=>absurd rfl h
 |[p]=>fun a f cuts hal hd _ hp hch hno=>by
  have hpc:=hp p (.head _)
  match cuts,hch with
  |[],hch=>
   simp only[StrLaws.partsFrom,List.map_cons,List.map_nil,a8x,mk_length,hd,jn];rw[List.take_of_length_le]
   have:=congrArg List.length hd
   simp[jn]at this; exact a1z (.l N0 (.s N1 N2)) (.e (.s N1 N2) N0) this
  |i::r,hch=>
   exfalso;obtain⟨h1,h2,_⟩:=hch;rw[at_iff,a9r,Bool.and_eq_true,decide_eq_true_eq,beq_iff_eq,List.length_replicate]at h2
   have:(L.drop i).take k=(p.drop (i-a)).take k:=by
    rw[show i=a+(i-a) from by exact a1d (.e N0 (.p N1 (.s N0 N1))) (.l N1 N0) h1,←List.drop_drop,hd]; simp[jn]
   rw[this]at h2;have hm:c∈(p.drop (i-a)).take k:=by rw[h2.2]; simp; exact a0j (.n (.e N0 (.k 0))) (.l O1 N0) hk
   exact hpc (List.mem_of_mem_drop (List.mem_of_mem_take hm))
 |p::q::r=>fun a f cuts hal hd _ hp hch hno=>by
  have hpc:=hp p (.head _);have hat:StrLaws.At (mk L) (mk (List.replicate k c)) L.length (a+p.length):=by
   have hlen:=congrArg List.length hd;simp only[jn,List.length_append,List.length_drop,List.length_replicate]at hlen;rw[at_iff,a9r,Bool.and_eq_true,decide_eq_true_eq,beq_iff_eq,List.length_replicate,←List.drop_drop,hd];refine⟨by exact lc2 5 [_,_,_,_,_] [] (.l (.p (.p N0 N1) N2) N3) (.l O1 N2) (.e (.s N3 N0) (.p N1 (.p N2 N4))) hk hlen,?_⟩
   simp only[jn];rw[List.drop_append_of_le_length (Nat.le_refl _),List.drop_length,List.nil_append,List.take_append_of_le_length (by simp),List.take_of_length_le (by simp)]
  match cuts,hch with
  |[],hch=>
   have e:f=a:=hch;exact absurd hat (hno _ (by exact a1z (.l N0 (.p N1 N2)) (.e N0 N1) e))
  |i::cs,hch=>
   obtain⟨h1,h2,h3,h4⟩:=hch;have hi:i=a+p.length:=by
    rcases Nat.lt_trichotomy i (a+p.length)with h|h|h
    ·exfalso
     rw[at_iff,a9r,Bool.and_eq_true,decide_eq_true_eq,beq_iff_eq,List.length_replicate]at h2;have e1:(L.drop i)[0]?=some c:=by
      have:((L.drop i).take k)[0]?=some c:=by rw[h2.2,List.getElem?_replicate,if_pos (by omega)]
      rwa[List.getElem?_take_of_lt (by omega)]at this
     rw[show i=a+(i-a) from by exact a1d (.e N0 (.p N1 (.s N0 N1))) (.l N1 N0) h1,←List.drop_drop,hd,List.getElem?_drop]at e1
     simp only[jn,Nat.add_zero]at e1;rw[List.getElem?_append_left (by exact a2q (.t (.s N0 N1) N2) (.l N1 N0) (.t N0 (.p N1 N2)) h1 h)]at e1
     exact hpc (List.mem_of_getElem? e1)
    ·exact h
    ·exact absurd hat (h3 _ (by exact b5v (.l N0 (.p N0 N1))) h)
   subst hi;rw[mk_length,List.length_replicate]at h4;have hd2:L.drop (a+p.length+k)=jn (List.replicate k c) (q::r):=by
    rw[Nat.add_assoc,←List.drop_drop,hd];simp only[jn];rw[←List.drop_drop,List.drop_append_of_le_length (Nat.le_refl _),List.drop_length,List.nil_append,List.drop_append_of_le_length (by simp)]
    simp
   rw[at_iff,a9r,Bool.and_eq_true,decide_eq_true_eq,List.length_replicate]at h2;have ih:=b7b hk (q::r) (a+p.length+k) f cs (by omega) hd2 (by simp) (fun x hx=>hp x (.tail _ hx)) h4 hno
   simp only[StrLaws.partsFrom,ih,List.map_cons,a8x,hd,jn];rw[Nat.add_sub_cancel_left,List.take_append_of_le_length (Nat.le_refl _),List.take_length]
theorem c5z{c k:Nat}(hk:1≤k)(hc:c<256){ps:List (List Nat)}(h0:ps≠[])(hp:∀p∈ps,c∉p):Txt.split (mk (jn (List.replicate k c) ps)) (mk (List.replicate k c))=ps.map mk:=by
 generalize hL:jn (List.replicate k c) ps=L;obtain⟨f,hG,hn⟩:=StrLaws.occ_tight (mk L) (mk (List.replicate k c)) (by rw[mk_length]; simpa using hk)
 rw[mk_length]at hG hn;have key:=b7b hk ps 0 f _ (Nat.zero_le _) (by rw[List.drop_zero,hL]) h0 hp hG hn
 have hkind:Builtin.Str.strKind (mk (List.replicate k c))=1:=by
  unfold Builtin.Str.strKind;rw[if_pos];rw[←Array.all_toList,a1a,List.all_eq_true];intro x hx;rw[List.eq_of_mem_replicate hx]; exact decide_eq_true hc
 have hkind2:1≤Builtin.Str.strKind (mk L):=by
  unfold Builtin.Str.strKind;split
  ·omega
  ·split <;> (first|exact a5f (.l O1 (.k 2))|exact a5f (.l O1 (.k 4))|omega)
 have none:Builtin.Str.occurrences (mk L) (mk (List.replicate k c)) 0 L.length (L.length+1)=[]→[mk L]=ps.map mk:=fun h=>by
  rw[h]at key;rw[←key];simp only[StrLaws.partsFrom,a8x,mk_length];simp
 unfold Txt.split;rw[mk_length];split
 ·rename_i h1
  rw[hkind]at h1;refine none ?_;cases ho:Builtin.Str.occurrences (mk L) (mk (List.replicate k c)) 0 L.length (L.length+1)with
  |nil=>rfl
  |cons i r=>
   rw[ho]at hG
   have:=hG.2.1.1
   simp only[Bool.or_eq_true,decide_eq_true_eq]at h1;omega
 ·split
  ·rename_i h2
   exact none (List.isEmpty_iff.mp h2)
  ·rw[StrLaws.partsBetween_eq,mk_length,List.length_replicate]
   exact key
theorem b6f{c k:Nat}(hk:1≤k):∀{ps:List (List Nat)},(∀p∈ps,c∉p)→Txt.contains (mk (jn (List.replicate k c) ps)) (mk (List.replicate k c))=decide (2≤ps.length)
 |[]=>fun _=>by
  rw[Bool.eq_iff_iff,a4h,decide_eq_true_eq];refine⟨fun⟨i,h⟩=>?_,fun h=>by simp at h⟩
  simp[a9r,jn]at h; exact a2q (.l (.k 2) N0) (.l O1 N1) (.a (.e N2 (.k 0)) (.e N1 (.k 0))) hk h
 |[p]=>fun hp=>by
  rw[Bool.eq_iff_iff,a4h,decide_eq_true_eq];refine⟨fun⟨i,h⟩=>?_,fun h=>by simp at h⟩
  exfalso;rw[a9r,Bool.and_eq_true,decide_eq_true_eq,beq_iff_eq,List.length_replicate]at h;have hm:c∈(p.drop i).take k:=by
   have:=h.2; simp only[jn]at this; rw[this]; simp; exact a0j (.n (.e N0 (.k 0))) (.l O1 N0) hk
  exact hp p (.head _) (List.mem_of_mem_drop (List.mem_of_mem_take hm))
 |p::q::r=>fun hp=>by
  rw[Bool.eq_iff_iff,a4h,decide_eq_true_eq];refine⟨fun _=>by simp,fun _=>⟨p.length,?_⟩⟩
  rw[a9r,Bool.and_eq_true,decide_eq_true_eq,beq_iff_eq,List.length_replicate];simp only[jn,List.length_append,List.length_replicate];refine⟨by exact lc0 3 [_,_,_] [] (.l (.p N0 N1) (.p N0 (.p N1 N2))),?_⟩
  rw[List.drop_append_of_le_length (Nat.le_refl _),List.drop_length,List.nil_append,List.take_append_of_le_length (by simp),List.take_of_length_le (by simp)]
noncomputable def hdE(t E:List Nat):Nat:=E.headD (t.length+1)
noncomputable def a3s(t E p:List Nat):List Nat:=(List.range' (hdE t E+p.length) (t.length+1-(hdE t E+p.length))).filter fun e=>(t.take e).drop (e-p.length)==p
noncomputable def a1y(ps:List (List Nat))(t:List Nat):Bool:=match ps with
 |[]=>false
 |p::r=>(r.foldl (a3s t) (if t.take p.length==p then[p.length]else[])).contains t.length
noncomputable def a4a(t:List Nat)(e:Nat):Nat→List (List Nat)→Bool
 |_,[]=>true
 |s,w::ws=>match (List.range' s (e+1-s)).find? (a9r t w e)with
  |some i=>a4a t e (i+w.length) ws
  |none=>false
theorem mat{t p:List Nat}{e:Nat}(he:e≤t.length)(hp:p.length≤e):((t.take e).drop (e-p.length)==p)=((t.drop (e-p.length)).take p.length==p):=by
 rw[List.drop_take,show e-(e-p.length)=p.length from by exact a1d (.e (.s N0 (.s N0 N1)) N1) (.l N1 N0) hp]
theorem rng{s e T:Nat}(h:s≤e∧e<s+(T+1-s)):s≤e∧e≤T:=by exact a1z (.a (.l N0 N1) (.l N1 N2)) (.a (.l N0 N1) (.t N1 (.p N0 (.s (.p N2 O1) N0)))) h
theorem d7v{s e T:Nat}(h:s≤e)(h2:e≤T):s≤e∧e<s+(T+1-s):=by exact a2q (.a (.l N0 N1) (.t N1 (.p N0 (.s (.p N2 O1) N0)))) (.l N0 N1) (.l N1 N2) h h2
theorem a6t(t E p:List Nat):(∃j,hdE t E≤j∧j+p.length≤t.length∧hdE t (a3s t E p)=j+p.length∧(t.drop j).take p.length=p∧∀i,hdE t E≤i→i<j→¬(t.drop i).take p.length=p) ∨
  (hdE t (a3s t E p)=t.length+1∧∀i,hdE t E≤i→i+p.length≤t.length→¬(t.drop i).take p.length=p):=by
 generalize hs:hdE t E=s;have hh:hdE t (a3s t E p)=((List.range' (s+p.length) (t.length+1-(s+p.length))).find? fun e=>(t.take e).drop (e-p.length)==p).getD (t.length+1):=by
  conv=>lhs; unfold hdE
  rw[a3s,hs,List.headD_eq_head?_getD,List.head?_filter]
 rw[hh];cases hf:(List.range' (s+p.length) (t.length+1-(s+p.length))).find? fun e=>(t.take e).drop (e-p.length)==p with
 |none=>
  refine .inr ⟨rfl,fun i h1 h2 h3=>?_⟩;rw[List.find?_eq_none]at hf;refine hf (i+p.length) (List.mem_range'_1.mpr (d7v (Nat.add_le_add_right h1 _) h2)) ?_;rw[mat h2 (by exact b5v (.l N0 (.p N1 N0))),Nat.add_sub_cancel,h3,beq_self_eq_true]
 |some e=>
  rw[List.find?_range'_eq_some]at hf;obtain⟨h1,h2,h3⟩:=hf;rw[List.mem_range'_1]at h2
  replace h2:=rng h2
  refine .inl ⟨e-p.length,by exact b0s (.l N0 (.s N1 N2)) (.a (.l (.p N0 N2) N1) (.l N1 N3)) h2,by exact b0s (.l (.p (.s N0 N1) N1) N2) (.a (.l (.p N3 N1) N0) (.l N0 N2)) h2,by simp; exact b0s (.e N0 (.p (.s N0 N1) N1)) (.a (.l (.p N2 N1) N0) (.l N0 N3)) h2,?_,fun i hi1 hi2 hi3=>?_⟩
  ·rw[mat (by omega) (by exact b0s (.l N0 N1) (.a (.l (.p N2 N0) N1) (.l N1 N3)) h2),beq_iff_eq]at h1; exact h1
  ·have:=h3 (i+p.length) (by exact a1z (.l (.p N0 N1) (.p N2 N1)) (.l N0 N2) hi1) (by exact a1z (.t (.p N0 N1) N2) (.t N0 (.s N2 N1)) hi2)
   rw[mat (by exact lc2 5 [_,_,_,_,_] [] (.l (.p N0 N1) N2) (.a (.l (.p N3 N1) N4) (.l N4 N2)) (.t N0 (.s N4 N1)) h2 hi2) (by exact b5v (.l N0 (.p N1 N0))),Nat.add_sub_cancel,hi3,beq_self_eq_true]at this
   cases this
theorem d6i(t E p:List Nat):hdE t E≤t.length+1→hdE t E≤hdE t (a3s t E p):=fun h=>by
 rcases a6t t E p with⟨j,h1,_,h3,_⟩|⟨h1,_⟩ <;> (first|exact b2z (.l N0 N1) (.l N0 N2) (.e N1 (.p N2 N3)) h1 h3|exact a2q (.l N0 N1) (.l N0 (.p N2 O1)) (.e N1 (.p N2 O1)) h h1|omega)
theorem last_mem{t E q:List Nat}:(a3s t E q).contains t.length=true ↔ hdE t E+q.length≤t.length∧t.drop (t.length-q.length)=q:=by
 rw[List.contains_iff_mem,a3s,List.mem_filter,List.mem_range'_1,beq_iff_eq,List.take_of_length_le (Nat.le_refl _)];constructor
 ·rintro⟨⟨h1,h2⟩,h3⟩; exact⟨by omega,h3⟩
 ·rintro⟨h1,h3⟩; exact⟨⟨by omega,by exact lc0 3 [_,_,_] [] (.t N0 (.p (.p N1 N2) (.s (.p N0 O1) (.p N1 N2))))⟩,h3⟩
theorem a6a{t q:List Nat}:∀(ms:List (List Nat)) (E:List Nat),t.length<hdE t E+q.length→hdE t E≤t.length+1→((ms++[q]).foldl (a3s t) E).contains t.length=false
 |[]=>fun E h _=>by
  rw[←Bool.not_eq_true,List.nil_append,List.foldl_cons,List.foldl_nil,last_mem]; omega
 |m::ms=>fun E h h2=>by
  rw[List.cons_append,List.foldl_cons]
  have:=d6i t E m h2
  refine a6a ms _ (by exact b2z (.t N0 (.p N1 N2)) (.t N0 (.p N3 N2)) (.l N3 N1) h this) ?_
  rcases a6t t E m with⟨j,h1,_,h3,_⟩|⟨h1,_⟩ <;> (first|exact b2z (.l N0 (.p N1 O1)) (.l (.p N2 N3) N1) (.e N0 (.p N2 N3)) ‹_› h3|exact a1d (.l N0 (.p N1 O1)) (.e N0 (.p N1 O1)) h1|omega)
theorem c0j{t q:List Nat}(ms:List (List Nat))(E:List Nat)(h:((ms++[q]).foldl (a3s t) E).contains t.length=true):q.length≤t.length∧t.drop (t.length-q.length)=q:=by
 rw[List.foldl_append,List.foldl_cons,List.foldl_nil,last_mem]at h;exact⟨by exact a1z (.l N0 N1) (.l (.p N2 N0) N1) h.1,h.2⟩
theorem b0r{t q:List Nat}{e:Nat}(hq:q.length≤t.length)(he:e=t.length-q.length)(hd:t.drop e=q):∀(ms:List (List Nat)) (E:List Nat),hdE t E≤e→a4a t e (hdE t E) ms=((ms++[q]).foldl (a3s t) E).contains t.length
 |[]=>fun E h=>by
  rw[List.nil_append,List.foldl_cons,List.foldl_nil,last_mem.mpr ⟨by exact c3r (.l (.p N0 N1) N2) (.l N1 N2) (.e N3 (.s N2 N1)) (.l N0 N3) hq he h,by rw[←he]; exact hd⟩]; rfl
 |m::ms=>fun E h=>by
  (rw[List.cons_append,List.foldl_cons]; dsimp only[a4a])
  split
  ·rename_i i hf
   rw[List.find?_range'_eq_some]at hf;obtain⟨h1,h2,h3⟩:=hf;rw[List.mem_range'_1]at h2;rw[a9r,Bool.and_eq_true,decide_eq_true_eq,beq_iff_eq]at h1;have hh:hdE t (a3s t E m)=i+m.length:=by
    rcases a6t t E m with⟨j,g1,g2,g3,g4,g5⟩|⟨g1,g2⟩
    ·rcases Nat.lt_trichotomy i j with h|h|h
     ·exact absurd h1.2 (g5 i h2.1 h)
     ·rw[g3,h]
     ·have:=h3 j g1 h
      rw[a9r,decide_eq_true (by exact b2z (.l (.p N0 N1) N2) (.l (.p N3 N1) N2) (.t N0 N3) h1.1 h),g4,beq_self_eq_true]at this
      cases this
    ·exact absurd h1.2 (g2 i h2.1 (by exact lc2 5 [_,_,_,_,_] [] (.l (.p N0 N1) N2) (.e N3 (.s N2 N4)) (.l (.p N0 N1) N3) he h1.1))
   rw[←hh];exact b0r hq he hd ms _ (by exact b2z (.l N0 N1) (.l (.p N2 N3) N1) (.e N0 (.p N2 N3)) h1.1 hh)
  ·rename_i hf
   rw[List.find?_eq_none]at hf
   symm
   refine a6a ms _ ?_ ?_
   ·rcases a6t t E m with⟨j,g1,g2,g3,g4,g5⟩|⟨g1,g2⟩
    ·rcases Nat.lt_or_ge e (j+m.length)with h|h
     ·exact lc3 6 [_,_,_,_,_,_] [] (.t N0 (.p N1 N2)) (.e N3 (.s N0 N2)) (.e N1 (.p N4 N5)) (.t N3 (.p N4 N5)) he g3 h
     ·exact absurd (show a9r t m e j=true from by rw[a9r,decide_eq_true h,g4,beq_self_eq_true]; rfl) (hf j (by rw[List.mem_range'_1]; exact b2z (.a (.l N0 N1) (.t N1 (.p N0 (.s (.p N2 O1) N0)))) (.l N0 N1) (.l (.p N1 N3) N2) g1 h))
    ·exact a1z (.t N0 (.p N1 N2)) (.e N1 (.p N0 O1)) g1
   ·rcases a6t t E m with⟨j,g1,g2,g3,g4,g5⟩|⟨g1,g2⟩ <;> (first|exact b2z (.l N0 (.p N1 O1)) (.l (.p N2 N3) N1) (.e N0 (.p N2 N3)) g2 g3|exact a1d (.l N0 (.p N1 O1)) (.e N0 (.p N1 O1)) g1|omega)
theorem b4y{t:List Nat}{e s:Nat}(h:s≤e)(ws:List (List Nat)):a4a t e s ([]::ws)=a4a t e s ws:=by
 dsimp only[a4a]
 have:(List.range' s (e+1-s)).find? (a9r t [] e)=some s:=by
  rw[List.find?_range'_eq_some];refine⟨by simp[a9r,h],by rw[List.mem_range'_1]; exact a1d (.a (.l N0 N0) (.t N0 (.p N0 (.s (.p N1 O1) N0)))) (.l N0 N1) h,fun j h1 h2=>by omega⟩
 rw[this]; rfl
theorem b0c{t:List Nat}{e:Nat}:∀(ws:List (List Nat)) (s:Nat),s≤e→a4a t e s (ws++[[]])=a4a t e s ws
 |[]=>fun s h=>by rw[List.nil_append,b4y h]
 |w::ws=>fun s h=>by
  (rw[List.cons_append]; dsimp only[a4a])
  split
  ·rename_i i hf
   rw[List.find?_range'_eq_some]at hf;have h1:=hf.1;rw[a9r,Bool.and_eq_true,decide_eq_true_eq]at h1;exact b0c ws _ h1.1
  ·rfl
noncomputable def d0z(t p:List Nat)(ms:List (List Nat))(q:List Nat):Bool:=
 if t.take p.length=p then
  if q.length≤t.length∧t.drop (t.length-q.length)=q then
   if t.length-q.length<p.length then false
   else a4a t (t.length-q.length) p.length ((if p=[]then[[]]else[])++ms++(if q=[]then[[]]else[]))
  else false
 else false
theorem c5i(t p:List Nat)(ms:List (List Nat))(q:List Nat):d0z t p ms q=a1y (p::(ms++[q])) t:=by
 unfold d0z a1y
 by_cases h1:t.take p.length=p
 ·have h1':(t.take p.length==p)=true:=by rw[h1,beq_self_eq_true]
  simp only[if_pos h1,if_pos h1'];have hpl:p.length≤t.length:=by
   have:=congrArg List.length h1; rw[List.length_take]at this; exact a1d (.l N0 N1) (.e (.b 2 N0 N1) N0) this
  by_cases h2:q.length≤t.length∧t.drop (t.length-q.length)=q
  ·rw[if_pos h2]
   by_cases h3:t.length-q.length<p.length
   ·rw[if_pos h3]
    symm
    exact a6a ms _ (by simp[hdE]; exact a1z (.t N0 (.p N1 N2)) (.t (.s N0 N2) N1) h3) (by simp[hdE]; exact a1d (.l N0 (.p N1 O1)) (.l N0 N1) hpl)
   ·rw[if_neg h3]
    have e1:a4a t (t.length-q.length) p.length ((if p=[]then[[]]else[])++ms++(if q=[]then[[]]else[]))=a4a t (t.length-q.length) p.length ms:=by
     have e2:a4a t (t.length-q.length) p.length ((if p=[]then[[]]else[])++ms++(if q=[]then[[]]else[]))=a4a t (t.length-q.length) p.length ((if p=[]then[[]]else[])++ms):=by
      by_cases hq0:q=[]
      ·(rw[if_pos hq0]; rw[b0c _ _ (by omega)])
      ·(rw[if_neg hq0]; rw[List.append_nil])
     rw[e2]
     by_cases hp0:p=[]
     ·rw[if_pos hp0]; exact b4y (by omega) ms
     ·(rw[if_neg hp0]; rw[List.nil_append])
    rw[e1];exact b0r (E:=[p.length]) h2.1 rfl h2.2 ms (by simp[hdE]; omega)
  ·rw[if_neg h2]
   symm
   rw[←Bool.not_eq_true];exact fun h=>h2 (c0j ms _ h)
 ·rw[if_neg h1]
  symm
  have h1':¬(t.take p.length==p)=true:=by rw[beq_iff_eq]; exact h1
  simp only[if_neg h1'];exact a6a ms _ (by simp[hdE]; exact b5v (.t N0 (.p (.p N0 O1) N1))) (by simp[hdE])
theorem c4m(t p:List Nat):(p==t)=a1y [p] t:=by
 show(p==t)=(if (t.take p.length==p)=true then[p.length]else[]).contains t.length
 rw[Bool.eq_iff_iff,beq_iff_eq];constructor
 ·rintro rfl; simp
 ·intro h
  split at h
  ·rename_i h1
   rw[beq_iff_eq]at h1;have h2:t.length=p.length:=by simpa using h
   rw[←h1,←h2,List.take_length]
  ·simp at h
theorem a3u{α:Type}{g:α→d8e}{body:d8e→St→(Fl→St→Prop)→Prop}{K:Fl→St→Prop}(I:List α→St→Prop)(hs:∀a r st (K':Fl→St→Prop),I (a::r) st→(∀st',I r st'→K' .next st')→(∀d st',K (.ret d) st'→K' (.ret d) st')→body (g a) st K'):∀(l:List α) (st:St),I l st→(∀st',I [] st'→K .next st')→b3u body (l.map g) st K
 |[]=>fun st h hk=>hk st h
 |a::l=>fun st h hk=>hs a l st _ h (fun st' h'=>a3u I hs l st' h' hk) fun _ _ h=>h
theorem b0w{α:Type}{g:α→d8e}{body:d8e→St→List d8e→(List d8e→St→Prop)→Prop}{K:List d8e→St→Prop}(f:α→d8e)(I:St→Prop):∀(l:List α) (hs:∀a∈l,∀st acc K,I st→acc.length<1000000→(∀st',I st'→K (acc++[f a]) st')→body (g a) st acc K) (st:St) (acc:List d8e),I st→acc.length+l.length≤1000000→(∀st',I st'→K (acc++l.map f) st')→a1q body (l.map g) st acc K
 |[]=>fun hs st acc h hl hk=>by have:=hk st h; simp at this; exact this
 |d::ds=>fun hs st acc h hl hk=>by
  rw[List.length_cons]at hl;refine hs d (.head _) st acc _ h (by exact a1d (.t N0 (.k 1000000)) (.l (.p N0 (.p N1 O1)) (.k 1000000)) hl) fun st' h'=>?_
  refine b0w f I ds (fun d hd=>hs d (.tail _ hd)) st' (acc++[f d]) h' (by simp; exact a1d (.l (.p (.p N0 O1) N1) (.k 1000000)) (.l (.p N0 (.p N1 O1)) (.k 1000000)) hl) fun st2 h2=>?_
  have:=hk st2 h2
  simpa using this
theorem b0g{α:Type}{g:α→d8e}{body:d8e→St→List d8e→(List d8e→St→Prop)→Prop}{K:List d8e→St→Prop}(p:α→Bool)(f:α→d8e)(I:St→Prop):∀(l:List α) (hs:∀a∈l,∀st acc K,I st→acc.length<1000000→(∀st',I st'→K (if p a then acc++[f a]else acc) st')→body (g a) st acc K) (st:St) (acc:List d8e),I st→acc.length+l.length≤1000000→(∀st',I st'→K (acc++(l.filter p).map f) st')→a1q body (l.map g) st acc K
 |[]=>fun hs st acc h hl hk=>by have:=hk st h; simp at this; exact this
 |d::ds=>fun hs st acc h hl hk=>by
  rw[List.length_cons]at hl;refine hs d (.head _) st acc _ h (by exact a1d (.t N0 (.k 1000000)) (.l (.p N0 (.p N1 O1)) (.k 1000000)) hl) fun st' h'=>?_
  refine b0g p f I ds (fun d hd=>hs d (.tail _ hd)) st' (if p d then acc++[f d]else acc) h' (by cases p d <;> simp <;> (first|exact a1d (.l (.p N0 N1) (.k 1000000)) (.l (.p N0 (.p N1 O1)) (.k 1000000)) hl|exact a1d (.l (.p (.p N0 O1) N1) (.k 1000000)) (.l (.p N0 (.p N1 O1)) (.k 1000000)) hl|omega)) fun st2 h2=>?_
  have:=hk st2 h2
  cases hp:p d <;> simp[hp]at this ⊢ <;> exact this
theorem a9f{α:Type}{g:α→d8e}{body:d8e→St→List d8e→(List d8e→St→Prop)→Prop}{K:List d8e→St→Prop}(f:α→List d8e)(I:St→Prop):∀(l:List α) (hs:∀a∈l,∀st acc K,I st→acc.length+(f a).length≤1000000→(∀st',I st'→K (acc++f a) st')→body (g a) st acc K) (st:St) (acc:List d8e),I st→acc.length+(l.flatMap f).length≤1000000→(∀st',I st'→K (acc++l.flatMap f) st')→a1q body (l.map g) st acc K
 |[]=>fun hs st acc h hl hk=>by have:=hk st h; simp at this; exact this
 |d::ds=>fun hs st acc h hl hk=>by
  rw[List.flatMap_cons,List.length_append]at hl;refine hs d (.head _) st acc _ h (by exact a1z (.l (.p N0 N1) (.k 1000000)) (.l (.p N0 (.p N1 N2)) (.k 1000000)) hl) fun st' h'=>?_
  refine a9f f I ds (fun d hd=>hs d (.tail _ hd)) st' (acc++f d) h' (by rw[List.length_append]; exact a1z (.l (.p (.p N0 N1) N2) (.k 1000000)) (.l (.p N0 (.p N1 N2)) (.k 1000000)) hl) fun st2 h2=>?_
  have:=hk st2 h2
  simpa[List.flatMap_cons]using this
def lpF(Γ:Ctx)(t:T)(g:G):d8e→St→List d8e→(List d8e→St→Prop)→Prop:=fun d st acc K=>bindT t d st fun st=>wpG Γ g st acc K
def d4p(Γ:Ctx)(t:T)(c:E)(g:G):d8e→St→List d8e→(List d8e→St→Prop)→Prop:=fun d st acc K=>bindT t d st fun st=>wpT Γ c st fun b st=>if b=true then wpG Γ g st acc K else K acc st
def lpS(Γ:Ctx)(tk:List (d8e×d8e))(t:T)(b:Ss):d8e→St→(Fl→St→Prop)→Prop:=fun d st K=>bindT t d st fun st=>a1n Γ tk b st K
def lpC(Γ:Ctx)(c:E):St→(Bool→St→Prop)→Prop:=fun st K=>wpT Γ c st K
def lpW(Γ:Ctx)(tk:List (d8e×d8e))(b:Ss):St→(Fl→St→Prop)→Prop:=fun st K=>a1n Γ tk b st K
section
variable {Γ:Ctx} {tk:List (d8e×d8e)}
theorem wpG_elt'{e:E}{st:St}{K:List d8e→St→Prop}:wpG Γ (.elt e) st acc K=wpE Γ e st fun v st=>keepV st v fun d st=>acc.length<1000000∧K (acc++[d]) st:=rfl
theorem wpG_for'{t:T}{it:I}{g:G}{st:St}{K:List d8e→St→Prop}:wpG Γ (.for t it g) st acc K=wpI Γ it st fun ds st=>a1q (lpF Γ t g) ds st acc K:=rfl
theorem wpG_forIf'{t:T}{it:I}{c:E}{g:G}{st:St}{K:List d8e→St→Prop}:wpG Γ (.forIf t it c g) st acc K=wpI Γ it st fun ds st=>a1q (d4p Γ t c g) ds st acc K:=rfl
theorem d4v{t:T}{it:I}{b:Ss}{st:St}{Q:Fl→St→Prop}:wpS Γ tk (.for t it b) st Q=wpI Γ it st fun ds st=>b3u (lpS Γ tk t b) ds st Q:=rfl
theorem wqf{t:T}{it:I}{b:Ss}{st:St}{Q:Fl→St→Prop}(h:wpI Γ it st fun ds st=>b3u (lpS Γ tk t b) ds st Q):wpS Γ tk (.for t it b) st Q:=h
theorem lqF{t:T}{g:G}{st:St}{K:List d8e→St→Prop}(h:bindT t d st fun st=>wpG Γ g st acc K):lpF Γ t g d st acc K:=h
theorem lqS{t:T}{b:Ss}{st:St}{K:Fl→St→Prop}(h:bindT t d st fun st=>a1n Γ tk b st K):lpS Γ tk t b d st K:=h
theorem b7y{c:E}{b:Ss}{st:St}{Q:Fl→St→Prop}:wpS Γ tk (.while c b) st Q=∃n,a4r (lpC Γ c) (lpW Γ tk b) n st Q:=rfl
end
noncomputable def a0i(ps:List (List Nat)):List d8e:=ps.map fun p=>.str (mk p)
theorem strsL_length(ps:List (List Nat)):(a0i ps).length=ps.length:=by simp[a0i]
theorem b1s(a n:Nat):b9b (a:Int) n=a0c (List.range' a n):=by
 unfold b9b a0c;rw[List.range'_eq_map_range,List.map_map];apply List.map_congr_left;intro k _;show PyData.int _=PyData.int _
 congr 1
theorem a0x{n k:Nat}(h:k<n):a1i n (k:Int)=some k:=by unfold a1i; (rw[if_pos (by exact a1x (.l (.z 0) (.c N0)))]; rw[if_pos (by simpa using h)]); simp
theorem c1o{n:Nat}(h:0<n):a1i n 0=some 0:=a0x (k:=0) h
theorem d0j{n:Nat}(h:0<n):a1i n (-1)=some (n-1):=by unfold a1i; (rw[if_neg (by omega)]; rw[if_pos (by exact a0j (.l (.N (.c N0)) (.z (Int.neg 1))) (.t (.k 0) N0) h)]); congr 1; exact a1x (.e (.u 0 (.P (.z (Int.neg 1)) (.c N0))) (.s N0 O1))
theorem cut_to{α:Type}(l:List α)(k:Nat):cut l none (some (k:Int))=l.take k:=by
 unfold cut c2s;simp only[List.drop_zero]
 (rw[if_pos (by exact a1x (.l (.z 0) (.c N0)))]; rw[Int.toNat_natCast])
 rcases Nat.le_total k l.length with h|h
 ·rw[Nat.min_eq_left h]
 ·rw[Nat.min_eq_right h,List.take_of_length_le h,List.take_of_length_le (Nat.le_refl _)]
theorem b2a{α:Type}(l:List α)(k:Nat):cut l (some (k:Int)) none=l.drop k:=by
 unfold cut c2s;simp only[List.take_length]
 (rw[if_pos (by exact a1x (.l (.z 0) (.c N0)))]; rw[Int.toNat_natCast])
 rcases Nat.le_total k l.length with h|h
 ·rw[Nat.min_eq_left h]
 ·rw[Nat.min_eq_right h,List.drop_of_length_le h,List.drop_of_length_le (Nat.le_refl _)]
theorem c3n{α:Type}(l:List α){a b:Nat}(ha:a≤l.length)(hb:b≤l.length):cut l (some (a:Int)) (some (b:Int))=(l.take b).drop a:=by
 unfold cut c2s;simp only
 (rw[if_pos (by exact a1x (.l (.z 0) (.c N0)))]; rw[if_pos (by exact a1x (.l (.z 0) (.c N0)))]; rw[Int.toNat_natCast,Int.toNat_natCast,Nat.min_eq_left ha,Nat.min_eq_left hb])
theorem a5o{α:Type}(l:List α):cut l none (some (-1))=l.dropLast:=by
 unfold cut c2s;simp only[List.drop_zero]
 (rw[if_neg (by omega)]; rw[List.dropLast_eq_take])
 congr 1; exact a1x (.e (.u 0 (.P (.z (Int.neg 1)) (.c N0))) (.s N0 O1))
theorem sl_mk(t:List Nat)(lo hi:Option Int):(⟨(cut (mk t).cps.toList lo hi).toArray⟩:Str)=mk (cut t lo hi):=by rw[a1a]; rfl
def shp(k:Nat)(d:d8e):Prop:=d.canLay0=true∧d.depth≤k
theorem a6x(k:Nat)(i:Int):shp k (.int i):=⟨rfl,Nat.zero_le _⟩
theorem a7w(k:Nat)(b:Bool):shp k (.bool b):=⟨rfl,Nat.zero_le _⟩
theorem b9w(k:Nat){t:List Nat}(h:∀c∈t,c<256):shp k (.str (mk t)):=⟨by
 show PyData.strOk (mk t)=true;unfold PyData.strOk;rw[←Array.all_toList,a1a,List.all_eq_true];intro c hc
 have:=h c hc
 exact decide_eq_true (by exact a0j (.t N0 (.k 1114112)) (.t N0 (.k 256)) this),Nat.zero_le _⟩
theorem a8n{k:Nat}:∀{l:List d8e},(∀d∈l,shp k d)→PyData.canLayAll0 l=true∧PyData.depthAll l≤k
 |[]=>fun _=>⟨rfl,Nat.zero_le _⟩
 |d::r=>fun h=>by
  have h1:=h d (.head _);have h2:=a8n fun x hx=>h x (.tail _ hx);refine⟨?_,?_⟩
  ·show(d.canLay0&&PyData.canLayAll0 r)=true
   rw[h1.1,h2.1]; rfl
  ·exact Nat.max_le.mpr ⟨h1.2,h2.2⟩
theorem a7u{k:Nat}{l:List d8e}(h:∀d∈l,shp k d):shp (k+1) (.list l):=⟨(a8n h).1,Nat.succ_le_succ (a8n h).2⟩
theorem b4t{k:Nat}{l:List d8e}(h:∀d∈l,shp k d):shp (k+1) (.tuple l):=⟨(a8n h).1,Nat.succ_le_succ (a8n h).2⟩
theorem c0p(k:Nat):shp (k+1) (.list []):=a7u (by simp)
theorem a2i{k:Nat}{l:List d8e}(h:shp k d)(hr:shp (k+1) (.list l)):shp (k+1) (.list (d::l)):=by
 obtain⟨h1,h2⟩:=hr;have h2':PyData.depthAll l+1≤k+1:=h2;refine⟨?_,?_⟩
 ·show(d.canLay0&&PyData.canLayAll0 l)=true
  rw[h.1,show PyData.canLayAll0 l=true from h1]; rfl
 ·exact Nat.succ_le_succ (Nat.max_le.mpr ⟨h.2,by exact a1d (.l N0 N1) (.l (.p N0 O1) (.p N1 O1)) h2'⟩)
theorem a4t{k:Nat}(h:shp k d)(hk:k≤64):SeqAt.shaped d=true:=by
 unfold SeqAt.shaped;rw[h.1,decide_eq_true (Nat.le_trans h.2 hk)]; rfl
theorem a8p(l:List Nat):SeqAt.shaped (.list (a0c l))=true:=a4t (k:=1) (a7u fun d hd=>by
 obtain⟨i,_,rfl⟩:=List.mem_map.mp hd; exact a6x 0 _) (by omega)
local macro_rules (kind:=Lean.Parser.Tactic.dsimpAutoUnfold)|s=>return qx #[s[4][1]] ("%TsimpAutoUnfold simp! %ToptConfig %null / / %null / %null / %null [ %null " ++ qxm "wpG_elt' wpG_for' wpG_forIf' mk_length sl_mk cut_to mk_beq mk_append strsL_length intsL_length" ++ " , @0 / ] / %null / /")
noncomputable def Ss.tl:Ss→Ss
 |.cons _ r=>r
 |.info _ _ _ _ _ _ _ r=>r
 |.nil=>.nil
def c4s(t E:List Nat):Prop:=∀e∈E,hdE t E≤e∧e≤t.length
theorem c1w(t E p:List Nat):c4s t (a3s t E p):=fun e he=>by
 rw[a3s,List.mem_filter,List.mem_range'_1]at he;obtain⟨h1,h2⟩:=he
 replace h1:=rng h1
 rw[mat (by omega) (by exact b0s (.l N0 N1) (.a (.l (.p N2 N0) N1) (.l N1 N3)) h1),beq_iff_eq]at h2
 refine⟨?_,by omega⟩
 rcases a6t t E p with⟨j,g1,g2,g3,g4,g5⟩|⟨g1,g2⟩
 ·rcases Nat.lt_or_ge (e-p.length) j with h|h
  ·exact absurd h2 (g5 _ (by exact b0s (.l N0 (.s N1 N2)) (.a (.l (.p N0 N2) N1) (.l N1 N3)) h1) h)
  ·exact lc3 6 [_,_,_,_,_,_] [] (.l N0 N1) (.a (.l (.p N2 N3) N1) (.l N1 N4)) (.e N0 (.p N5 N3)) (.l N5 (.s N1 N3)) h1 g3 h
 ·exact absurd h2 (g2 _ (by exact b0s (.l N0 (.s N1 N2)) (.a (.l (.p N0 N2) N1) (.l N1 N3)) h1) (by exact b0s (.l (.p (.s N0 N1) N1) N2) (.a (.l (.p N3 N1) N0) (.l N0 N2)) h1))
theorem b4w(N:Nat):∀(E:List Nat),b8g (a0c E++[.int (N:Int)])=some ((E.foldr min N:Nat):Int)
 |[]=>rfl
 |e::r=>by
  have ih:=b4w N r
  have:∀(l:List d8e) (m:Int),l≠[]→b8g l=some m→b8g (.int (e:Int)::l)=some (min (e:Int) m):=fun l m hl hm=>by
   cases l with
   |nil=>exact absurd rfl hl
   |cons a r=>exact congrArg (Option.map (min (e:Int) ·)) hm
  have h2:=this (a0c r++[.int (N:Int)]) _ (by simp) ih
  show b8g (.int (e:Int)::(a0c r++[.int (N:Int)]))=_;rw[h2,List.foldr_cons]
  congr 1
  exact b5v (.e (.d 2 (.c N0) (.c N1)) (.c (.b 2 N0 N1)))
theorem c4t{t E:List Nat}(h:c4s t E):E.foldr min (t.length+1)=hdE t E:=by
 cases E with
 |nil=>rfl
 |cons e r=>
  have key:∀(l:List Nat),(∀x∈l,e≤x)→e≤l.foldr min (t.length+1):=by
   intro l
   induction l with
   |nil=>intro _; have:=h e (.head _); show e≤t.length+1; exact a1z (.l N0 (.p N1 O1)) (.a (.l N2 N0) (.l N0 N1)) this
   |cons x l ih=>
    intro hl;rw[List.foldr_cons]
    have:=ih fun y hy=>hl y (.tail _ hy)
    have:=hl x (.head _)
    exact a2q (.l N0 (.b 2 N1 N2)) (.l N0 N2) (.l N0 N1) ‹_› this
  have h2:=key r fun x hx=>(h x (.tail _ hx)).1;rw[List.foldr_cons];show min e _=e;exact a1d (.e (.b 2 N0 N1) N0) (.l N0 N1) h2
inductive PI(p t:List Nat)(r:List (List Nat))(ow:List OV):List (List Nat)→St→Prop
 |mk {rest} (E:List Nat) (v3 v4 v5:V):(∀x∈rest,x.length≤1000)→c4s t E→E.length≤1001→(rest.foldl (a3s t) E).contains t.length=a1y (p::r) t→PI p t r ow rest ⟨[.dat (.list (.str (mk p)::a0i r)),.dat (.str (mk t)),.dat (.list (a0c E)),v3,v4,v5],ow,true⟩
theorem c7b{n:Nat}{p t:List Nat}{r:List (List Nat)}{ow:List OV}{Q:V→List OV→Prop}(hn:2≤n)(ht:t.length≤1000)(hp:p.length≤1000)(hr:∀x∈r,x.length≤1000)(hr2:r.length≤1000)
 (h:Q (.dat (.bool (a1y (p::r) t))) ow):a1w n 11 true [] [.dat (.list (a0i (p::r))),.dat (.str (mk t))] ow Q:=by
 obtain⟨l,rfl⟩:∃m,n=m+2:=⟨n-2,by omega⟩
 refine⟨Nat.succ_pos _,fun _=>rfl,rfl,rfl,?_⟩;have e0:a0i (p::r)=.str (mk p)::a0i r:=rfl;have hlr:(a0i (p::r)).length=r.length+1:=by simp[a0i]
 refine wq2 ?_;dsimp![];simp only[hlr,c1o (Nat.succ_pos _),Option.bind_some,e0,List.getElem?_cons_zero,mk_length,c_eqs,f_lens,f_lenl,i_dl,i_dt,b_add,b_str,b_list,cut_to,mk_beq];refine⟨⟨by omega,by omega⟩,by omega,by omega,⟨by omega,by omega⟩,?_⟩
 have key:∀E:List Nat,c4s t E→E.length≤1001→(r.foldl (a3s t) E).contains t.length=a1y (p::r) t→a1n (a1w (l+1)) a0o (Ss.tl L1.law_fits) ⟨[.dat (.list (.str (mk p)::a0i r)),.dat (.str (mk t)),.dat (.list (a0c E)),.undef,.undef,.undef],ow,true⟩ fun fl st=>Q (.dat (match fl with|.ret d=>d|.next=>.none)) (st.own.take ow.length):=by
  intro E0 hE0 hl0 hres
  (refine wq2 ?_; refine wqf ?_)
  dsimp![];have e1:cut (PyData.str (mk p)::a0i r) (some 1) none=a0i r:=b2a _ 1;rw[e1];refine⟨by exact a0j (.l (.p N0 O1) (.k 1000000)) (.l N0 (.k 1000)) hr2,?_⟩
  refine a3u (g:=fun p=>PyData.str (mk p)) (PI p t r ow) ?_ r _ ⟨E0,.undef,.undef,.undef,hr,hE0,hl0,hres⟩ ?_
  ·rintro q rest st K' ⟨E,v3,v4,v5,hx,hE,hEl,hf⟩ hK hRt
   refine lqS ?_;have hq:=hx q (.head _);have hh:hdE t E≤t.length+1:=by
    cases E with
    |nil=>exact Nat.le_refl _
    |cons e r=>have:=hE e (.head _); simp[hdE]; exact a1z (.l N0 (.p N1 O1)) (.a (.l N2 N0) (.l N0 N1)) this
   dsimp![];refine wq2 ?_;dsimp![];have em:b8g (a0c E++[PyData.int ((t.length:Int)+1)])=some ((hdE t E:Nat):Int):=by
    have:=b4w (t.length+1) E
    rw[c4t hE]at this
    exact this
   simp only[em]
   repeat (refine⟨by(first|exact a0j (.l (.p N0 O1) (.k 1000000)) (.l N0 (.k 1001)) hEl|omega),?_⟩)
   refine wq2 ?_;dsimp![]
   repeat (refine⟨by(first|exact lc3 3 [_,_,_] [] (.a (.l (.z (Int.neg 1000000)) (.P (.c N0) (.c N1))) (.a (.l (.P (.c N0) (.c N1)) (.z 1000000)) (.a (.l (.z (Int.neg 1000000)) (.P (.c N2) (.z 1))) (.l (.P (.c N2) (.z 1)) (.z 1000000))))) (.l N2 (.k 1000)) (.l N1 (.k 1000)) (.l N0 (.p N2 O1)) ht hq hh|omega),?_⟩)
   have eu:b9b (((hdE t E:Nat):Int)+(q.length:Int)) ((t.length:Int)+1-(((hdE t E:Nat):Int)+(q.length:Int))).toNat=a0c (List.range' (hdE t E+q.length) (t.length+1-(hdE t E+q.length))):=by
    rw[←b1s]; exact congrArg (b9b (((hdE t E:Nat):Int)+(q.length:Int))) (Int.toNat_sub (t.length+1) (hdE t E+q.length))
   rw[eu];refine b0g (g:=fun(e:Nat)=>PyData.int (e:Int)) (fun e=>(t.take e).drop (e-q.length)==q) (fun(e:Nat)=>PyData.int (e:Int)) (fun st=>∃v5,st=⟨[.dat (.list (.str (mk p)::a0i r)),.dat (.str (mk t)),.dat (.list (a0c E)),.dat (.str (mk q)),.dat (.int (((hdE t E:Nat):Int)+(q.length:Int))),v5],ow,true⟩) _ ?_ _ _ ⟨_,rfl⟩ ?_ ?_
   ·rintro e he st acc K ⟨v5,rfl⟩ hacc hK2
    rw[List.mem_range'_1]at he
    replace he:=rng he
    rw[d4p];dsimp![];have ec:cut t (some ((e:Int)-(q.length:Int))) (some (e:Int))=(t.take e).drop (e-q.length):=by
     have:=c3n t (a:=e-q.length) (b:=e) (by exact b0s (.l (.s N0 N1) N2) (.a (.l (.p N3 N1) N0) (.l N0 N2)) he) (by omega)
     rw[←this]; congr 2; exact b0s (.e (.S (.c N0) (.c N1)) (.c (.s N0 N1))) (.a (.l (.p N2 N1) N0) (.l N0 N3)) he
    rw[ec]
    repeat (refine⟨by omega,?_⟩)
    have:=hK2 _ ⟨.dat (.int (e:Int)),rfl⟩
    by_cases hm:((t.take e).drop (e-q.length)==q)=true
    ·rw[if_pos hm]at this ⊢
     exact⟨hacc,this⟩
    ·rw[if_neg hm]at this ⊢
     exact this
   ·simp; exact a1z (.l (.p N0 O1) (.p (.k 1000000) (.p N1 N2))) (.l N0 (.k 1000)) ht
   ·rintro st ⟨v5,rfl⟩
    refine wq1 ?_;exact hK _ ⟨a3s t E q,_,_,_,fun x h=>hx x (.tail _ h),c1w t E q,by
     refine Nat.le_trans (List.length_filter_le _ _) ?_;rw[List.length_range']; exact a1z (.l (.s (.p N0 O1) (.p N1 N2)) (.k 1001)) (.l N0 (.k 1000)) ht,hf⟩
  ·rintro st ⟨E,v3,v4,v5,hx,hE,hEl,hf⟩
   refine wq2 ?_;dsimp![];refine⟨by omega,⟨rfl,a8p E⟩,?_⟩
   have e2:((a0c E).any fun y=>y.eqv (PyData.int (t.length:Int)))=E.contains t.length:=by
    rw[Bool.eq_iff_iff,List.any_eq_true,List.contains_iff_mem];constructor
    ·rintro⟨d,hd,he⟩
     obtain⟨i,hi,rfl⟩:=List.mem_map.mp hd
     have:((i:Int)==(t.length:Int))=true:=he
     rw[beq_iff_eq]at this
     have e:i=t.length:=by exact a1d (.e N0 N1) (.e (.c N0) (.c N1)) this
     rwa[←e]
    ·intro hm
     exact⟨_,List.mem_map.mpr ⟨_,hm,rfl⟩,by show((t.length:Int)==(t.length:Int))=true; rw[beq_self_eq_true]⟩
   rw[e2,List.take_length,show E.contains t.length=a1y (p::r) t from hf]
   exact h
 by_cases hm:(t.take p.length==p)=true
 ·refine ifp hm ?_
  iterate 2 (refine⟨by(first|exact a5f (.a (.l (.z (Int.neg 1000000)) (.z 0)) (.l (.z 0) (.z 1000000)))|omega),?_⟩)
  refine key [p.length] (fun e he=>?_) (by simp) ?_
  ·rw[List.mem_singleton.mp he]
   rw[beq_iff_eq]at hm
   have:=congrArg List.length hm
   rw[List.length_take]at this
   exact⟨Nat.le_refl _,by exact a1d (.l N0 N1) (.e (.b 2 N0 N1) N0) this⟩
  ·show _=(r.foldl (a3s t) (if (t.take p.length==p)=true then[p.length]else[])).contains t.length
   rw[if_pos hm]
 ·refine ifn hm ?_
  refine key [] (fun e he=>nomatch he) (by simp) ?_
  show _=(r.foldl (a3s t) (if (t.take p.length==p)=true then[p.length]else[])).contains t.length
  rw[if_neg hm]
noncomputable def a6s:List Nat:=[46,46,46]
theorem d0c:(Str.ofString "...")=mk a6s:=by decide +kernel
theorem b1f{ps:List (List Nat)}(h:∀p∈ps,46∉p):Txt.contains (mk (jn a6s ps)) (mk a6s)=decide (2≤ps.length):=b6f (c:=46) (k:=3) (by decide) h
theorem b8e{ps:List (List Nat)}(h0:ps≠[])(h:∀p∈ps,46∉p):Txt.split (mk (jn a6s ps)) (mk a6s)=ps.map mk:=c5z (c:=46) (k:=3) (by decide) (by decide) h0 h
theorem b6j(ps:List (List Nat)):((ps.map mk).map PyData.str)=a0i ps:=by simp[a0i]
theorem a2e(a b:List (List Nat)):a0i (a++b)=a0i a++a0i b:=by simp[a0i]
theorem b0e(a:List Nat)(b:List (List Nat)):a0i (a::b)=.str (mk a)::a0i b:=rfl
theorem a4k(n:Nat):a1i (n+1) (-1)=some n:=by rw[d0j (Nat.succ_pos n)]; rfl
theorem d3p{l:Nat}{t:List Nat}{W:List (List Nat)}{a e:Nat}{d0 d5:V}{ow:List OV}{K:Fl→St→Prop}(ht:t.length≤1000)(hW:W.length≤1002)(he:e≤t.length)(hWl:∀w∈W,w.length≤1000)(hQ:∀st',List.take ow.length st'.own=ow→K (.ret (.bool (if e<a then false else a4a t e a W))) st') :
  a1n (a1w l) a0o (Ss.tl (Ss.tl (Ss.tl (Ss.tl (Ss.tl (Ss.tl (Ss.tl (Ss.tl L1.ellipsis_match)))))))) ⟨[d0,.dat (.str (mk t)),.own ow.length,.dat (.int (a:Int)),.dat (.int (e:Int)),d5],ow++[.lst (a0i W)],true⟩ K:=by
 refine wq2 ?_;dsimp![]
 by_cases hlt:e<a
 ·(refine ifp (by simp; omega) ?_; refine wq2 ?_)
  dsimp![];rw[if_pos hlt]at hQ;exact hQ _ (by simp)
 ·rw[if_neg hlt]at hQ
  (refine ifn (by simp; omega) ?_; refine wq1 ?_; refine wq2 ?_; refine wqf ?_)
  dsimp![];refine a3u (g:=fun p=>PyData.str (mk p)) (fun rest st=>∃(s:Nat) (v5:V),s≤e∧(∀w∈rest,w.length≤1000)∧a4a t e s rest=a4a t e a W ∧
   st=⟨[d0,.dat (.str (mk t)),.own ow.length,.dat (.int (s:Int)),.dat (.int (e:Int)),v5],ow++[.froz (a0i W)],true⟩) ?_ W _ ⟨a,d5,by omega,hWl,rfl,rfl⟩ ?_
  ·rintro w rest st K' ⟨s,v5,hs,hw,hR,rfl⟩ hK hRt
   have hwl:=hw w (.head _);refine lqS ?_;dsimp![];refine wq2 ?_;dsimp![c5r];dsimp only[a4a]at hR;refine⟨⟨by exact a1x (.l (.z 0) (.c N0)),by exact a1d (.l (.c N0) (.c N1)) (.l N0 N1) hs,by exact a1d (.l (.c N0) (.c N1)) (.l N0 N1) he⟩,?_⟩
   refine wq2 ?_;dsimp![];cases hf:(List.range' s (e+1-s)).find? (a9r t w e)with
   |none=>
    (refine ifp (by simp) ?_; refine wq2 ?_)
    dsimp![];rw[hf]at hR;simp only at hR;rw[←hR]at hQ;exact hRt _ _ (hQ _ (by simp))
   |some i=>
    (refine ifn (by simp) ?_; refine wq1 ?_; refine wq2 ?_)
    dsimp![];refine⟨by omega,?_⟩
    rw[hf]at hR;refine wq1 ?_;refine hK _ ⟨i+w.length,.dat (.str (mk w)),?_,fun x hx=>hw x (.tail _ hx),hR,rfl⟩;rw[List.find?_range'_eq_some]at hf;have h1:=hf.1;rw[a9r,Bool.and_eq_true,decide_eq_true_eq]at h1;exact h1.1
  ·rintro st ⟨s,v5,hs,hw,hR,rfl⟩
   refine wq2 ?_;dsimp![];rw[←hR]at hQ;exact hQ _ (by simp)
theorem d6q{l:Nat}{t p q:List Nat}{ms:List (List Nat)}{d0:V}{ow:List OV}{K:Fl→St→Prop}(ht:t.length≤1000)(hpl1:p.length≤1000)(hpl2:q.length≤1000)(hlms:ms.length≤1000)(hms1:∀w∈ms,w.length≤1000)(hpre:t.take p.length=p)(h:∀st',List.take ow.length st'.own=ow→K (.ret (.bool (d0z t p ms q))) st') :
  a1n (a1w l) a0o (Ss.tl (Ss.tl (Ss.tl (Ss.tl (Ss.tl (Ss.tl L1.ellipsis_match)))))) ⟨[d0,.dat (.str (mk t)),.own ow.length,.dat (.int (p.length:Int)),.dat (.int (t.length:Int)),.dat (.str (mk p))],ow++[.lst (a0i ((if p=[]then[[]]else[])++ms++[q]))],true⟩ K:=by
 rw[d0z,if_pos hpre]at h;generalize hW0:(if p=[]then[[]]else[]:List (List Nat))=W0 at h ⊢
 have hW0l:W0.length≤1:=by rw[←hW0]; split <;> simp
 have hW0m:∀w∈W0,w.length≤1000:=fun w hw=>by rw[←hW0]at hw; split at hw <;> simp at hw; rw[hw]; simp
 have hll:(a0i (W0++ms++[q])).length=W0.length+ms.length+1:=by simp[a0i]; exact b5v (.e (.p N0 (.p N1 O1)) (.p (.p N0 N1) O1))
 have hlast:(a0i (W0++ms++[q]))[W0.length+ms.length]?=some (.str (mk q)):=by
  rw[a2e,List.getElem?_append_right (by simp[a0i])]; simp[a0i]
 have hdrop:(a0i (W0++ms++[q])).eraseIdx (W0.length+ms.length)=a0i (W0++ms):=by
  rw[a2e,List.eraseIdx_append_of_length_le (by simp[a0i])]; simp[a0i]
 refine wq2 ?_;generalize hSW:a0i (W0++ms++[q])=SW at hll hlast hdrop ⊢;dsimp![hll,a4k,hlast];refine⟨by exact a5f (.a (.l (.z (Int.neg 1000000)) (.z (Int.neg 1))) (.l (.z (Int.neg 1)) (.z 1000000))),?_⟩
 refine wq2 ?_;dsimp![];refine⟨by omega,?_⟩
 by_cases hq0:q=[]
 ·subst hq0
  (refine ifn (by simp) ?_; refine wq1 ?_)
  rw[if_pos (by simp)]at h
  subst hSW;refine d3p ht (by simp; exact a1s (.l (.p N0 (.p N1 O1)) (.k 1002)) (.l N1 (.k 1000)) (.l N0 O1) hlms hW0l) (Nat.le_refl _) (fun w hw=>?_) h
  rcases List.mem_append.mp hw with hw|hw
  ·rcases List.mem_append.mp hw with hw|hw
   ·exact hW0m w hw
   ·exact hms1 w hw
  ·rw[List.mem_singleton.mp hw]; simp
 ·have hqp:=List.length_pos_iff.mpr hq0
  (refine ifp (by simp; omega) ?_; refine wq2 ?_)
  dsimp![];rw[c7z]
  by_cases he:q.length≤t.length∧t.drop (t.length-q.length)=q
  ·rw[if_pos he,if_neg hq0,List.append_nil]at h
   (refine ifp (by simp[he]) ?_; refine wq2 ?_)
   dsimp![];refine⟨by omega,?_⟩
   refine wq2 ?_;dsimp![hll,a4k,hdrop];refine⟨by exact a1s (.a (.l (.p (.p N0 N1) O1) (.k 1000000)) (.a (.l (.z (Int.neg 1000000)) (.z (Int.neg 1))) (.l (.z (Int.neg 1)) (.z 1000000)))) (.l N1 (.k 1000)) (.l N0 O1) hlms hW0l,?_⟩
   (refine wq1 ?_; refine wq1 ?_)
   have e1:(t.length:Int)-(q.length:Int)=((t.length-q.length:Nat):Int):=by exact a1d (.e (.S (.c N0) (.c N1)) (.c (.s N0 N1))) (.l N1 N0) he.1
   rw[e1];refine d3p ht (by simp; exact a1s (.l (.p N0 N1) (.k 1002)) (.l N1 (.k 1000)) (.l N0 O1) hlms hW0l) (by exact b5v (.l (.s N0 N1) N0)) (fun w hw=>?_) h
   rcases List.mem_append.mp hw with hw|hw
   ·exact hW0m w hw
   ·exact hms1 w hw
  ·rw[if_neg he]at h
   (refine ifn (by simpa using he) ?_; refine wq2 ?_)
   dsimp![];exact h _ (by simp)
theorem d1p{n:Nat}{t:List Nat}{ps:List (List Nat)}{ow:List OV}{Q:V→List OV→Prop}(hn:2≤n)(ht:t.length≤1000)(h0:ps≠[])(hdot:∀p∈ps,46∉p)(hlen:(jn a6s ps).length≤1000)(hps:ps.length≤1000)(hpl:∀p∈ps,p.length≤1000)
 (h:Q (.dat (.bool (a1y ps t))) ow):a1w n 8 true [] [.dat (.str (mk (jn a6s ps))),.dat (.str (mk t))] ow Q:=by
 obtain⟨l,rfl⟩:∃m,n=m+2:=⟨n-2,by omega⟩
 refine⟨Nat.succ_pos _,fun _=>rfl,rfl,rfl,?_⟩;dsimp only[L1.ellipsis_match,L1.ellipsis_match_nl];refine wq2 ?_;dsimp![];rw[d0c,b1f hdot]
 match ps,h0 with
 |[p],_=>
  (refine ifp (by simp) ?_; refine wq2 ?_)
  dsimp![];rw[show jn a6s [p]=p from rfl,c4m,List.take_length]
  exact h
 |p::q0::r0,_=>
  obtain⟨ms,q,hms⟩:∃ms q,q0::r0=ms++[q]:=⟨(q0::r0).dropLast,(q0::r0).getLast (by simp),(List.dropLast_concat_getLast _).symm⟩
  rw[hms]at hdot hlen hps hpl h ⊢;rw[←c5i]at h
  (refine ifn (by simp) ?_; refine wq1 ?_; refine wq2 ?_)
  have hpl1:=hpl p (.head _);have hpl2:=hpl q (by simp)
  have hlms:ms.length≤1000:=by simp at hps; omega
  dsimp![];rw[b8e (by simp) hdot,b6j]
  refine⟨⟨by decide,by omega,by simp; omega⟩,?_⟩
  refine wq2 ?_;dsimp![];refine⟨by simp; omega,by simp; exact a1x (.l (.z 2) (.P (.P (.c N0) (.z 1)) (.z 1))),?_⟩
  refine wq2 ?_;dsimp![];refine⟨by omega,?_⟩
  refine wq2 ?_;have hql:(a0i (p::(ms++[q]))).length=ms.length+2:=by simp[a0i]
  dsimp![c1o (Nat.succ_pos _),b0e];refine⟨by exact a5f (.a (.l (.z (Int.neg 1000000)) (.z 0)) (.l (.z 0) (.z 1000000))),?_⟩
  have keyA:=@d6q (l+1) t p q ms (.dat (.str (mk (jn a6s (p::(ms++[q])))))) ow (fun fl st=>Q (.dat (match fl with|.ret d=>d|.next=>.none)) (st.own.take ow.length)) ht hpl1 hpl2 hlms fun w hw=>hpl w (by simp[hw])
  have hA:∀st':St,List.take ow.length st'.own=ow→Q (.dat (.bool (d0z t p ms q))) (List.take ow.length st'.own):=fun st' e=>e.symm▸h;refine wq2 ?_;dsimp![];refine⟨by omega,?_⟩
  by_cases hp0:p=[]
  ·subst hp0
   (refine ifn (by simp) ?_; refine wq1 ?_)
   exact keyA rfl hA
  ·have hpp:=List.length_pos_iff.mpr hp0
   (refine ifp (by simp; omega) ?_; refine wq2 ?_)
   dsimp![];rw[c1j]
   by_cases he:t.take p.length=p
   ·(refine ifp (by rw[he,beq_self_eq_true]) ?_; refine wq2 ?_)
    dsimp![];refine⟨by omega,?_⟩
    refine wq2 ?_;dsimp![hql,c1o (Nat.succ_pos _),b0e];refine⟨by exact a0j (.a (.l (.p (.p N0 O1) O1) (.k 1000000)) (.a (.l (.z (Int.neg 1000000)) (.z 0)) (.l (.z 0) (.z 1000000)))) (.l N0 (.k 1000)) hlms,?_⟩
    (refine wq1 ?_; refine wq1 ?_)
    have:=keyA he hA
    rw[if_neg hp0]at this
    exact this
   ·rw[d0z,if_neg he]at h
    (refine ifn (by rw[beq_iff_eq]; exact he) ?_; refine wq2 ?_)
    dsimp![];simpa using h
theorem d1a:∀(r:List Nat),c3g (a0c r)=some ((r.sum:Nat):Int)
 |[]=>rfl
 |a::r=>by
  show(c3g (a0c r)).map ((a:Int) + ·)=_;rw[d1a r]; simp
theorem a2o{r:List Nat}(h:∀x∈r,x<2^32):∀d∈a0c r,∃j:Int,d=.int j∧j.natAbs<2^32:=fun d hd=>by
 obtain⟨x,hx,rfl⟩:=List.mem_map.mp hd;exact⟨_,rfl,by rw[Int.natAbs_natCast]; exact h x hx⟩
theorem a2a(l:List Nat)(k:Nat):(a0c l).take k=a0c (l.take k):=by simp[a0c]
theorem b0d(l:List Nat)(k:Nat):(a0c l).drop k=a0c (l.drop k):=by simp[a0c]
theorem a1m{l:List Nat}{k:Nat}(h:k<l.length):(a0c l)[k]?=some (.int ((l.getD k 0:Nat):Int)):=by
 simp[a0c,List.getElem?_eq_getElem h]
theorem a9s{l:List (List Nat)}{k:Nat}(h:k<l.length):(a0i l)[k]?=some (.str (mk (l.getD k []))):=by
 simp[a0i,List.getElem?_eq_getElem h]
theorem a9i(n:Nat):a2j n=a0c (List.range n).reverse:=by
 unfold a2j a0c;apply List.ext_getElem?;intro i
 by_cases h:i<n
 ·simp only[List.getElem?_map,List.getElem?_range h,List.getElem?_reverse (show i<(List.range n).length by simpa using h),List.length_range,Option.map_some]
  rw[List.getElem?_range (Nat.lt_of_le_of_lt (Nat.sub_le _ _) (Nat.sub_lt (Nat.zero_lt_of_lt h) Nat.one_pos)),Option.map_some]
  congr 2
  rw[Int.ofNat_sub (Nat.le_sub_one_of_lt h),Int.ofNat_sub (Nat.zero_lt_of_lt h)]; rfl
 ·rw[List.getElem?_eq_none (by simpa using h),List.getElem?_eq_none (by simpa using h)]
theorem b4m(j:Nat):(List.range (j+1)).reverse=j::(List.range j).reverse:=by simp[List.range_succ]
theorem a6u:∀(l:List (List Nat)),b2x (a0i l)=some (l.map mk)
 |[]=>rfl
 |a::r=>by
  show(b2x (a0i r)).map (mk a :: ·)=_;rw[a6u r]; rfl
theorem a5a:(Str.ofString "")=mk []:=by decide +kernel
theorem b9u:∀(l:List (List Nat)),Str.join (mk []) (l.map mk)=mk l.flatten
 |[]=>rfl
 |[a]=>by simp[Str.join]
 |a::b::r=>by
  have:=b9u (b::r)
  show mk a++mk []++Str.join (mk []) ((b::r).map mk)=_;rw[this,mk_append,mk_append]; simp
theorem d0x(l:List (List Nat)):Txt.join (mk []) (l.map mk)=mk l.flatten:=by
 show Builtin.Str.glued (mk []) (l.map mk)=_;rw[StrLaws.glued_eq_join,b9u]
theorem c1k{l:List (List Nat)}(h:l.flatten.length≤1000000):JoinOk (mk []) (l.map mk)=true:=by
 unfold JoinOk;rw[StrLaws.joinTotal];have e:((l.map mk).map (·.length)).sum=l.flatten.length:=by
  rw[List.map_map,List.length_flatten];exact congrArg List.sum (List.map_congr_left fun x _=>mk_length x)
 rw[e,mk_length];have h2:¬2^24<l.flatten.length+(l.map mk).length*([]:List Nat).length:=by
  rw[List.length_nil,Nat.mul_zero,show(2:Nat)^24=16777216 from by decide]; omega
 rw[Bool.not_eq_true'];exact decide_eq_false h2
structure K1 where
 names:List (List Nat)
 wts:List (List Nat)
 p0:List (List Nat)
 p1:List (List Nat)
structure K1.Ok(k:K1):Prop where
 n4:k.names.length=4
 nl:∀s∈k.names,s.length≤3
 w3:k.wts.length=3
 w4:∀r∈k.wts,r.length=4∧∀x∈r,16≤x∧x≤60
 p0n:k.p0≠[]
 p1n:k.p1≠[]
 pl:∀p∈k.p0++k.p1,p.length≤20
 pk:k.p0.length≤10∧k.p1.length≤10
namespace K1
variable (k:K1)
noncomputable def txt(ms:List Nat):List Nat:=(ms.map fun one=>k.names.getD one []).flatten
noncomputable def ri(t:List Nat):Nat:=if a1y k.p0 t then 0 else if a1y k.p1 t then 1 else 2
noncomputable def row(pre:List Nat):List Nat:=k.wts.getD (k.ri (k.txt pre)) []
noncomputable def ent(one:Nat)(pre:List Nat):d8e:=.list [.int one,.str (Mw.Internal.mk (k.txt pre)),.bool (a1y k.p0 (k.txt pre)),.bool (a1y k.p1 (k.txt pre)),.bool (!a1y k.p0 (k.txt pre)),.bool (!a1y k.p1 (k.txt pre))]
noncomputable def told:List Nat→List Nat→List d8e
 |_,[]=>[]
 |pre,one::r=>k.ent one pre::told (pre++[one]) r
noncomputable def num:List Nat→List Nat→Int→Int
 |_,[],rest=>rest
 |pre,one::r,rest=>((k.row pre).sum:Int)*(num (pre++[one]) r rest/((k.row pre).getD one 0:Nat))+(((k.row pre).take one).sum:Nat)+num (pre++[one]) r rest%((k.row pre).getD one 0:Nat)
noncomputable def sums:List Nat→List Nat→Nat
 |_,[]=>1
 |pre,one::r=>sums (pre++[one]) r*(k.row pre).sum
noncomputable def shares:List Nat→List Nat→Nat
 |_,[]=>1
 |pre,one::r=>shares (pre++[one]) r*(k.row pre).getD one 0
noncomputable def wD:d8e:=.list (k.wts.map fun r=>.list (a0c r))
noncomputable def pD:d8e:=.list [.list (a0i k.p0),.list (a0i k.p1)]
variable {k}
theorem ri_lt(t:List Nat):k.ri t<3:=by
 unfold ri; split
 ·exact a5f (.t (.k 0) (.k 3))
 ·split <;> (first|exact a5f (.t O1 (.k 3))|exact a5f (.t (.k 2) (.k 3))|omega)
theorem Ok.row(h:k.Ok)(pre:List Nat):(k.row pre).length=4∧∀x∈k.row pre,16≤x∧x≤60:=by
 refine h.w4 _ ?_;unfold K1.row
 have:=ri_lt (k:=k) (k.txt pre)
 rw[List.getD_eq_getElem?_getD,List.getElem?_eq_getElem (by rw[h.w3]; exact this)]
 exact List.getElem_mem _
theorem Ok.share(h:k.Ok)(pre:List Nat){one:Nat}(ho:one≤3):16≤(k.row pre).getD one 0∧(k.row pre).getD one 0≤60:=by
 have:=h.row pre
 rw[List.getD_eq_getElem?_getD,List.getElem?_eq_getElem (by exact a1s (.t N0 N1) (.l N0 (.k 3)) (.e N1 (.k 4)) ho this.1)]
 exact this.2 _ (List.getElem_mem _)
theorem Ok.txtl(h:k.Ok)(ms:List Nat):(k.txt ms).length≤3*ms.length:=by
 unfold txt
 induction ms with
 |nil=>simp
 |cons a r ih=>
  simp only[List.map_cons,List.flatten_cons,List.length_append,List.length_cons]
  have:(k.names.getD a []).length≤3:=by
   rw[List.getD_eq_getElem?_getD];cases e:k.names[a]? with
   |none=>simp
   |some s=>exact h.nl s (List.mem_of_getElem? e)
  exact a2q (.l (.p N0 N1) (.m 0 3 (.p N2 O1))) (.l N1 (.m 0 3 N2)) (.l N0 (.k 3)) ih this
end K1
theorem ix1_0:a1i (1) 0=some 0:=by decide
theorem ix2_0:a1i (1+1) 0=some 0:=by decide
theorem ix2_1:a1i (1+1) 1=some 1:=by decide
theorem ix3_0:a1i (1+1+1) 0=some 0:=by decide
theorem ix3_1:a1i (1+1+1) 1=some 1:=by decide
theorem ix3_2:a1i (1+1+1) 2=some 2:=by decide
theorem ix4_0:a1i (1+1+1+1) 0=some 0:=by decide
theorem ix4_1:a1i (1+1+1+1) 1=some 1:=by decide
theorem ix4_2:a1i (1+1+1+1) 2=some 2:=by decide
theorem ix4_3:a1i (1+1+1+1) 3=some 3:=by decide
theorem ix5_0:a1i (1+1+1+1+1) 0=some 0:=by decide
theorem ix5_1:a1i (1+1+1+1+1) 1=some 1:=by decide
theorem ix5_2:a1i (1+1+1+1+1) 2=some 2:=by decide
theorem ix5_3:a1i (1+1+1+1+1) 3=some 3:=by decide
theorem ix5_4:a1i (1+1+1+1+1) 4=some 4:=by decide
theorem ix6_0:a1i (1+1+1+1+1+1) 0=some 0:=by decide
theorem ix6_1:a1i (1+1+1+1+1+1) 1=some 1:=by decide
theorem ix6_2:a1i (1+1+1+1+1+1) 2=some 2:=by decide
theorem ix6_3:a1i (1+1+1+1+1+1) 3=some 3:=by decide
theorem ix6_4:a1i (1+1+1+1+1+1) 4=some 4:=by decide
theorem ix6_5:a1i (1+1+1+1+1+1) 5=some 5:=by decide
theorem ix7_0:a1i (1+1+1+1+1+1+1) 0=some 0:=by decide
theorem ix7_1:a1i (1+1+1+1+1+1+1) 1=some 1:=by decide
theorem ix7_2:a1i (1+1+1+1+1+1+1) 2=some 2:=by decide
theorem ix7_3:a1i (1+1+1+1+1+1+1) 3=some 3:=by decide
theorem ix7_4:a1i (1+1+1+1+1+1+1) 4=some 4:=by decide
theorem ix7_5:a1i (1+1+1+1+1+1+1) 5=some 5:=by decide
theorem ix7_6:a1i (1+1+1+1+1+1+1) 6=some 6:=by decide
theorem ix8_0:a1i (1+1+1+1+1+1+1+1) 0=some 0:=by decide
theorem ix8_1:a1i (1+1+1+1+1+1+1+1) 1=some 1:=by decide
theorem ix8_2:a1i (1+1+1+1+1+1+1+1) 2=some 2:=by decide
theorem ix8_3:a1i (1+1+1+1+1+1+1+1) 3=some 3:=by decide
theorem ix8_4:a1i (1+1+1+1+1+1+1+1) 4=some 4:=by decide
theorem ix8_5:a1i (1+1+1+1+1+1+1+1) 5=some 5:=by decide
theorem ix8_6:a1i (1+1+1+1+1+1+1+1) 6=some 6:=by decide
theorem ix8_7:a1i (1+1+1+1+1+1+1+1) 7=some 7:=by decide
local macro_rules (kind:=Lean.Parser.Tactic.simpAllAutoUnfold)|s=>return qx #[s[4][1]] ("%TdsimpAutoUnfold dsimp! %ToptConfig %null / / %null / %null / %null [ %null " ++ qxm "ix1_0 ix2_0 ix2_1 ix3_0 ix3_1 ix3_2 ix4_0 ix4_1 ix4_2 ix4_3 ix5_0 ix5_1 ix5_2 ix5_3 ix5_4 ix6_0 ix6_1 ix6_2 ix6_3 ix6_4 ix6_5 ix7_0 ix7_1 ix7_2 ix7_3 ix7_4 ix7_5 ix7_6 ix8_0 ix8_1 ix8_2 ix8_3 ix8_4 ix8_5 ix8_6 ix8_7" ++ " , @0 / ] / %null / /")
theorem b2u(st:St)(i:Nat)(v w:V):(st.set i v).set i w=st.set i w:=by
 show St.mk ((st.vars.set i v).set i w) st.own st.hz=St.mk (st.vars.set i w) st.own st.hz;rw[List.set_set]
section
variable {Γ:Ctx} {α:Type} {g:α→d8e} {i:Nat} {G:G} {c:E} {st0:St} {K:List d8e→St→Prop}
theorem b3q(f:α→d8e):∀(l:List α) (acc:List d8e) (v:V),(∀a∈l,∀acc K,acc.length<1000000→K (acc++[f a]) (st0.set i (.dat (g a)))→wpG Γ G (st0.set i (.dat (g a))) acc K)→acc.length+l.length≤1000000→
  (∀st',st'.own=st0.own→st'.hz=st0.hz→K (acc++l.map f) st')→a1q (lpF Γ (.one i) G) (l.map g) (st0.set i v) acc K
 |[]=>fun acc v hs hl hk=>by have:=hk (st0.set i v) rfl rfl; simp at this; exact this
 |a::l=>fun acc v hs hl hk=>by
  rw[List.length_cons]at hl;show wpG Γ G ((st0.set i v).set i (.dat (g a))) acc _;rw[b2u];refine hs a (.head _) acc _ (by exact a1d (.t N0 (.k 1000000)) (.l (.p N0 (.p N1 O1)) (.k 1000000)) hl) ?_
  refine b3q f l (acc++[f a]) _ (fun b hb=>hs b (.tail _ hb)) (by simp; exact a1d (.l (.p (.p N0 O1) N1) (.k 1000000)) (.l (.p N0 (.p N1 O1)) (.k 1000000)) hl) fun st' h1 h2=>?_
  have:=hk st' h1 h2
  simpa using this
theorem b0k(p:α→Bool)(f:α→d8e):∀(l:List α) (acc:List d8e) (v:V),(∀a∈l,∀acc K,acc.length<1000000→K (if p a then acc++[f a]else acc) (st0.set i (.dat (g a)))→wpT Γ c (st0.set i (.dat (g a))) fun b st=>if b=true then wpG Γ G st acc K else K acc st)→acc.length+l.length≤1000000→
  (∀st',st'.own=st0.own→st'.hz=st0.hz→K (acc++(l.filter p).map f) st')→a1q (d4p Γ (.one i) c G) (l.map g) (st0.set i v) acc K
 |[]=>fun acc v hs hl hk=>by have:=hk (st0.set i v) rfl rfl; simp at this; exact this
 |a::l=>fun acc v hs hl hk=>by
  rw[List.length_cons]at hl;show wpT Γ c ((st0.set i v).set i (.dat (g a))) _;rw[b2u];refine hs a (.head _) acc _ (by exact a1d (.t N0 (.k 1000000)) (.l (.p N0 (.p N1 O1)) (.k 1000000)) hl) ?_
  refine b0k p f l (if p a then acc++[f a]else acc) _ (fun b hb=>hs b (.tail _ hb)) (by cases p a <;> simp <;> (first|exact a1d (.l (.p N0 N1) (.k 1000000)) (.l (.p N0 (.p N1 O1)) (.k 1000000)) hl|exact a1d (.l (.p (.p N0 O1) N1) (.k 1000000)) (.l (.p N0 (.p N1 O1)) (.k 1000000)) hl|omega)) fun st' h1 h2=>?_
  have:=hk st' h1 h2
  cases hp:p a <;> simp[hp]at this ⊢ <;> exact this
end
theorem a8c{st:St}{v:V}(h:st.vars[i]?=some v):st=st.set i v:=by
 show St.mk st.vars st.own st.hz=St.mk (st.vars.set i v) st.own st.hz;obtain⟨h1,h2⟩:=List.getElem?_eq_some_iff.mp h;rw[←h2,List.set_getElem_self]
theorem a2m{Γ:Ctx}{α:Type}{g:α→d8e}{G:G}{st0:St}{K:List d8e→St→Prop}(f:α→d8e)(l:List α)(hv:st0.vars[i]?=some .undef)(hs:∀a∈l,∀acc K,acc.length<1000000→K (acc++[f a]) (st0.set i (.dat (g a)))→wpG Γ G (st0.set i (.dat (g a))) acc K)(hl:l.length≤1000000)
 (hk:∀st',st'.own=st0.own→st'.hz=st0.hz→K (l.map f) st'):a1q (lpF Γ (.one i) G) (l.map g) st0 [] K:=by
 rw[a8c hv];exact b3q f l [] _ hs (by simpa using hl) (by simpa using hk)
theorem b4f{Γ:Ctx}{α:Type}{g:α→d8e}{c:E}{G:G}{st0:St}{K:List d8e→St→Prop}(p:α→Bool)(f:α→d8e)(l:List α)(hv:st0.vars[i]?=some .undef)(hs:∀a∈l,∀acc K,acc.length<1000000→K (if p a then acc++[f a]else acc) (st0.set i (.dat (g a)))→wpT Γ c (st0.set i (.dat (g a))) fun b st=>if b=true then wpG Γ G st acc K else K acc st)(hl:l.length≤1000000)
 (hk:∀st',st'.own=st0.own→st'.hz=st0.hz→K ((l.filter p).map f) st'):a1q (d4p Γ (.one i) c G) (l.map g) st0 [] K:=by
 rw[a8c hv];exact b0k p f l [] _ hs (by simpa using hl) (by simpa using hk)
noncomputable def Ss.hd:Ss→S
 |.cons s _=>s
 |_=>.stuck
set_option backward.match.sparseCases false in
noncomputable def S.body:S→Ss
 |.for _ _ b=>b
 |.while _ b=>b
 |_=>.nil
theorem a1v(a:Int)(b:Nat):Int.fdiv a (b:Int)=a/(b:Int):=Int.fdiv_eq_ediv_of_nonneg _ (Int.natCast_nonneg b)
theorem a2s(a:Int)(b:Nat):Int.fmod a (b:Int)=a%(b:Int):=Int.fmod_eq_emod_of_nonneg _ (Int.natCast_nonneg b)
theorem c1a{m:Nat}:∀{R:List Nat},(∀x∈R,x≤m)→R.sum≤m*R.length
 |[]=>fun _=>by simp
 |a::r=>fun h=>by
  have h1:=h a (.head _);have h2:=c1a fun x hx=>h x (.tail _ hx);simp only[List.sum_cons,List.length_cons,Nat.mul_succ]; exact b2z (.l (.p N0 N1) (.p N2 N3)) (.l N0 N3) (.l N1 N2) h1 h2
theorem K1.told_length(k:K1):∀(msg pre:List Nat),(k.told pre msg).length=msg.length
 |[]=>fun _=>rfl
 |_::r=>fun pre=>by(dsimp only[K1.told]; simp[K1.told_length k r])
theorem d1r{k:K1}(ok:k.Ok)(hi:i<3):(k.wts.map fun r=>PyData.list (a0c r))[i]?=some (.list (a0c (k.wts.getD i []))):=by
 rw[List.getElem?_map,List.getD_eq_getElem?_getD,List.getElem?_eq_getElem (by rw[ok.w3]; exact hi)]; rfl
theorem c6d{k:K1}(ok:k.Ok)(i:Nat)(hi:i<3):((a1i (k.wts.map fun r=>PyData.list (a0c r)).length (i:Int)).bind fun x=>(k.wts.map fun r=>PyData.list (a0c r))[x]?)=some (.list (a0c (k.wts.getD i []))):=by
 rw[a0x (by rw[List.length_map,ok.w3]; exact hi),Option.bind_some,d1r ok hi]
theorem c0w (l:List (List Nat)):Txt.join (Str.ofString "") (l.map mk)=mk l.flatten:=by rw[a5a,d0x]
theorem b2d {l:List (List Nat)} (h:l.flatten.length≤1000000):JoinOk (Str.ofString "") (l.map mk)=true:=by rw[a5a]; exact c1k h
theorem K1.told_take(k:K1){a:Nat}(h:a<msg.length):k.told (msg.take a) (msg.drop a)=k.ent (msg.getD a 0) (msg.take a)::k.told (msg.take (a+1)) (msg.drop (a+1)):=by
 (rw[List.drop_eq_getElem_cons h]; dsimp only[K1.told]; rw[List.take_append_getElem h,List.getD_eq_getElem?_getD,List.getElem?_eq_getElem h]); rfl
theorem K1.num_take(k:K1){a:Nat}{rest:Int}(h:a<msg.length):k.num (msg.take a) (msg.drop a) rest=((k.row (msg.take a)).sum:Int)*(k.num (msg.take (a+1)) (msg.drop (a+1)) rest/((k.row (msg.take a)).getD (msg.getD a 0) 0:Nat))+(((k.row (msg.take a)).take (msg.getD a 0)).sum:Nat)+k.num (msg.take (a+1)) (msg.drop (a+1)) rest%((k.row (msg.take a)).getD (msg.getD a 0) 0:Nat):=by
 (rw[List.drop_eq_getElem_cons h]; dsimp only[K1.num]; rw[List.take_append_getElem h,List.getD_eq_getElem?_getD (l:=msg),List.getElem?_eq_getElem h]); rfl
theorem K1.sums_take(k:K1){a:Nat}(h:a<msg.length):k.sums (msg.take a) (msg.drop a)=k.sums (msg.take (a+1)) (msg.drop (a+1))*(k.row (msg.take a)).sum:=by
 (rw[List.drop_eq_getElem_cons h]; dsimp only[K1.sums]; rw[List.take_append_getElem h])
theorem K1.shares_take(k:K1){a:Nat}(h:a<msg.length):k.shares (msg.take a) (msg.drop a)=k.shares (msg.take (a+1)) (msg.drop (a+1))*(k.row (msg.take a)).getD (msg.getD a 0) 0:=by
 (rw[List.drop_eq_getElem_cons h]; dsimp only[K1.shares]; rw[List.take_append_getElem h,List.getD_eq_getElem?_getD (l:=msg),List.getElem?_eq_getElem h]); rfl
theorem c5b{l:Nat}{d0 d1 d2 d3 d4 d9 d14 d15 d16:V}{T:List d8e}{N:Int}{Sm H one:Nat}{R:List Nat}{tx:d8e}{b0 b1:Bool}{ow:List OV}{Q':Fl→St→Prop}(hrow:R.length=4∧∀x∈R,16≤x∧x≤60)(ho3:one≤3)(hsh:16≤R.getD one 0∧R.getD one 0≤60)(hT:T.length≤40)
 (hQ':Q' .next ⟨[d0,d1,d2,d3,d4,.dat (.list (.list [.int (one:Int),tx,.bool b0,.bool b1,.bool !b0,.bool !b1]::T)),.dat (.int ((R.sum:Int)*(N/(R.getD one 0:Nat))+((R.take one).sum:Nat)+N%(R.getD one 0:Nat))),.dat (.int (Sm*R.sum:Nat)),.dat (.int (H*R.getD one 0:Nat)),d9,.dat tx,.dat (.list [.bool b0,.bool b1]),.dat (.list (a0c R)),.dat (.int (one:Int)),d14,d15,d16],ow,true⟩) :
  a1n (a1w l) a0o (Ss.tl (Ss.tl (Ss.tl (S.body (Ss.hd (Ss.tl L1.law_number)))))) ⟨[d0,d1,d2,d3,d4,.dat (.list T),.dat (.int N),.dat (.int (Sm:Int)),.dat (.int (H:Int)),d9,.dat tx,.dat (.list [.bool b0,.bool b1]),.dat (.list (a0c R)),.dat (.int (one:Int)),d14,d15,d16],ow,true⟩ Q':=by
 have hone:one<R.length:=by exact a1s (.t N0 N1) (.e N1 (.k 4)) (.l N0 (.k 3)) hrow.1 ho3
 have hR60:∀x∈R,x<2^32:=fun x hx=>Nat.lt_of_le_of_lt (hrow.2 x hx).2 (by decide)
 have hsum:R.sum≤240:=by have:=c1a fun x hx=>(hrow.2 x hx).2; rw[hrow.1]at this; exact this
 have hl1:R.length≤1000000:=by exact a0j (.l N0 (.k 1000000)) (.e N0 (.k 4)) hrow.1
 have hl2:(R.take one).length≤1000000:=by rw[List.length_take]; exact a1d (.l (.b 2 N0 N1) (.k 1000000)) (.e N1 (.k 4)) hrow.1
 have hi:-1000000≤(one:Int)∧(one:Int)≤1000000:=by exact a0j (.a (.l (.z (Int.neg 1000000)) (.c N0)) (.l (.c N0) (.z 1000000))) (.l N0 (.k 3)) ho3
 have h0:((R.getD one 0:Nat):Int)≠0:=by exact a0j (.n (.e (.c N0) (.z 0))) (.a (.l (.k 16) N0) (.l N0 (.k 60))) hsh
 have h1:((R.getD one 0:Nat):Int).natAbs<2^4000:=by rw[Int.natAbs_natCast]; exact b1d (by omega)
 have h2:((R.getD one 0:Nat):Int).natAbs<2^64:=by rw[Int.natAbs_natCast]; exact a0j (.t N0 (.k (Nat.pow 2 64))) (.a (.l (.k 16) N0) (.l N0 (.k 60))) hsh
 have h3:((R.sum:Nat):Int).natAbs<2^64:=by rw[Int.natAbs_natCast]; omega
 refine wq2 ?_;dsimp![d1a,a2a,a0x hone,a1m hone,a1v,a2s];refine⟨⟨hl1,a2o hR60⟩,hi,⟨h0,h1⟩,.inl h3,hl1,⟨hl2,a2o fun x hx=>hR60 x (List.mem_of_mem_take hx)⟩,hi,h0,?_⟩;refine wq2 ?_;dsimp![d1a,a2a,a0x hone,a1m hone,a1v,a2s];refine⟨⟨hl1,a2o hR60⟩,.inr h3,hi,.inr h2,?_⟩;refine wq2 ?_;dsimp![];refine⟨by decide,?_⟩
 dsimp only[a1q];refine lqF ?_;dsimp![];refine⟨by decide,?_⟩
 refine lqF ?_;dsimp![];refine⟨by decide,?_⟩
 refine⟨by decide,?_⟩
 refine⟨by exact a0j (.l (.p O1 N0) (.k 1000000)) (.l N0 (.k 40)) hT,?_⟩
 refine wq1 ?_;simpa using hQ'
inductive NI(k:K1)(msg:List Nat)(rest:Int)(ow:List OV):List Nat→St→Prop
 |mk {rst} (j:Nat) (v9 v10 v11 v12 v13 v14 v15 v16:V):rst=(List.range j).reverse→j≤msg.length→NI k msg rest ow rst ⟨[.dat (.list (a0c msg)),.dat (.int rest),.dat (.list (a0i k.names)),.dat k.wD,.dat k.pD,.dat (.list (k.told (msg.take j) (msg.drop j))),.dat (.int (k.num (msg.take j) (msg.drop j) rest)),.dat (.int (k.sums (msg.take j) (msg.drop j):Nat)),.dat (.int (k.shares (msg.take j) (msg.drop j):Nat)),v9,v10,v11,v12,v13,v14,v15,v16],ow,true⟩
theorem b7d{n:Nat}{k:K1}(ok:k.Ok)(hm:msg.length≤40)(hm3:∀x∈msg,x≤3){rest:Int}{ow:List OV}{Q:V→List OV→Prop}(hn:5≤n)
 (h:Q (.dat (.list [.list (k.told [] msg),.int (k.num [] msg rest),.int (k.sums [] msg:Nat),.int (k.shares [] msg:Nat)])) ow) :
  a1w n 12 true [] [.dat (.list (a0c msg)),.dat (.int rest),.dat (.list (a0i k.names)),.dat k.wD,.dat k.pD] ow Q:=by
 obtain⟨l,rfl⟩:∃m,n=m+5:=⟨n-5,by omega⟩
 refine⟨Nat.succ_pos _,fun _=>rfl,rfl,rfl,?_⟩;refine wq2 ?_;dsimp![]
 (refine wq2 ?_; refine wqf ?_)
 dsimp![];refine⟨by omega,⟨by exact a1x (.l (.z 0) (.c N0)),by exact a0j (.l (.c N0) (.z 1000000)) (.l N0 (.k 40)) hm⟩,?_⟩
 rw[Int.toNat_natCast,a9i];refine a3u (g:=fun(e:Nat)=>PyData.int (e:Int)) (NI k msg rest ow) ?_ _ _
  (Eq.mpr (congrArg (NI k msg rest ow _) ?_) (.mk msg.length .undef .undef .undef .undef .undef .undef .undef .undef rfl (Nat.le_refl _))) ?_
 ·rintro a rst st K' ⟨j,v9,v10,v11,v12,v13,v14,v15,v16,hr,hj⟩ hK hRt
  obtain⟨j,rfl⟩:∃i,j=i+1:=by
   cases j with
   |zero=>simp at hr
   |succ j=>exact⟨j,rfl⟩
  rw[b4m]at hr;obtain⟨rfl,rfl⟩:=List.cons.inj hr;refine lqS ?_;dsimp![];refine wq2 ?_;dsimp![a2a]
  repeat (refine⟨by omega,?_⟩)
  have hmt:∀x∈msg.take a,x≤3:=fun x hx=>hm3 x (List.mem_of_mem_take hx);refine a2m (g:=fun(e:Nat)=>PyData.int (e:Int)) (fun one=>.str (mk (k.names.getD one []))) (msg.take a) (by rfl) (fun one h1 acc K hacc hK=>?_) (by simp; exact a1d (.l (.b 2 N0 N1) (.k 1000000)) (.l N1 (.k 40)) hm) fun st' h1 h2=>?_
  ·have:=hmt one h1
   have hn4:=ok.n4;dsimp![a0x (show one<k.names.length by exact a1s (.t N0 N1) (.l N0 (.k 3)) (.e N1 (.k 4)) this hn4),a9s (show one<k.names.length by exact a1s (.t N0 N1) (.l N0 (.k 3)) (.e N1 (.k 4)) this hn4)]
   refine⟨⟨by exact a1x (.l (.z (Int.neg 1000000)) (.c N0)),by exact a0j (.l (.c N0) (.z 1000000)) (.l N0 (.k 3)) this⟩,hacc,?_⟩
   exact hK
  rw[show st'.own=ow from h1,show st'.hz=true from h2]
  have estr:b2x ((msg.take a).map fun one=>PyData.str (mk (k.names.getD one [])))=some (((msg.take a).map fun one=>k.names.getD one []).map mk):=by
   rw[←a6u]; unfold a0i; rw[List.map_map]; rfl
  have hta:(k.txt (msg.take a)).length≤200:=by
   have:=ok.txtl (msg.take a)
   rw[List.length_take]at this; exact a2q (.l N0 (.k 200)) (.l N1 (.k 40)) (.l N0 (.m 0 3 (.b 2 N2 N1))) hm this
  simp only[estr,c0w];refine⟨b2d (by have:((msg.take a).map fun one=>k.names.getD one []).flatten.length≤200:=hta; omega),?_⟩
  rw[show((msg.take a).map fun one=>k.names.getD one []).flatten=k.txt (msg.take a) from rfl]
  refine wq2 ?_;dsimp![K1.pD];obtain⟨p,r,hp⟩:∃p r,k.p0=p::r:=List.exists_cons_of_ne_nil ok.p0n;obtain⟨p',r',hp'⟩:∃p r,k.p1=p::r:=List.exists_cons_of_ne_nil ok.p1n;have hpl:=ok.pl;have hpk:=ok.pk;rw[hp,hp']at hpl hpk;dsimp only[a1q];refine lqF ?_;dsimp![];rw[hp];refine c7b (by omega) (by omega) (Nat.le_trans (hpl p (by simp)) (by decide)) (fun x hx=>Nat.le_trans (hpl x (by simp[hx])) (by decide)) (by simp at hpk; exact a1d (.l N0 (.k 1000)) (.a (.l N0 (.k 9)) (.l N1 (.k 9))) hpk) ⟨⟨_,rfl⟩,?_⟩
  dsimp![];refine⟨by decide,?_⟩
  refine lqF ?_;dsimp![];rw[hp'];refine c7b (by omega) (by omega) (Nat.le_trans (hpl p' (by simp)) (by decide)) (fun x hx=>Nat.le_trans (hpl x (by simp[hx])) (by decide)) (by simp at hpk; omega) ⟨⟨_,rfl⟩,?_⟩
  dsimp![];refine⟨by decide,?_⟩
  rw[←hp,←hp'];have ha:a<msg.length:=by omega
  have hrow:=ok.row (msg.take a);generalize hR:k.row (msg.take a)=R at hrow;have ho3:msg.getD a 0≤3:=by
   rw[List.getD_eq_getElem?_getD,List.getElem?_eq_getElem ha];exact hm3 _ (List.getElem_mem _)
  have hsh:=ok.share (msg.take a) ho3;rw[hR]at hsh;have fin:∀{v14 v15 v16:V},a1n (a1w (l+4)) a0o (Ss.tl (Ss.tl (Ss.tl (S.body (Ss.hd (Ss.tl L1.law_number)))))) ⟨[.dat (.list (a0c msg)),.dat (.int rest),.dat (.list (a0i k.names)),.dat k.wD,.dat k.pD,.dat (.list (k.told (msg.take (a+1)) (msg.drop (a+1)))),.dat (.int (k.num (msg.take (a+1)) (msg.drop (a+1)) rest)),.dat (.int (k.sums (msg.take (a+1)) (msg.drop (a+1)):Nat)),.dat (.int (k.shares (msg.take (a+1)) (msg.drop (a+1)):Nat)),.dat (.int (a:Int)),.dat (.str (mk (k.txt (msg.take a)))),.dat (.list [.bool (a1y k.p0 (k.txt (msg.take a))),.bool (a1y k.p1 (k.txt (msg.take a)))]),.dat (.list (a0c R)),.dat (.int (msg.getD a 0:Nat)),v14,v15,v16],ow,true⟩ K':=by
   intro v14 v15 v16;refine c5b hrow ho3 hsh (by rw[K1.told_length,List.length_drop]; exact a1d (.l (.s N0 (.p N1 O1)) (.k 40)) (.l N0 (.k 40)) hm) ?_
   have e1:=k.told_take ha;have e2:=k.num_take (rest:=rest) ha;have e3:=k.sums_take ha;have e4:=k.shares_take ha;rw[hR]at e2 e4;rw[hR]at e3;rw[←e2,←e3,←e4]
   have:=hK _ ⟨a,.dat (.int (a:Int)),.dat (.str (mk (k.txt (msg.take a)))),.dat (.list [.bool (a1y k.p0 (k.txt (msg.take a))),.bool (a1y k.p1 (k.txt (msg.take a)))]),.dat (.list (a0c R)),.dat (.int (msg.getD a 0:Nat)),v14,v15,v16,rfl,by omega⟩
   rw[e1]at this
   exact this
  refine wq2 ?_;simp_all![];rw[K1.wD];have w0:((a1i (k.wts.map fun r=>PyData.list (a0c r)).length 0).bind fun x=>(k.wts.map fun r=>PyData.list (a0c r))[x]?)=some (.list (a0c (k.wts.getD 0 []))):=c6d ok 0 (by decide)
  have w1:((a1i (k.wts.map fun r=>PyData.list (a0c r)).length 1).bind fun x=>(k.wts.map fun r=>PyData.list (a0c r))[x]?)=some (.list (a0c (k.wts.getD 1 []))):=c6d ok 1 (by decide)
  have w2:((a1i (k.wts.map fun r=>PyData.list (a0c r)).length 2).bind fun x=>(k.wts.map fun r=>PyData.list (a0c r))[x]?)=some (.list (a0c (k.wts.getD 2 []))):=c6d ok 2 (by decide)
  simp_all![a0x ha,a1m ha,w0,w1,w2];have hR':R=if a1y k.p0 (k.txt (msg.take a))=true then k.wts.getD 0 []else if a1y k.p1 (k.txt (msg.take a))=true then k.wts.getD 1 []else k.wts.getD 2 []:=by
   rw[←hR,K1.row,K1.ri];split
   ·rfl
   ·split <;> rfl
  refine⟨by decide,?_⟩
  by_cases b0:a1y k.p0 (k.txt (msg.take a))=true
  ·refine ifp b0 ?_
   rw[if_pos b0]at hR';refine⟨by decide,by exact a1s (.a (.l (.z (Int.neg 1000000)) (.c N0)) (.l (.c N0) (.z 1000000))) (.l N1 (.k 40)) (.l (.p N0 O1) N1) hm hj,?_⟩
   rw[←hR'];exact fin
  ·refine ifn b0 ?_
   rw[if_neg b0]at hR';refine⟨by decide,?_⟩
   by_cases b1:a1y k.p1 (k.txt (msg.take a))=true
   ·refine ifp b1 ?_
    rw[if_pos b1]at hR';refine⟨by decide,by exact a1s (.a (.l (.z (Int.neg 1000000)) (.c N0)) (.l (.c N0) (.z 1000000))) (.l N1 (.k 40)) (.l (.p N0 O1) N1) hm hj,?_⟩
    rw[←hR'];exact fin
   ·refine ifn b1 ?_
    rw[if_neg b1]at hR';refine⟨by decide,by exact a1s (.a (.l (.z (Int.neg 1000000)) (.c N0)) (.l (.c N0) (.z 1000000))) (.l N1 (.k 40)) (.l (.p N0 O1) N1) hm hj,?_⟩
    rw[←hR'];exact fin
 ·rw[List.take_length,List.drop_length]; rfl
 ·rintro st ⟨j,v9,v10,v11,v12,v13,v14,v15,v16,hr,hj⟩
  have hj0:j=0:=by
   have:=congrArg List.length hr
   simpa using this.symm
  subst hj0;refine wq2 ?_;dsimp![];rw[List.take_zero,List.drop_zero,List.take_length];exact h
@[elab_as_elim] theorem le3{P:Nat→Prop}(h0:P 0)(h1:P 1)(h2:P 2)(h3:P 3)(h:j≤3):P j:=by
 by_cases a:j=0
 ·exact a▸h0
 by_cases b:j=1
 ·exact b▸h1
 by_cases c:j=2
 ·exact c▸h2
 exact(Nat.le_antisymm h (Nat.lt_of_le_of_ne (Nat.lt_of_le_of_ne (Nat.pos_of_ne_zero a) (Ne.symm b)) (Ne.symm c)))▸h3
theorem d1d{R:List Nat}(h:R.length=4):∃a b c d,R=[a,b,c,d]:=d4t h fun a _ h=>d4t h fun b r h=>(two h).elim fun c k=>k.elim fun d e=>⟨a,b,c,d,congrArg (fun r=>a::b::r) e⟩
noncomputable def a2x(R:List Nat)(left:Int):Nat:=if ((R.take 3).sum:Int)≤left then 3 else if ((R.take 2).sum:Int)≤left then 2 else if ((R.take 1).sum:Int)≤left then 1 else 0
theorem a9o(R:List Nat)(left:Int):a2x R left≤3:=by
 unfold a2x; split
 ·omega
 ·split
  ·omega
  ·split <;> (first|exact a5f (.l O1 (.k 3))|exact a5f (.l (.k 0) (.k 3))|omega)
theorem d1o(a b c d:Nat)(left:Int):(((a:Int)+b+c≤left∧a2x [a,b,c,d] left=3)∨(left<(a:Int)+b+c∧(a:Int)+b≤left∧a2x [a,b,c,d] left=2))∨((left<(a:Int)+b∧(a:Int)≤left∧a2x [a,b,c,d] left=1)∨(left<(a:Int)∧a2x [a,b,c,d] left=0)):=by
 have e3:((([a,b,c,d].take 3).sum:Nat):Int)=(a:Int)+b+c:=by simp; exact lc0 3 [_,_,_] [] (.e (.P (.c N0) (.P (.c N1) (.c N2))) (.P (.P (.c N0) (.c N1)) (.c N2)))
 have e2:((([a,b,c,d].take 2).sum:Nat):Int)=(a:Int)+b:=by simp
 have e1:((([a,b,c,d].take 1).sum:Nat):Int)=(a:Int):=by simp
 unfold a2x;rw[e3,e2,e1]
 by_cases h3:(a:Int)+b+c≤left
 ·exact .inl (.inl ⟨h3,if_pos h3⟩)
 ·rw[if_neg h3]
  by_cases h2:(a:Int)+b≤left
  ·exact .inl (.inr ⟨by exact lc1 3 [_,_,_] [_] (.t Z0 (.P (.P (.c N0) (.c N1)) (.c N2))) (.n (.l (.P (.P (.c N0) (.c N1)) (.c N2)) Z0)) h3,h2,if_pos h2⟩)
  ·rw[if_neg h2]
   by_cases h1:(a:Int)≤left
   ·exact .inr (.inl ⟨by exact lc1 2 [_,_] [_] (.t Z0 (.P (.c N0) (.c N1))) (.n (.l (.P (.c N0) (.c N1)) Z0)) h2,h1,if_pos h1⟩)
   ·exact .inr (.inr ⟨by exact c8r (.t Z0 (.c N0)) (.n (.l (.c N0) Z0)) h1,if_neg h1⟩)
theorem a9m{R:List Nat}(h:R.length=4){left:Int}(h0:0≤left)(h1:left<R.sum):((R.take (a2x R left)).sum:Int)≤left∧left<(R.take (a2x R left)).sum+R.getD (a2x R left) 0:=by
 obtain⟨a,b,c,d,rfl⟩:=d1d h;have hs:(([a,b,c,d].sum:Nat):Int)=(a:Int)+b+c+d:=by simp; exact lc0 4 [_,_,_,_] [] (.e (.P (.c N0) (.P (.c N1) (.P (.c N2) (.c N3)))) (.P (.P (.P (.c N0) (.c N1)) (.c N2)) (.c N3)))
 rw[hs]at h1
 rcases d1o a b c d left with(⟨g1,g2⟩|⟨g0,g1,g2⟩)|(⟨g0,g1,g2⟩|⟨g1,g2⟩)
 ·rw[g2]; simp; exact lc2 4 [_,_,_,_] [_] (.a (.l (.P (.c N0) (.P (.c N1) (.c N2))) Z0) (.t Z0 (.P (.P (.c N0) (.P (.c N1) (.c N2))) (.c N3)))) (.t Z0 (.P (.P (.P (.c N0) (.c N1)) (.c N2)) (.c N3))) (.l (.P (.P (.c N0) (.c N1)) (.c N2)) Z0) h1 g1
 ·rw[g2]; simp; exact lc2 3 [_,_,_] [_] (.a (.l (.P (.c N0) (.c N1)) Z0) (.t Z0 (.P (.P (.c N0) (.c N1)) (.c N2)))) (.t Z0 (.P (.P (.c N0) (.c N1)) (.c N2))) (.l (.P (.c N0) (.c N1)) Z0) g0 g1
 ·rw[g2]; simp; exact lc2 2 [_,_] [_] (.a (.l (.c N0) Z0) (.t Z0 (.P (.c N0) (.c N1)))) (.t Z0 (.P (.c N0) (.c N1))) (.l (.c N0) Z0) g0 g1
 ·rw[g2]; simp; exact lc2 1 [_] [_] (.a (.l (.z 0) Z0) (.t Z0 (.c N0))) (.l (.z 0) Z0) (.t Z0 (.c N0)) h0 g1
theorem b5c{R:List Nat}(h:R.length=4){left:Int}(hj:j≤3)(h0:((R.take j).sum:Int)≤left)(h1:left<(R.take j).sum+R.getD j 0):a2x R left=j:=by
 obtain⟨a,b,c,d,rfl⟩:=d1d h;have key:=d1o a b c d left;revert h0 h1;refine le3 ?_ ?_ ?_ ?_ hj
 ·intro h0 h1; simp at h0 h1; exact lc2 4 [_,_,_,_] [_] (.e N0 (.k 0)) (.b 1 (.b 1 (.a (.l (.P (.P (.c N1) (.c N2)) (.c N3)) Z0) (.e N0 (.k 3))) (.a (.t Z0 (.P (.P (.c N1) (.c N2)) (.c N3))) (.a (.l (.P (.c N1) (.c N2)) Z0) (.e N0 (.k 2))))) (.b 1 (.a (.t Z0 (.P (.c N1) (.c N2))) (.a (.l (.c N1) Z0) (.e N0 O1))) (.a (.t Z0 (.c N1)) (.e N0 (.k 0))))) (.t Z0 (.c N1)) key h1
 ·intro h0 h1; simp at h0 h1; exact lc3 4 [_,_,_,_] [_] (.e N0 O1) (.b 1 (.b 1 (.a (.l (.P (.P (.c N1) (.c N2)) (.c N3)) Z0) (.e N0 (.k 3))) (.a (.t Z0 (.P (.P (.c N1) (.c N2)) (.c N3))) (.a (.l (.P (.c N1) (.c N2)) Z0) (.e N0 (.k 2))))) (.b 1 (.a (.t Z0 (.P (.c N1) (.c N2))) (.a (.l (.c N1) Z0) (.e N0 O1))) (.a (.t Z0 (.c N1)) (.e N0 (.k 0))))) (.l (.c N1) Z0) (.t Z0 (.P (.c N1) (.c N2))) key h0 h1
 ·intro h0 h1; simp at h0 h1; exact lc3 4 [_,_,_,_] [_] (.e N0 (.k 2)) (.b 1 (.b 1 (.a (.l (.P (.P (.c N1) (.c N2)) (.c N3)) Z0) (.e N0 (.k 3))) (.a (.t Z0 (.P (.P (.c N1) (.c N2)) (.c N3))) (.a (.l (.P (.c N1) (.c N2)) Z0) (.e N0 (.k 2))))) (.b 1 (.a (.t Z0 (.P (.c N1) (.c N2))) (.a (.l (.c N1) Z0) (.e N0 O1))) (.a (.t Z0 (.c N1)) (.e N0 (.k 0))))) (.l (.P (.c N1) (.c N2)) Z0) (.t Z0 (.P (.P (.c N1) (.c N2)) (.c N3))) key h0 h1
 ·intro h0 h1; simp at h0 h1; exact lc2 4 [_,_,_,_] [_] (.e N0 (.k 3)) (.b 1 (.b 1 (.a (.l (.P (.P (.c N1) (.c N2)) (.c N3)) Z0) (.e N0 (.k 3))) (.a (.t Z0 (.P (.P (.c N1) (.c N2)) (.c N3))) (.a (.l (.P (.c N1) (.c N2)) Z0) (.e N0 (.k 2))))) (.b 1 (.a (.t Z0 (.P (.c N1) (.c N2))) (.a (.l (.c N1) Z0) (.e N0 O1))) (.a (.t Z0 (.c N1)) (.e N0 (.k 0))))) (.l (.P (.c N1) (.P (.c N2) (.c N3))) Z0) key h0
theorem a5s{R:List Nat}(h:R.length=4)(hj:j≤3):(R.take j).sum+R.getD j 0≤R.sum:=by
 obtain⟨a,b,c,d,rfl⟩:=d1d h;refine le3 ?_ ?_ ?_ ?_ hj
 ·simp <;> omega
 ·simp <;> omega
 ·simp <;> (first|exact lc0 4 [_,_,_,_] [] (.l (.p (.p N0 N1) N2) (.p N0 (.p N1 (.p N2 N3))))|omega)
 ·simp <;> (first|exact lc0 4 [_,_,_,_] [] (.l (.p (.p N0 (.p N1 N2)) N3) (.p N0 (.p N1 (.p N2 N3))))|omega)
theorem a8r{R:List Nat}(h:R.length=4)(hp:∀x∈R,16≤x∧x≤60){one:Nat}(ho:one≤3)(y:Int) :
  ((R.sum:Int)*(y/(R.getD one 0:Nat))+((R.take one).sum:Nat)+y%(R.getD one 0:Nat))/R.sum=y/(R.getD one 0:Nat) ∧
  ((R.sum:Int)*(y/(R.getD one 0:Nat))+((R.take one).sum:Nat)+y%(R.getD one 0:Nat))%R.sum=((R.take one).sum:Nat)+y%(R.getD one 0:Nat):=by
 have hw:16≤R.getD one 0:=by
  rw[List.getD_eq_getElem?_getD,List.getElem?_eq_getElem (by exact a1s (.t N0 N1) (.e N1 (.k 4)) (.l N0 (.k 3)) h ho)]
  exact(hp _ (List.getElem_mem _)).1
 have hle:=a5s h ho;have h1:=Int.emod_nonneg y (show((R.getD one 0:Nat):Int)≠0 by exact a0j (.n (.e (.c N0) (.z 0))) (.l (.k 16) N0) hw)
 have h2:=Int.emod_lt_of_pos y (show 0<((R.getD one 0:Nat):Int) by exact a0j (.t (.z 0) (.c N0)) (.l (.k 16) N0) hw)
 generalize R.getD one 0=w at *;generalize (R.take one).sum=t at *;generalize R.sum=S at *;refine(Int.ediv_emod_unique (by exact a2q (.t (.z 0) (.c N0)) (.l (.k 16) N1) (.l (.p N2 N1) N0) hw hle)).mpr ⟨?_,by exact c8r (.l (.z 0) (.P (.c N0) Z0)) (.l (.z 0) Z0) h1,by exact lc2 3 [_,_,_] [_] (.t (.P (.c N0) Z0) (.c N1)) (.t Z0 (.c N2)) (.l (.p N0 N2) N1) h2 hle⟩
 exact lc0 2 [_] [_,_] (.e (.P (.P (.c N0) Z0) Z1) (.P (.P Z1 (.c N0)) Z0))
theorem c9n{R:List Nat}(h:R.length=4)(hp:∀x∈R,16≤x∧x≤60)(x:Int) :
  (((R.getD (a2x R (x%R.sum)) 0:Nat):Int)*(x/R.sum)+x%R.sum-((R.take (a2x R (x%R.sum))).sum:Nat))/(R.getD (a2x R (x%R.sum)) 0:Nat)=x/R.sum ∧
  (((R.getD (a2x R (x%R.sum)) 0:Nat):Int)*(x/R.sum)+x%R.sum-((R.take (a2x R (x%R.sum))).sum:Nat))%(R.getD (a2x R (x%R.sum)) 0:Nat)=x%R.sum-((R.take (a2x R (x%R.sum))).sum:Nat):=by
 have hS:0<R.sum:=by
  obtain⟨a,b,c,d,rfl⟩:=d1d h
  have:=(hp a (by simp)).1
  simp only[List.sum_cons]; exact lc1 5 [_,_,_,_,_] [] (.t (.k 0) (.p N0 (.p N1 (.p N2 (.p N3 N4))))) (.l (.k 16) N0) this
 have hs:=a9m h (Int.emod_nonneg x (show(R.sum:Int)≠0 by exact a0j (.n (.e (.c N0) (.z 0))) (.t (.k 0) N0) hS)) (Int.emod_lt_of_pos x (show 0<(R.sum:Int) by exact a0j (.t (.z 0) (.c N0)) (.t (.k 0) N0) hS))
 have hpl:=a9o R (x%R.sum);have hw:16≤R.getD (a2x R (x%R.sum)) 0:=by
  rw[List.getD_eq_getElem?_getD,List.getElem?_eq_getElem (by exact a1s (.t N0 N1) (.e N1 (.k 4)) (.l N0 (.k 3)) h hpl)]
  exact(hp _ (List.getElem_mem _)).1
 generalize R.getD (a2x R (x%R.sum)) 0=w at *;generalize (R.take (a2x R (x%R.sum))).sum=t at *;refine(Int.ediv_emod_unique (by exact a0j (.t (.z 0) (.c N0)) (.l (.k 16) N0) hw)).mpr ⟨?_,by exact lc1 2 [_,_] [_] (.l (.z 0) (.S Z0 (.c N0))) (.a (.l (.c N0) Z0) (.t Z0 (.P (.c N0) (.c N1)))) hs,by exact lc1 2 [_,_] [_] (.t (.S Z0 (.c N0)) (.c N1)) (.a (.l (.c N0) Z0) (.t Z0 (.P (.c N0) (.c N1)))) hs⟩
 exact lc0 2 [_] [_,_] (.e (.P (.S Z0 (.c N0)) Z1) (.S (.P Z1 Z0) (.c N0)))
namespace K1
variable (k:K1)
noncomputable def dec:Nat→List Nat→Int→Option (List Nat×Int)
 |0,_,_=>none
 |n+1,pre,x=>if a2x (k.row pre) (x%(k.row pre).sum)=0 then
   some ([0],(((k.row pre).getD 0 0:Nat):Int)*(x/(k.row pre).sum)+x%(k.row pre).sum)
  else(dec n (pre++[a2x (k.row pre) (x%(k.row pre).sum)]) ((((k.row pre).getD (a2x (k.row pre) (x%(k.row pre).sum)) 0:Nat):Int)*(x/(k.row pre).sum)+x%(k.row pre).sum-(((k.row pre).take (a2x (k.row pre) (x%(k.row pre).sum))).sum:Nat))).map fun p=>(a2x (k.row pre) (x%(k.row pre).sum)::p.1,p.2)
variable {k}
theorem dec_num(ok:k.Ok):∀(m:List Nat) (pre:List Nat) (rest:Int) (n:Nat),(∀x∈m,1≤x∧x≤3)→m.length<n→k.dec n pre (k.num pre (m++[0]) rest)=some (m++[0],rest)
 |[]=>fun pre rest n hm hn=>by
  obtain⟨n,rfl⟩:∃i,n=i+1:=⟨n-1,by simp at hn; exact a0j (.e N0 (.p (.s N0 O1) O1)) (.t (.k 0) N0) hn⟩
  have hr:=ok.row pre;obtain⟨h1,h2⟩:=a8r hr.1 hr.2 (show 0≤3 by exact a5f (.l (.k 0) (.k 3))) rest
  have hw:=ok.share pre (show 0≤3 by exact a5f (.l (.k 0) (.k 3)))
  have g1:=Int.emod_nonneg rest (show(((k.row pre).getD 0 0:Nat):Int)≠0 by exact a0j (.n (.e (.c N0) (.z 0))) (.a (.l (.k 16) N0) (.l N0 (.k 60))) hw)
  have g2:=Int.emod_lt_of_pos rest (show 0<(((k.row pre).getD 0 0:Nat):Int) by exact a0j (.t (.z 0) (.c N0)) (.a (.l (.k 16) N0) (.l N0 (.k 60))) hw)
  dsimp only[num,List.nil_append]
  ((dsimp only[dec]; rw[h1,h2,b5c hr.1 (show 0≤3 by exact a5f (.l (.k 0) (.k 3))) (by rw[List.take_zero,List.sum_nil]; exact a2h (.l (.c (.k 0)) (.P (.c (.k 0)) Z0)) (.l (.z 0) Z0) g1) (by rw[List.take_zero,List.sum_nil]; exact c8r (.t (.P (.c (.k 0)) Z0) (.P (.c (.k 0)) (.c N0))) (.t Z0 (.c N0)) g2)]); rw[if_pos rfl])
  have:=Int.mul_ediv_add_emod rest ((k.row pre).getD 0 0:Nat)
  congr 2
  exact lc1 3 [] [_,_,_] (.e (.P Z0 (.P (.c (.k 0)) Z1)) Z2) (.e (.P Z0 Z1) Z2) this
 |one::m=>fun pre rest n hm hn=>by
  obtain⟨n,rfl⟩:∃i,n=i+1:=⟨n-1,by simp at hn; exact a1d (.e N0 (.p (.s N0 O1) O1)) (.t (.p N1 O1) N0) hn⟩
  have hr:=ok.row pre;have ho:=hm one (.head _);have ih:=dec_num ok m (pre++[one]) rest n (fun x hx=>hm x (.tail _ hx)) (by simp at hn; omega)
  obtain⟨h1,h2⟩:=a8r hr.1 hr.2 ho.2 (k.num (pre++[one]) (m++[0]) rest);have hw:=ok.share pre ho.2;have g1:=Int.emod_nonneg (k.num (pre++[one]) (m++[0]) rest) (show(((k.row pre).getD one 0:Nat):Int)≠0 by exact a0j (.n (.e (.c N0) (.z 0))) (.a (.l (.k 16) N0) (.l N0 (.k 60))) hw)
  have g2:=Int.emod_lt_of_pos (k.num (pre++[one]) (m++[0]) rest) (show 0<(((k.row pre).getD one 0:Nat):Int) by exact a0j (.t (.z 0) (.c N0)) (.a (.l (.k 16) N0) (.l N0 (.k 60))) hw)
  dsimp only[num,List.cons_append]
  ((dsimp only[dec]; rw[h1,h2,b5c hr.1 ho.2 (by exact c8r (.l (.c N0) (.P (.c N0) Z0)) (.l (.z 0) Z0) g1) (by exact lc1 2 [_,_] [_] (.t (.P (.c N0) Z0) (.P (.c N0) (.c N1))) (.t Z0 (.c N1)) g2)]); rw[if_neg (by exact a0j (.n (.e N0 (.k 0))) (.a (.l O1 N0) (.l N0 (.k 3))) ho)])
  have:=Int.mul_ediv_add_emod (k.num (pre++[one]) (m++[0]) rest) ((k.row pre).getD one 0:Nat)
  rw[show(((k.row pre).getD one 0:Nat):Int)*(k.num (pre++[one]) (m++[0]) rest/((k.row pre).getD one 0:Nat))+((((k.row pre).take one).sum:Nat)+k.num (pre++[one]) (m++[0]) rest%((k.row pre).getD one 0:Nat))-(((k.row pre).take one).sum:Nat)=k.num (pre++[one]) (m++[0]) rest by omega,ih]
  rfl
theorem num_dec(ok:k.Ok):∀(n:Nat) (pre:List Nat) (x:Int) (msg:List Nat) (rest:Int),k.dec n pre x=some (msg,rest)→k.num pre msg rest=x∧(∃m,msg=m++[0]∧∀y∈m,1≤y∧y≤3)∧msg.length≤n
 |0=>fun _ _ _ _ h=>by cases h
 |n+1=>fun pre x msg rest h=>by
  have hr:=ok.row pre;obtain⟨h1,h2⟩:=c9n hr.1 hr.2 x;have hpl:=a9o (k.row pre) (x%(k.row pre).sum);have hx:=Int.mul_ediv_add_emod x (k.row pre).sum;dsimp only[dec]at h
  split at h
  ·rename_i h0
   obtain⟨rfl,rfl⟩:=Prod.mk.inj (Option.some.inj h);rw[h0]at h1 h2;simp only[List.take_zero,List.sum_nil,Int.natCast_zero,Int.sub_zero]at h1 h2;refine⟨?_,⟨[],rfl,by simp⟩,by simp⟩
   (dsimp only[num]; simp only[h1,h2,List.take_zero,List.sum_nil])
   exact lc1 3 [] [_,_,_] (.e (.P (.P Z0 (.c (.k 0))) Z1) Z2) (.e (.P Z0 Z1) Z2) hx
  ·rename_i h0
   generalize hone:a2x (k.row pre) (x%(k.row pre).sum)=one at *;rw[Option.map_eq_some_iff]at h;obtain⟨⟨m2,r2⟩,hd,he⟩:=h;obtain⟨rfl,rfl⟩:=Prod.mk.inj he;obtain⟨i1,⟨m,i2,i3⟩,i4⟩:=num_dec ok n _ _ _ _ hd;refine⟨?_,⟨one::m,by rw[i2]; rfl,fun y hy=>?_⟩,by simp; omega⟩
   ·(dsimp only[num]; simp only[i1,h1,h2])
    exact lc1 3 [_] [_,_,_] (.e (.P (.P Z0 (.c N0)) (.S Z1 (.c N0))) Z2) (.e (.P Z0 Z1) Z2) hx
   ·rcases List.mem_cons.mp hy with rfl|hy
    ·exact lc2 1 [_] [] (.a (.l O1 N0) (.l N0 (.k 3))) (.l N0 (.k 3)) (.n (.e N0 (.k 0))) hpl h0
    ·exact i3 y hy
end K1
noncomputable def bd1(B:Nat):Nat:=if B<64 then B-16 else(5*B+156)/9
noncomputable def itb:Nat→Nat→Nat
 |0,B=>B
 |n+1,B=>itb n (bd1 B)
theorem b5d{R:List Nat}(h:R.length=4)(hp:∀x∈R,16≤x∧x≤60)(hj:j≤3)(h0:j≠0):16≤(R.take j).sum∧R.getD j 0+48≤R.sum:=by
 obtain⟨a,b,c,d,rfl⟩:=d1d h;have ha:=(hp a (by simp)).1
 have hb:=(hp b (by simp)).1
 have hc:=(hp c (by simp)).1
 have hd:=(hp d (by simp)).1
 revert h0;refine le3 ?_ ?_ ?_ ?_ hj
 ·exact fun h0=>absurd rfl h0
 ·intro; simp <;> (first|exact c3r (.a (.l (.k 16) N0) (.l (.p N1 (.k 48)) (.p N0 (.p N1 (.p N2 N3))))) (.l (.k 16) N0) (.l (.k 16) N2) (.l (.k 16) N3) ha hc hd|omega)
 ·intro; simp <;> (first|exact c3r (.a (.l (.k 16) (.p N0 N1)) (.l (.p N2 (.k 48)) (.p N0 (.p N1 (.p N2 N3))))) (.l (.k 16) N0) (.l (.k 16) N1) (.l (.k 16) N3) ha hb hd|omega)
 ·intro; simp <;> (first|exact c3r (.a (.l (.k 16) (.p N0 (.p N1 N2))) (.l (.p N3 (.k 48)) (.p N0 (.p N1 (.p N2 N3))))) (.l (.k 16) N0) (.l (.k 16) N1) (.l (.k 16) N2) ha hb hc|omega)
theorem a8u{R:List Nat}(h:R.length=4)(hp:∀x∈R,16≤x∧x≤60):64≤R.sum∧R.sum≤240∧16≤R.getD 0 0:=by
 obtain⟨a,b,c,d,rfl⟩:=d1d h;have ha:=hp a (by simp)
 have hb:=hp b (by simp)
 have hc:=hp c (by simp)
 have hd:=hp d (by simp)
 simp <;> (first|exact lc4 4 [_,_,_,_] [] (.a (.l (.k 64) (.p N0 (.p N1 (.p N2 N3)))) (.a (.l (.p N0 (.p N1 (.p N2 N3))) (.k 240)) (.l (.k 16) N0))) (.a (.l (.k 16) N0) (.l N0 (.k 60))) (.a (.l (.k 16) N1) (.l N1 (.k 60))) (.a (.l (.k 16) N2) (.l N2 (.k 60))) (.a (.l (.k 16) N3) (.l N3 (.k 60))) ha hb hc hd|omega)
theorem c1z{R:List Nat}(h:R.length=4)(hp:∀x∈R,16≤x∧x≤60){x:Int}{B:Nat}(hx0:0≤x)(hxB:x≤B)(h0:a2x R (x%R.sum)≠0) :
  0≤((R.getD (a2x R (x%R.sum)) 0:Nat):Int)*(x/R.sum)+x%R.sum-((R.take (a2x R (x%R.sum))).sum:Nat) ∧
  ((R.getD (a2x R (x%R.sum)) 0:Nat):Int)*(x/R.sum)+x%R.sum-((R.take (a2x R (x%R.sum))).sum:Nat)≤bd1 B:=by
 obtain⟨hS1,hS2,_⟩:=a8u h hp;have hs:=a9m h (Int.emod_nonneg x (show(R.sum:Int)≠0 by exact a0j (.n (.e (.c N0) (.z 0))) (.l (.k 64) N0) hS1)) (Int.emod_lt_of_pos x (show 0<(R.sum:Int) by exact a0j (.t (.z 0) (.c N0)) (.l (.k 64) N0) hS1))
 have hpl:=a9o R (x%R.sum);have ht:=b5d h hp hpl h0;have hw:16≤R.getD (a2x R (x%R.sum)) 0∧R.getD (a2x R (x%R.sum)) 0≤60:=by
  rw[List.getD_eq_getElem?_getD,List.getElem?_eq_getElem (by exact a1s (.t N0 N1) (.e N1 (.k 4)) (.l N0 (.k 3)) h hpl)]
  exact hp _ (List.getElem_mem _)
 have hxx:=Int.mul_ediv_add_emod x R.sum;have hq:0≤x/(R.sum:Int):=Int.ediv_nonneg hx0 (by exact a1x (.l (.z 0) (.c N0)))
 generalize R.getD (a2x R (x%R.sum)) 0=w at *;generalize (R.take (a2x R (x%R.sum))).sum=t at *;generalize R.sum=S at *;generalize x/(S:Int)=q at *;generalize x%(S:Int)=left at *;have n1:0≤(w:Int)*q:=Int.mul_nonneg (by exact a1x (.l (.z 0) (.c N0))) hq
 have n2:0≤(5*(S:Int)-9*w)*q:=Int.mul_nonneg (by exact a2q (.l (.z 0) (.S (.n 0 5 (.c N0)) (.n 0 9 (.c N1)))) (.a (.l (.k 16) N1) (.l N1 (.k 60))) (.a (.l (.k 16) N2) (.l (.p N1 (.k 48)) N0)) hw ht) hq
 have n3:(5*(S:Int)-9*w)*q=5*((S:Int)*q)-9*((w:Int)*q):=by rw[Int.sub_mul,Int.mul_assoc,Int.mul_assoc]
 refine⟨by exact lc2 2 [_,_] [_,_] (.l (.z 0) (.S (.P Z0 Z1) (.c N0))) (.a (.l (.c N0) Z1) (.t Z1 (.P (.c N0) (.c N1)))) (.l (.z 0) Z0) hs n1,?_⟩
 unfold bd1
 by_cases hB:B<64
 ·rw[if_pos hB]
  have hq0:q=0:=by
   rcases Int.lt_or_le q 1 with h|h
   ·exact lc2 1 [] [_] (.e Z0 (.z 0)) (.l (.z 0) Z0) (.t Z0 (.z 1)) hq h
   ·have:(S:Int)*1≤(S:Int)*q:=Int.mul_le_mul_of_nonneg_left h (by exact a1x (.l (.z 0) (.c N0)))
    omega
  subst hq0;simp only[Int.mul_zero]at *;exact lc3 4 [_,_,_,_] [_,_] (.l (.S (.P (.z 0) Z0) (.c N0)) (.c (.s N1 (.k 16)))) (.l Z1 (.c N1)) (.a (.l (.k 16) N0) (.l (.p N2 (.k 48)) N3)) (.e (.P (.z 0) Z0) Z1) hxB ht hxx
 ·rw[if_neg hB]
  omega
theorem nb{e x:Int}(h1:e≤300∨e≤x+300)(h2:-300≤e∨x-300≤e):e.natAbs≤x.natAbs+300:=by exact lc2 2 [] [_,_] (.l (.u 1 Z0) (.p (.u 1 Z1) (.k 300))) (.b 1 (.l Z0 (.z 300)) (.l Z0 (.P Z1 (.z 300)))) (.b 1 (.l (.z (Int.neg 300)) Z0) (.l (.S Z1 (.z 300)) Z0)) h1 h2
theorem c2j{R:List Nat}(h:R.length=4)(hp:∀x∈R,16≤x∧x≤60)(x:Int) :
  (((R.getD (a2x R (x%R.sum)) 0:Nat):Int)*(x/R.sum)+x%R.sum-((R.take (a2x R (x%R.sum))).sum:Nat)).natAbs≤x.natAbs+300:=by
 obtain⟨hS1,hS2,_⟩:=a8u h hp;have hs:=a9m h (Int.emod_nonneg x (show(R.sum:Int)≠0 by exact a0j (.n (.e (.c N0) (.z 0))) (.l (.k 64) N0) hS1)) (Int.emod_lt_of_pos x (show 0<(R.sum:Int) by exact a0j (.t (.z 0) (.c N0)) (.l (.k 64) N0) hS1))
 have hpl:=a9o R (x%R.sum);have hle:=a5s h hpl;have hw:16≤R.getD (a2x R (x%R.sum)) 0∧R.getD (a2x R (x%R.sum)) 0≤60:=by
  rw[List.getD_eq_getElem?_getD,List.getElem?_eq_getElem (by exact a1s (.t N0 N1) (.e N1 (.k 4)) (.l N0 (.k 3)) h hpl)]
  exact hp _ (List.getElem_mem _)
 have hxx:=Int.mul_ediv_add_emod x R.sum;have g1:=Int.emod_nonneg x (show(R.sum:Int)≠0 by exact a0j (.n (.e (.c N0) (.z 0))) (.l (.k 64) N0) hS1)
 have g2:=Int.emod_lt_of_pos x (show 0<(R.sum:Int) by exact a0j (.t (.z 0) (.c N0)) (.l (.k 64) N0) hS1)
 generalize R.getD (a2x R (x%R.sum)) 0=w at *;generalize (R.take (a2x R (x%R.sum))).sum=t at *;generalize R.sum=S at *;generalize x/(S:Int)=q at *;generalize x%(S:Int)=left at *;have t3:t≤300:=by exact a2q (.l N0 (.k 300)) (.l N1 (.k 240)) (.l (.p N0 N2) N1) hS2 hle
 have s3:S≤300:=by omega
 rcases Int.lt_or_le q 0 with hq|hq
 ·have n1:(w:Int)*q≤0:=Int.mul_nonpos_of_nonneg_of_nonpos (by exact a1x (.l (.z 0) (.c N0))) (by exact a2h (.l Z0 (.z 0)) (.t Z0 (.z 0)) hq)
  have n2:((S:Int)-w)*q≤0:=Int.mul_nonpos_of_nonneg_of_nonpos (by exact a1s (.l (.z 0) (.S (.c N0) (.c N1))) (.a (.l (.k 16) N1) (.l N1 (.k 60))) (.l (.k 64) N0) hw hS1) (by exact a2h (.l Z0 (.z 0)) (.t Z0 (.z 0)) hq)
  rw[Int.sub_mul]at n2;clear hq hs hpl hw hS1 hS2 hle;exact nb (.inl (by exact lc3 2 [_,_] [_,_] (.l (.S (.P Z0 Z1) (.c N0)) (.z 300)) (.t Z1 (.c N1)) (.l N1 (.k 300)) (.l Z0 (.z 0)) g2 s3 n1)) (.inr (by exact lc3 4 [_] [_,_,_,_] (.l (.S Z0 (.z 300)) (.S (.P Z1 Z2) (.c N0))) (.e (.P Z3 Z2) Z0) (.l N0 (.k 300)) (.l (.S Z3 Z1) (.z 0)) hxx t3 n2))
 ·have n1:0≤(w:Int)*q:=Int.mul_nonneg (by exact a1x (.l (.z 0) (.c N0))) hq
  have n2:0≤((S:Int)-w)*q:=Int.mul_nonneg (by exact a1s (.l (.z 0) (.S (.c N0) (.c N1))) (.a (.l (.k 16) N1) (.l N1 (.k 60))) (.l (.k 64) N0) hw hS1) hq
  rw[Int.sub_mul]at n2;clear hq hs hpl hw hS1 hS2 hle;exact nb (.inr (by exact lc2 4 [_] [_,_,_,_] (.l (.S (.P Z0 Z1) (.c N0)) (.P Z2 (.z 300))) (.e (.P Z3 Z1) Z2) (.l (.z 0) (.S Z3 Z0)) hxx n2)) (.inl (by exact lc3 2 [_] [_,_] (.l (.z (Int.neg 300)) (.S (.P Z0 Z1) (.c N0))) (.l (.z 0) Z1) (.l N0 (.k 300)) (.l (.z 0) Z0) g1 t3 n1))
namespace K1
variable {k:K1}
theorem b7e(ok:k.Ok):∀(n:Nat) (pre:List Nat) (x:Int) (B:Nat),0≤x→x≤B→itb n B<16→∃r,k.dec (n+1) pre x=some r
 |0=>fun pre x B h0 h1 h2=>by
  have hr:=ok.row pre;obtain⟨hS1,hS2,hS3⟩:=a8u hr.1 hr.2;have h2:B<16:=h2;have e1:x%((k.row pre).sum:Int)=x:=Int.emod_eq_of_lt h0 (by exact lc3 2 [_,_] [_] (.t Z0 (.c N0)) (.l Z0 (.c N1)) (.l (.k 64) N0) (.t N1 (.k 16)) h1 hS1 h2)
  dsimp only[dec]; rw[e1,b5c hr.1 (show 0≤3 by exact a5f (.l (.k 0) (.k 3))) (by rw[List.take_zero,List.sum_nil]; exact a2h (.l (.c (.k 0)) Z0) (.l (.z 0) Z0) h0) (by rw[List.take_zero,List.sum_nil]; exact lc3 2 [_,_] [_] (.t Z0 (.P (.c (.k 0)) (.c N0))) (.l Z0 (.c N1)) (.l (.k 16) N0) (.t N1 (.k 16)) h1 hS3 h2),if_pos rfl]
  exact⟨_,rfl⟩
 |n+1=>fun pre x B h0 h1 h2=>by
  have hr:=ok.row pre;rw[dec.eq_2];split
  ·exact⟨_,rfl⟩
  ·rename_i hp
   obtain⟨d1,d2⟩:=c1z hr.1 hr.2 h0 h1 hp;obtain⟨r,hr⟩:=b7e ok n _ _ _ d1 d2 h2;rw[hr];exact⟨_,rfl⟩
theorem dec_small(ok:k.Ok){x:Int}(h0:0≤x)(h1:x<1024):∃r,k.dec 30 [] x=some r:=b7e ok 29 [] x 1023 h0 (by exact a2h (.l Z0 (.c (.k 1023))) (.t Z0 (.z 1024)) h1) (by decide)
theorem num_size(ok:k.Ok):∀(msg pre:List Nat) (rest:Int),(∀x∈msg,x≤3)→(k.num pre msg rest).natAbs+3≤1000^msg.length*(rest.natAbs+3)
 |[]=>fun pre rest _=>by dsimp only[num]; simp
 |one::m=>fun pre rest hm=>by
  have ih:=num_size ok m (pre++[one]) rest fun x hx=>hm x (.tail _ hx);have hr:=ok.row pre;obtain⟨hS1,hS2,_⟩:=a8u hr.1 hr.2;have hw:=ok.share pre (hm one (.head _));have hle:=a5s hr.1 (hm one (.head _));rw[List.length_cons,Nat.pow_succ,Nat.mul_right_comm];refine Nat.le_trans ?_ (Nat.mul_le_mul_right 1000 ih);dsimp only[num];generalize k.num (pre++[one]) m rest=y at *;have hyy:=Int.mul_ediv_add_emod y ((k.row pre).getD one 0:Nat);have g1:=Int.emod_nonneg y (show(((k.row pre).getD one 0:Nat):Int)≠0 by exact a0j (.n (.e (.c N0) (.z 0))) (.a (.l (.k 16) N0) (.l N0 (.k 60))) hw)
  have g2:=Int.emod_lt_of_pos y (show 0<(((k.row pre).getD one 0:Nat):Int) by exact a0j (.t (.z 0) (.c N0)) (.a (.l (.k 16) N0) (.l N0 (.k 60))) hw)
  generalize (k.row pre).getD one 0=w at *;generalize ((k.row pre).take one).sum=t at *;generalize (k.row pre).sum=S at *;generalize y/(w:Int)=q at *;generalize y%(w:Int)=left at *;have hq1:q≤y.natAbs:=by
   rcases Int.lt_or_le q 0 with hq|hq
   ·exact c7j (.l Z0 (.c (.u 1 Z1))) (.t Z0 (.z 0)) hq
   ·have:1*q≤(w:Int)*q:=Int.mul_le_mul_of_nonneg_right (by exact a0j (.l (.z 1) (.c N0)) (.a (.l (.k 16) N0) (.l N0 (.k 60))) hw) hq
    exact lc3 4 [] [_,_,_,_] (.l Z0 (.c (.u 1 Z1))) (.l (.z 0) Z2) (.e (.P Z3 Z2) Z1) (.l (.n 0 1 Z0) Z3) g1 hyy this
  have hq2:-(y.natAbs:Int)-1≤q:=by
   rcases Int.lt_or_le q 0 with hq|hq
   ·have:(w:Int)*(q+1)≤1*(q+1):=Int.mul_le_mul_of_nonpos_right (by exact a0j (.l (.z 1) (.c N0)) (.a (.l (.k 16) N0) (.l N0 (.k 60))) hw) (by exact a2h (.l (.P Z0 (.z 1)) (.z 0)) (.t Z0 (.z 0)) hq)
    rw[Int.mul_add]at this
    exact lc3 4 [_] [_,_,_,_] (.l (.S (.N (.c (.u 1 Z0))) (.z 1)) Z1) (.t Z2 (.c N0)) (.e (.P Z3 Z2) Z0) (.l (.P Z3 (.n 1 1 (.c N0))) (.n 0 1 (.P Z1 (.z 1)))) g2 hyy this
   ·exact c7j (.l (.S (.N (.c (.u 1 Z0))) (.z 1)) Z1) (.l (.z 0) Z1) hq
  have n1:(S:Int)*q≤240*(y.natAbs:Int)+240:=by
   rcases Int.lt_or_le q 0 with hq|hq
   ·have:(S:Int)*q≤0:=Int.mul_nonpos_of_nonneg_of_nonpos (by exact a1x (.l (.z 0) (.c N0))) (by exact a2h (.l Z0 (.z 0)) (.t Z0 (.z 0)) hq)
    exact c7j (.l Z0 (.P (.n 0 240 (.c (.u 1 Z1))) (.z 240))) (.l Z0 (.z 0)) this
   ·have a1:(S:Int)*q≤240*q:=Int.mul_le_mul_of_nonneg_right (by exact a0j (.l (.c N0) (.z 240)) (.l N0 (.k 240)) hS2) hq
    exact lc2 3 [] [_,_,_] (.l Z0 (.P (.n 0 240 (.c (.u 1 Z1))) (.z 240))) (.l Z2 (.c (.u 1 Z1))) (.l Z0 (.n 0 240 Z2)) hq1 a1
  have n2:-(240*(y.natAbs:Int)+240)≤(S:Int)*q:=by
   rcases Int.lt_or_le q 0 with hq|hq
   ·have a1:240*q≤(S:Int)*q:=Int.mul_le_mul_of_nonpos_right (by exact a0j (.l (.c N0) (.z 240)) (.l N0 (.k 240)) hS2) (by exact a2h (.l Z0 (.z 0)) (.t Z0 (.z 0)) hq)
    exact lc2 3 [] [_,_,_] (.l (.N (.P (.n 0 240 (.c (.u 1 Z0))) (.z 240))) Z1) (.l (.S (.N (.c (.u 1 Z0))) (.z 1)) Z2) (.l (.n 0 240 Z2) Z1) hq2 a1
   ·have:0≤(S:Int)*q:=Int.mul_nonneg (by exact a1x (.l (.z 0) (.c N0))) hq
    exact c7j (.l (.N (.P (.n 0 240 (.c (.u 1 Z0))) (.z 240))) Z1) (.l (.z 0) Z1) this
  exact lc6 3 [_,_,_] [_,_,_] (.l (.p (.u 1 (.P (.P Z0 (.c N0)) Z1)) (.k 3)) (.m 1 1000 (.p (.u 1 Z2) (.k 3)))) (.l N1 (.k 240)) (.l (.p N0 N2) N1) (.l (.z 0) Z1) (.t Z1 (.c N2)) (.l Z0 (.P (.n 0 240 (.c (.u 1 Z2))) (.z 240))) (.l (.N (.P (.n 0 240 (.c (.u 1 Z2))) (.z 240))) Z0) hS2 hle g1 g2 n1 n2
theorem sums_pos(ok:k.Ok):∀(msg pre:List Nat),(∀x∈msg,x≤3)→0<k.sums pre msg∧0<k.shares pre msg∧k.sums pre msg≤1000^msg.length∧k.shares pre msg≤1000^msg.length
 |[]=>fun pre _=>⟨Nat.one_pos,Nat.one_pos,Nat.le_refl _,Nat.le_refl _⟩
 |one::m=>fun pre hm=>by
  obtain⟨h1,h2,h3,h4⟩:=sums_pos ok m (pre++[one]) fun x hx=>hm x (.tail _ hx);have hr:=ok.row pre;obtain⟨hS1,hS2,_⟩:=a8u hr.1 hr.2;have hw:=ok.share pre (hm one (.head _))
  (dsimp only[sums,shares,List.length_cons]; simp only[Nat.pow_succ])
  exact⟨Nat.mul_pos h1 (by exact a0j (.t (.k 0) N0) (.l (.k 64) N0) hS1),Nat.mul_pos h2 (by exact a0j (.t (.k 0) N0) (.a (.l (.k 16) N0) (.l N0 (.k 60))) hw),Nat.mul_le_mul h3 (by omega),Nat.mul_le_mul h4 (by omega)⟩
theorem quot(ok:k.Ok):∀(msg pre:List Nat) (rest:Int) (m:Nat),0<m→(∀x∈msg,x≤3)→k.num pre msg rest/((k.sums pre msg*m:Nat):Int)=rest/((k.shares pre msg*m:Nat):Int)
 |[]=>fun pre rest m hm _=>by dsimp only[num,sums,shares]
 |one::r=>fun pre rest m hm h3=>by
  have hr:=ok.row pre;have ho:=h3 one (.head _);have hw:=ok.share pre ho;obtain⟨hS1,hS2,_⟩:=a8u hr.1 hr.2;obtain⟨p1,p2,_⟩:=sums_pos ok r (pre++[one]) fun x hx=>h3 x (.tail _ hx);have ih:=quot ok r (pre++[one]) rest ((k.row pre).getD one 0*m) (Nat.mul_pos (by exact a0j (.t (.k 0) N0) (.a (.l (.k 16) N0) (.l N0 (.k 60))) hw) hm) fun x hx=>h3 x (.tail _ hx)
  have hb:=(a8r hr.1 hr.2 ho (k.num (pre++[one]) r rest)).1;have e1:(((k.sums (pre++[one]) r*(k.row pre).sum)*m:Nat):Int)=((k.row pre).sum:Int)*((k.sums (pre++[one]) r*m:Nat):Int):=by
   rw[←Int.natCast_mul]; congr 1; rw[Nat.mul_comm (k.sums _ _) (k.row pre).sum,Nat.mul_assoc]
  have e2:((k.sums (pre++[one]) r*((k.row pre).getD one 0*m):Nat):Int)=(((k.row pre).getD one 0:Nat):Int)*((k.sums (pre++[one]) r*m:Nat):Int):=by
   rw[←Int.natCast_mul]; congr 1; rw[Nat.mul_left_comm]
  dsimp only[num,sums,shares];rw[e1,←Int.ediv_ediv_of_nonneg (by exact a1x (.l (.z 0) (.c N0))),hb,Nat.mul_assoc (k.shares _ _),←ih,e2,←Int.ediv_ediv_of_nonneg (by exact a1x (.l (.z 0) (.c N0)))]
end K1
structure K1.Told(k:K1)(codes:List Nat):Prop where
 c4:codes.length=4
 c0:codes.getD 0 1=0
 cp:∀j,1≤j→j≤3→codes.getD j 0≠0
 ct:∀j,1≤j→j≤3→Spec.lookup (.int (codes.getD j 0:Nat)) a0o=some (.str (Mw.Internal.mk (k.names.getD j [])))
 d0:∀p∈k.p0,46∉p
 d1:∀p∈k.p1,46∉p
theorem c4y{n:Nat}{k:K1}(ok:k.Ok){i j:Nat}(hi:i<3){L:List d8e}{ow:List OV}{Q:V→List OV→Prop}(hn:2≤n)(hL:L.length<1000000)(hj:ow[j]?=some (.lst L))(h:Q (.dat (.list (a0c (k.wts.getD i [])))) (ow.set j (.lst (L++[.int (i:Int)])))) :
  a1w n 14 true ["tables", "asked"] [.dat (.int (i:Int)),.dat k.wD,.own j] ow Q:=by
 obtain⟨l,rfl⟩:∃m,n=m+2:=⟨n-2,by omega⟩
 refine⟨Nat.succ_pos _,fun _=>rfl,by rfl,rfl,rfl,?_⟩
 refine wq2 ?_;dsimp![hj];refine⟨⟨_,rfl⟩,hL,?_⟩
 (refine wq2 ?_; rw[K1.wD])
 dsimp![c6d ok i hi];refine⟨by exact a0j (.a (.l (.z (Int.neg 1000000)) (.c N0)) (.l (.c N0) (.z 1000000))) (.t N0 (.k 3)) hi,?_⟩
 rw[List.take_of_length_le (by simp)]
 exact h
theorem c8g{n:Nat}{k:K1}(ok:k.Ok){i j:Nat}(hi:i<3){L:List d8e}{ow:List OV}{Q:V→List OV→Prop}(hn:3≤n)(hL:L.length<1000000)(hj:ow[j]?=some (.lst L))(h:Q (.twin (.list (a0c (k.wts.getD i [])))) (ow.set j (.lst (L++[.int (i:Int)])))) :
  a1w n 6 true ["tables", "asked"] [.dat (.int (i:Int)),.fn 14,.dat k.wD,.own j] ow Q:=by
 obtain⟨l,rfl⟩:∃m,n=m+3:=⟨n-3,by omega⟩
 refine⟨Nat.succ_pos _,_,_,_,rfl,rfl,rfl,by decide +kernel,by decide +kernel,by decide,?_⟩
 exact c4y ok hi (by omega) hL hj ⟨_,rfl,.inl h⟩
theorem d5i:∀b1 b2 b3:Bool,c3h (.int 0::(([(1,b1),(2,b2),(3,b3)]:List (Nat×Bool)).filter (·.2)).map fun p=>.int (p.1:Int))=some ((if b3=true then 3 else if b2=true then 2 else if b1=true then 1 else 0:Nat):Int):=by decide
theorem c4r(R:List Nat)(left:Int):c3h (.int 0::(([1,2,3]:List Nat).filter fun j=>decide (((R.take j).sum:Int)≤left)).map fun(j:Nat)=>.int (j:Int))=some ((a2x R left:Nat):Int):=by
 have k:=d5i (decide (((R.take 1).sum:Int)≤left)) (decide (((R.take 2).sum:Int)≤left)) (decide (((R.take 3).sum:Int)≤left));simp only[decide_eq_true_eq]at k;rw[show([(1,decide (((R.take 1).sum:Int)≤left)),(2,decide (((R.take 2).sum:Int)≤left)),(3,decide (((R.take 3).sum:Int)≤left))]:List (Nat×Bool))=([1,2,3]:List Nat).map fun j=>(j,decide (((R.take j).sum:Int)≤left)) from rfl,List.filter_map,List.map_map]at k
 exact k
noncomputable def K1.patD(k:K1):d8e:=.list [.str (Mw.Internal.mk (jn a6s k.p0)),.str (Mw.Internal.mk (jn a6s k.p1))]
structure K1.Pat(k:K1):Prop where
 l0:(jn a6s k.p0).length≤1000
 l1:(jn a6s k.p1).length≤1000
theorem ws3{Γ:Ctx}{r a wh f:Nat}{as:Es}{kvs:Es}{ss:Ss}{st:St}{Q:Fl→St→Prop}:a1n Γ tk (.info r a wh f as ks kvs ss) st Q=wpAs Γ as st [] fun vs st=>wpRs Γ kvs st [] fun ws st=>Γ f st.hz ks (vs++ws) st.own fun v ow=>match v with
  |.twin (.list l)=>match c3g l with
   |some n=>(l.length≤1000000∧∀d∈l,∃j:Int,d=.int j∧j.natAbs<2^32)∧a1n Γ tk ss ((((({ st with own:=ow }:St).set r (.dat (.list l))).set a (.dat (.list l)))).set wh (.dat (.int n))) Q
   |none=>False
  |_=>False:=rfl
inductive TI(k:K1)(codes:List Nat)(r x:Int)(msg:List Nat)(ow:List OV)(rst:List Nat):St→Prop
 |mk (s:Nat) (pre m':List Nat) (x':Int) (Tl Lk:List d8e) (v:Nat→V) (hs:s≤30) (hr:rst=List.range' s (30-s)) (hpl:pre.length=s) (hp3:∀y∈pre,y≤3) (hdec:k.dec (30-s) pre x'=some (m',r)) (hmsg:msg=pre++m') (htold:k.told [] msg=Tl++k.told pre m') (hTl:Tl.length=s) (hLl:Lk.length=s) (hxs:x'.natAbs≤x.natAbs+300*s) :
  TI k codes r x msg ow rst ⟨[.dat (.int x'),.dat (.list (a0c codes)),.tab a0o,.dat k.patD,.dat k.wD,.own ow.length,.own (ow.length+1),.dat (.str (mk (k.txt pre))),v 8,v 9,v 10,v 11,v 12,v 13,v 14,v 15,v 16,v 17,v 18,v 19,v 20,v 21],ow++[.lst Tl,.lst Lk],true⟩
noncomputable def fv(vs:List V):Nat→V:=fun i=>vs.getD (i-8) .undef
theorem K1.txt_snoc(k:K1)(pre:List Nat)(one:Nat):k.txt pre++k.names.getD one []=k.txt (pre++[one]):=by simp[K1.txt]
theorem c2m{l:Nat}{k:K1}{codes:List Nat}(tl:k.Told codes){d0 d3 d4 d8 d11 d12 d13 d14 d17 d18 d19 d20 d21:V}{t t2 R:List Nat}{q left:Int}{one:Nat}{b0 b1:Bool}{ow:List OV}{Tl Lk:List d8e}{Q:Fl→St→Prop}(hR:R.length=4∧∀x∈R,16≤x∧x≤60)(hone:a2x R left=one)(hp3:one≤3)(hsh:R.getD one 0≤60)(hT:Tl.length≤30)(hL:Lk.length≤1000000)(ht:t++k.names.getD one []=t2)(ht2:t2.length≤1000)
 (hret:one=0→Q (.ret (.list [.list (Tl++[.list [.int (one:Int),.str (mk t),.bool b0,.bool b1,.bool !b0,.bool !b1]]),.int (((R.getD one 0:Nat):Int)*q+left-((R.take one).sum:Nat)),.int (Lk.length:Int)])) ⟨[.dat (.int (((R.getD one 0:Nat):Int)*q+left-((R.take one).sum:Nat))),.dat (.list (a0c codes)),.tab a0o,d3,d4,.own ow.length,.own (ow.length+1),.dat (.str (mk t)),d8,.dat (.list [.bool b0,.bool b1]),.dat (.list (a0c R)),d11,d12,d13,d14,.dat (.int q),.dat (.int left),.dat (.int (one:Int)),d18,d19,d20,d21],ow++[.froz (Tl++[.list [.int (one:Int),.str (mk t),.bool b0,.bool b1,.bool !b0,.bool !b1]]),.lst Lk],true⟩)
 (hnext:one≠0→Q .next ⟨[.dat (.int (((R.getD one 0:Nat):Int)*q+left-((R.take one).sum:Nat))),.dat (.list (a0c codes)),.tab a0o,d3,d4,.own ow.length,.own (ow.length+1),.dat (.str (mk t2)),d8,.dat (.list [.bool b0,.bool b1]),.dat (.list (a0c R)),d11,d12,d13,d14,.dat (.int q),.dat (.int left),.dat (.int (one:Int)),d18,d19,d20,d21],ow++[.lst (Tl++[.list [.int (one:Int),.str (mk t),.bool b0,.bool b1,.bool !b0,.bool !b1]]),.lst Lk],true⟩) :
  a1n (a1w (l+21)) a0o (Ss.tl (Ss.tl (Ss.tl (Ss.tl (Ss.tl (S.body (Ss.hd (Ss.tl L1.law_told)))))))) ⟨[d0,.dat (.list (a0c codes)),.tab a0o,d3,d4,.own ow.length,.own (ow.length+1),.dat (.str (mk t)),d8,.dat (.list [.bool b0,.bool b1]),.dat (.list (a0c R)),d11,d12,d13,d14,.dat (.int q),.dat (.int left),d17,d18,d19,d20,d21],ow++[.lst Tl,.lst Lk],true⟩ Q:=by
 have hR60:∀y∈R,y<2^32:=fun y hy=>Nat.lt_of_le_of_lt (hR.2 y hy).2 (by decide)
 have h1R:one<R.length:=by rw[hR.1]; omega
 have h1c:one<codes.length:=by rw[tl.c4]; omega
 have hln:(R.take one).length≤1000000:=by rw[List.length_take,hR.1]; exact a1x (.l (.b 2 N0 (.k 4)) (.k 1000000))
 dsimp only[Ss.tl,Ss.hd,S.body,L1.law_told];refine wq2 ?_;simp_all![];refine b4f (g:=fun(e:Nat)=>PyData.int (e:Int)) (fun j=>decide (((R.take j).sum:Int)≤left)) (fun(j:Nat)=>.int (j:Int)) [1,2,3] (by rfl) (fun j hj acc K hacc hK=>?_) (by decide) fun st' h1 h2=>?_
 ·simp_all![a2a,d1a]
  refine⟨by rw[hR.1]; decide,⟨by rw[List.length_take,hR.1]; exact a1x (.l (.b 2 N0 (.k 4)) (.k 1000000)),a2o fun y hy=>hR60 y (List.mem_of_mem_take hy)⟩,?_⟩
  by_cases hc:decide (((R.take j).sum:Int)≤left)=true
  ·refine ifp hc ?_
   rw[if_pos hc]at hK;exact⟨hacc,hK⟩
  ·refine ifn hc ?_
   rw[if_neg hc]at hK;exact hK
 rw[show st'.own=_ from h1,show st'.hz=true from h2]
 have hmx:=c4r R left;rw[hone]at hmx;have hFL:((([1,2,3]:List Nat).filter fun j=>decide (((R.take j).sum:Int)≤left)).map (fun(j:Nat)=>PyData.int (j:Int))).length≤3:=by
  rw[List.length_map]; exact List.length_filter_le _ _
 generalize (([1,2,3]:List Nat).filter fun j=>decide (((R.take j).sum:Int)≤left)).map (fun(j:Nat)=>PyData.int (j:Int))=FL at hmx hFL ⊢;simp only[hmx];refine⟨by exact a0j (.l (.p O1 N0) (.k 1000000)) (.l N0 (.k 3)) hFL,?_⟩
 refine wq2 ?_;simp_all![a0x h1R,a1m h1R,a2a,d1a];refine⟨by exact a0j (.a (.l (.z (Int.neg 1000000)) (.c N0)) (.l (.c N0) (.z 1000000))) (.l N0 (.k 3)) hp3,.inl (by rw[Int.natAbs_natCast]; omega),by rw[hR.1]; decide,⟨hln,a2o fun y hy=>hR60 y (List.mem_of_mem_take hy)⟩,?_⟩
 refine wq2 ?_;simp_all![];refine⟨⟨_,rfl⟩,?_⟩;dsimp only[a1q];refine lqF ?_;simp_all![];refine⟨by decide,?_⟩
 refine lqF ?_;simp_all![];refine⟨by decide,by decide,?_⟩
 refine lqF ?_;simp_all![];refine⟨by decide,?_⟩
 refine lqF ?_;simp_all![];refine⟨by decide,by decide,?_⟩
 refine⟨by omega,?_⟩
 simp only[beq_true,beq_false];refine wq2 ?_;simp_all![a0x h1c,a1m h1c];refine⟨by exact a0j (.a (.l (.z (Int.neg 1000000)) (.c N0)) (.l (.c N0) (.z 1000000))) (.l N0 (.k 3)) hp3,?_⟩
 refine d0t (by omega) ⟨⟨_,rfl⟩,?_⟩
 simp_all![]
 by_cases ho0:one=0
 ·have hc:((codes.getD one 0:Nat):Int)=0:=by
   have:=tl.c0
   have h4:=tl.c4;subst ho0;rw[List.getD_eq_getElem?_getD,List.getElem?_eq_getElem (by omega)]at this ⊢
   exact congrArg _ this
  (refine ifp (by rw[hc]; rfl) ?_; refine wq2 ?_)
  simp_all![];refine⟨hL,?_⟩;exact hret ho0
 ·have hc:=tl.cp one (by exact a0j (.l O1 N0) (.n (.e N0 (.k 0))) ho0) hp3
  (refine ifn (by simpa using hc) ?_; refine wq1 ?_; refine wq2 ?_)
  simp_all![a0x h1c,a1m h1c,tl.ct one (by exact a0j (.l O1 N0) (.n (.e N0 (.k 0))) ho0) hp3]
  refine⟨by exact a0j (.a (.l (.z (Int.neg 1000000)) (.c N0)) (.l (.c N0) (.z 1000000))) (.l N0 (.k 3)) hp3,?_⟩
  rw[ht];refine⟨Nat.le_trans (m:=1000) (by rw[←List.length_append,ht]; exact ht2) (by decide),?_⟩
  refine wq1 ?_;exact hnext ho0
theorem c6s{n:Nat}{k:K1}(ok:k.Ok){codes:List Nat}(tl:k.Told codes)(pt:k.Pat){x:Int}{r:Int}{ow:List OV}{Q:V→List OV→Prop}(hn:22≤n)(hx:x.natAbs<2^300)(hd:k.dec 30 [] x=some (msg,r))
 (h:Q (.dat (.list [.list (k.told [] msg),.int r,.int (msg.length:Int)])) ow) :
  a1w n 15 true [] [.dat (.int x),.dat (.list (a0c codes)),.tab a0o,.dat k.patD,.dat k.wD] ow Q:=by
 obtain⟨l,rfl⟩:∃m,n=m+22:=⟨n-22,by omega⟩
 refine⟨Nat.succ_pos _,fun _=>rfl,rfl,rfl,?_⟩;dsimp only[L1.law_told,L1.law_told_nl];refine wq2 ?_;simp_all![]
 (refine wq2 ?_; refine wqf ?_)
 simp_all![];refine⟨by exact a5f (.a (.l (.z (Int.neg 1000000)) (.z 30)) (.l (.z 30) (.z 1000000))),?_⟩
 rw[show b9b 0 (30:Int).toNat=a0c (List.range' 0 30) from b1s 0 30]
 rw[a5a];refine a3u (g:=fun(e:Nat)=>PyData.int (e:Int)) (TI k codes r x msg ow) (fun a rst st K hI hK hRet=>?_) _ _
  (.mk 0 [] msg x [] [] (fun _=>.undef) (Nat.zero_le _) rfl rfl (fun _ h=>nomatch h) hd rfl rfl rfl rfl (Nat.le_refl _)) (fun st hI=>?_)
 ·obtain⟨s,pre,m',x',Tl,Lk,v,hs,hr,hpl,hp3,hdec,hmsg,htold,hTl,hLl,hxs⟩:=hI
  have hs30:s<30:=by
   rcases Nat.lt_or_ge s 30 with h|h
   ·exact h
   ·rw[show 30-s=0 from by exact a0j (.e (.s (.k 30) N0) (.k 0)) (.l (.k 30) N0) h]at hr; cases hr
  rw[show 30-s=(30-(s+1))+1 from by exact a0j (.e (.s (.k 30) N0) (.p (.s (.k 30) (.p N0 O1)) O1)) (.t N0 (.k 30)) hs30,List.range'_succ]at hr
  obtain⟨rfl,rfl⟩:=List.cons.inj hr;rw[show 30-a=(30-(a+1))+1 from by exact a0j (.e (.s (.k 30) N0) (.p (.s (.k 30) (.p N0 O1)) O1)) (.t N0 (.k 30)) hs30]at hdec
  have htx:=ok.txtl pre;have hR:=ok.row pre;have hRow:k.row pre=k.wts.getD (k.ri (k.txt pre)) []:=rfl;have hri:=K1.ri_lt (k:=k) (k.txt pre);refine lqS ?_;simp_all![];refine wq2 ?_;simp_all![K1.patD];dsimp only[a1q];refine lqF ?_;simp_all![];have hp0l:∀p∈k.p0,p.length≤1000:=fun p hp=>Nat.le_trans (ok.pl p (by simp[hp])) (by decide)
  have hp1l:∀p∈k.p1,p.length≤1000:=fun p hp=>Nat.le_trans (ok.pl p (by simp[hp])) (by decide)
  refine d1p (by omega) (by exact lc3 3 [_,_,_] [] (.l N0 (.k 1000)) (.e N1 N2) (.t N2 (.k 30)) (.l N0 (.m 0 3 N1)) hpl hs30 htx) ok.p0n tl.d0 pt.l0 (Nat.le_trans ok.pk.1 (by decide)) hp0l ⟨⟨_,rfl⟩,?_⟩
  simp_all![];refine⟨by decide,?_⟩
  refine lqF ?_;simp_all![];refine d1p (by omega) (by exact lc3 3 [_,_,_] [] (.l N0 (.k 1000)) (.e N1 N2) (.t N2 (.k 30)) (.l N0 (.m 0 3 N1)) hpl hs30 htx) ok.p1n tl.d1 pt.l1 (Nat.le_trans ok.pk.2 (by decide)) hp1l ⟨⟨_,rfl⟩,?_⟩
  simp_all![];refine⟨by decide,?_⟩
  obtain⟨hS1,hS2,_⟩:=a8u hR.1 hR.2;have hlink:k.row pre=k.wts.getD (k.ri (k.txt pre)) []:=rfl;generalize hRr:k.row pre=R at hR hlink hS1 hS2;have hpk3:=a9o R (x'%R.sum);have hsz:=c2j hR.1 hR.2 x';have hRget:R.length=4:=hR.1;have hR60:∀y∈R,y<2^32:=fun y hy=>Nat.lt_of_le_of_lt (hR.2 y hy).2 (by decide)
  generalize hone:a2x R (x'%R.sum)=one at hpk3 hsz;have hsh:R.getD one 0≤60:=by
   rw[List.getD_eq_getElem?_getD,List.getElem?_eq_getElem (by exact a1s (.t N0 N1) (.e N1 (.k 4)) (.l N0 (.k 3)) hR.1 hpk3)]
   exact(hR.2 _ (List.getElem_mem _)).2
  have hfin:=hdec
  (dsimp only[K1.dec]at hfin; rw[hRr,hone]at hfin)
  have tail1:∀{v13 v14 v15 v16 v17 v18 v19 v20 v21:V} {Lk':List d8e},Lk'.length=a+1→
    a1n (a1w (l+21)) a0o (Ss.tl (Ss.tl (S.body (Ss.hd (Ss.tl L1.law_told))))) ⟨[.dat (.int x'),.dat (.list (a0c codes)),.tab a0o,.dat k.patD,.dat k.wD,.own ow.length,.own (ow.length+1),.dat (.str (mk (k.txt pre))),.dat (.int (a:Int)),.dat (.list [.bool (a1y k.p0 (k.txt pre)),.bool (a1y k.p1 (k.txt pre))]),.dat (.list (a0c R)),.dat (.list (a0c R)),.dat (.int (R.sum:Nat)),v13,v14,v15,v16,v17,v18,v19,v20,v21],ow++[.lst Tl,.lst Lk'],true⟩ K:=by
   intro v13 v14 v15 v16 v17 v18 v19 v20 v21 Lk' hLk';have fin:∀{v13 v14 v17 v18 v19 v20 v21:V},a1n (a1w (l+21)) a0o (Ss.tl (Ss.tl (Ss.tl (Ss.tl (Ss.tl (S.body (Ss.hd (Ss.tl L1.law_told)))))))) ⟨[.dat (.int x'),.dat (.list (a0c codes)),.tab a0o,.dat k.patD,.dat k.wD,.own ow.length,.own (ow.length+1),.dat (.str (mk (k.txt pre))),.dat (.int (a:Int)),.dat (.list [.bool (a1y k.p0 (k.txt pre)),.bool (a1y k.p1 (k.txt pre))]),.dat (.list (a0c R)),.dat (.list (a0c R)),.dat (.int (R.sum:Nat)),v13,v14,.dat (.int (x'/R.sum)),.dat (.int (x'%R.sum)),v17,v18,v19,v20,v21],ow++[.lst Tl,.lst Lk'],true⟩ K:=by
    intro v13 v14 v17 v18 v19 v20 v21;have hti:(k.txt (pre++[one])).length≤1000:=Nat.le_trans (ok.txtl _) (by rw[List.length_append,List.length_singleton,hpl]; exact a0j (.l (.m 0 3 (.p N0 O1)) (.k 1000)) (.t N0 (.k 30)) hs30)
    refine c2m tl hR hone hpk3 hsh (by exact a1s (.l N0 (.k 30)) (.e N0 N1) (.t N1 (.k 30)) hTl hs30) (by exact a1s (.l N0 (.k 1000000)) (.t N1 (.k 30)) (.e N0 (.p N1 O1)) hs30 hLk') (k.txt_snoc pre one) hti (fun h0=>?_) (fun h0=>?_)
    ·rw[h0,if_pos rfl]at hfin
     obtain⟨rfl,e2⟩:=Prod.mk.inj (Option.some.inj hfin)
     (dsimp only[K1.told]at htold)
     rw[htold,hmsg]at h;simp only[List.length_append,List.length_singleton,hpl]at h;have e3:((R.getD one 0:Nat):Int)*(x'/R.sum)+x'%R.sum-((R.take one).sum:Nat)=r:=by
      rw[←e2,h0,List.take_zero,List.sum_nil]; exact Int.sub_zero _
     refine hRet _ _ ?_;show Q (.dat (.list [.list (Tl++[k.ent one pre]),.int (((R.getD one 0:Nat):Int)*(x'/R.sum)+x'%R.sum-((R.take one).sum:Nat)),.int (Lk'.length:Int)])) (List.take ow.length (ow++[.froz (Tl++[k.ent one pre]),.lst Lk']));rw[e3,hLk',List.take_append_of_le_length (Nat.le_refl _),List.take_length,h0];exact h
    ·rw[if_neg h0,Option.map_eq_some_iff]at hfin
     obtain⟨⟨m2,r2⟩,hd2,he⟩:=hfin;obtain⟨rfl,rfl⟩:=Prod.mk.inj he;refine hK _ (.mk (a+1) (pre++[one]) m2 _ (Tl++[k.ent one pre]) Lk' (fv [_,_,_,_,_,_,_,_,_,_,_,_,_,_]) (by exact a0j (.l (.p N0 O1) (.k 30)) (.t N0 (.k 30)) hs30) rfl (by simp[hpl]) ?_ hd2 (by rw[hmsg]; simp) ?_ (by simp[hTl]) hLk' ?_)
     ·intro y hy
      rcases List.mem_append.mp hy with hy|hy
      ·exact hp3 y hy
      ·rw[List.mem_singleton.mp hy]; exact hpk3
     ·(rw[htold]; dsimp only[K1.told]); simp
     ·exact Nat.le_trans hsz (Nat.le_trans (Nat.add_le_add_right hxs 300) (Nat.le_of_eq (by rw[Nat.add_assoc,Nat.mul_succ])))
   have big:(2:Nat)^301≤2^400:=Nat.pow_le_pow_right (by decide) (by decide)
   have hxn:x'.natAbs<2^400:=Nat.lt_of_le_of_lt (Nat.le_trans hxs (show _≤x.natAbs+2^300 from Nat.add_le_add_left (Nat.le_trans (show 300*a≤9000 by exact a0j (.l (.m 0 300 N0) (.k 9000)) (.t N0 (.k 30)) hs30) (Nat.le_trans (show 9000≤2^14 by decide) (Nat.pow_le_pow_right (by decide) (by decide)))) _)) (Nat.lt_of_lt_of_le (Nat.add_lt_add_right hx _) (by rw[←Nat.two_mul,←Nat.pow_succ']; exact big))
   have hS0:((R.sum:Nat):Int)≠0:=by exact a0j (.n (.e (.c N0) (.z 0))) (.l (.k 64) N0) hS1
   have hSn:((R.sum:Nat):Int).natAbs<2^400:=by rw[Int.natAbs_natCast]; exact Nat.lt_of_lt_of_le (show R.sum<2^10 by omega) (Nat.pow_le_pow_right (by decide) (by decide))
   dsimp only[Ss.tl,Ss.hd,S.body,L1.law_told];have ha3:a%3=0∨a%3=1∨a%3=2:=by exact a0j (.b 1 (.e N0 (.k 0)) (.b 1 (.e N0 O1) (.e N0 (.k 2)))) (.t N0 (.k 3)) (ml rfl)
   rcases ha3 with h0|h0|h0
   ·have h3:(a:Int).fmod 3=0:=(a0t a 3).trans (by rw[h0]; rfl)
    refine wq2 ?_;simp_all![h3];refine⟨by decide,by decide,?_⟩
    refine wq2 ?_;simp_all![];refine b9m (by omega) hxn hSn hS0 ⟨⟨_,rfl⟩,?_⟩
    simp_all![a1v,a2s];refine wq2 ?_;simp_all![h3];refine⟨by decide,by decide,?_⟩
    exact fin
   ·have h3:(a:Int).fmod 3=1:=(a0t a 3).trans (by rw[h0]; rfl)
    refine wq2 ?_;simp_all![h3];refine⟨by decide,by decide,?_⟩
    refine wq2 ?_;simp_all![];refine b9m (by omega) (by rw[Int.natAbs_neg]; exact hxn) (by rw[Int.natAbs_neg]; exact hSn) (by exact a0j (.n (.e (.N (.c N0)) (.z 0))) (.l (.k 64) N0) hS1) ⟨⟨_,rfl⟩,?_⟩
    have e1:(-x').fdiv (-((R.sum:Nat):Int))=x'/R.sum:=by rw[Int.neg_fdiv_neg,a1v]
    have e2:-(-x').fmod (-((R.sum:Nat):Int))=x'%R.sum:=by
     have h1:=Int.fmod_def (-x') (-((R.sum:Nat):Int));have h2:=Int.fmod_def x' ((R.sum:Nat):Int);rw[a2s,a1v]at h2;rw[e1,Int.neg_mul]at h1;exact lc2 4 [] [_,_,_,_] (.e (.N Z0) Z1) (.e Z0 (.S (.N Z2) (.N Z3))) (.e Z1 (.S Z2 Z3)) h1 h2
    simp_all![];refine wq2 ?_;simp_all![h3];refine⟨by decide,by decide,?_⟩
    rw[e1,e2];exact fin
   ·have h3:(a:Int).fmod 3=2:=(a0t a 3).trans (by rw[h0]; rfl)
    have eb:Builtin.bitNot x'=-x'-1:=by unfold Builtin.bitNot; exact lc0 1 [] [_] (.e (.S (.N Z0) (.z 1)) (.S (.N Z0) (.z 1)))
    have hd:=c0l x' R.sum (by exact a0j (.t (.z 0) (.c N0)) (.l (.k 64) N0) hS1)
    refine wq2 ?_;simp_all![h3];refine⟨by decide,by decide,?_⟩
    refine wq2 ?_;simp_all![];rw[eb];refine b9m (by omega) (by exact lc3 2 [_] [_,_] (.t (.u 1 (.S (.N Z0) (.z 1))) (.k (Nat.pow 2 400))) (.t (.u 1 Z1) (.k (Nat.pow 2 300))) (.l N0 (.k 30)) (.l (.u 1 Z0) (.p (.u 1 Z1) (.m 0 300 N0))) hx hs hxs) hSn hS0 ⟨⟨_,rfl⟩,?_⟩
    simp_all![];refine wq2 ?_;simp_all![h3];refine⟨by decide,by decide,?_⟩
    have e1:Builtin.bitNot ((-x'-1).fdiv ((R.sum:Nat):Int))=x'/R.sum:=by rw[hd.1,a1v]; unfold Builtin.bitNot; omega
    have e2:((R.sum:Nat):Int)-1-(-x'-1).fmod ((R.sum:Nat):Int)=x'%R.sum:=by rw[hd.2,a2s]; omega
    rw[e1,e2];exact fin
  have hR':R=k.wts.getD (k.ri (k.txt pre)) []:=hlink;have hw3:=d1a R;have hsmall:=a2o hR60;have hRl:(a0c R).length≤1000000:=by rw[intsL_length]; exact a0j (.l N0 (.k 1000000)) (.e N0 (.k 4)) hR.1
  have hasked:(ow++[OV.lst Tl,OV.lst Lk])[ow.length+1]?=some (.lst Lk):=own_ix ow _ 1;have hset:∀o:OV,(ow++[OV.lst Tl,OV.lst Lk]).set (ow.length+1) o=ow++[OV.lst Tl,o]:=fun o=>own_set ow _ 1 o;rw[ws3];simp_all![];refine⟨by decide,?_⟩
  by_cases b0:a1y k.p0 (k.txt pre)=true
  ·refine ifp b0 ?_
   have hi:k.ri (k.txt pre)=0:=by(rw[K1.ri]; rw[if_pos b0])
   rw[hi]at hR';refine c8g ok (i:=0) (by decide) (by omega) (by exact a1s (.t N0 (.k 1000000)) (.e N0 N1) (.t N1 (.k 30)) hLl hs30) hasked ?_
   rw[←hR',hset];simp only[hw3];exact⟨⟨hRl,hsmall⟩,tail1 (by rw[List.length_append,hLl]; rfl)⟩
  ·refine ifn b0 ?_
   refine⟨by decide,?_⟩
   by_cases b1:a1y k.p1 (k.txt pre)=true
   ·refine ifp b1 ?_
    have hi:k.ri (k.txt pre)=1:=by(rw[K1.ri]; rw[if_neg b0]; rw[if_pos b1])
    rw[hi]at hR';refine c8g ok (i:=1) (by decide) (by omega) (by exact a1s (.t N0 (.k 1000000)) (.e N0 N1) (.t N1 (.k 30)) hLl hs30) hasked ?_
    rw[←hR',hset];simp only[hw3];exact⟨⟨hRl,hsmall⟩,tail1 (by rw[List.length_append,hLl]; rfl)⟩
   ·refine ifn b1 ?_
    have hi:k.ri (k.txt pre)=2:=by(rw[K1.ri]; rw[if_neg b0]; rw[if_neg b1])
    rw[hi]at hR';refine c8g ok (i:=2) (by decide) (by omega) (by exact a1s (.t N0 (.k 1000000)) (.e N0 N1) (.t N1 (.k 30)) hLl hs30) hasked ?_
    rw[←hR',hset];simp only[hw3];exact⟨⟨hRl,hsmall⟩,tail1 (by rw[List.length_append,hLl]; rfl)⟩
 ·obtain⟨s,pre,m',x',Tl,Lk,v,hs,hr,hpl,hp3,hdec,hmsg,htold,hTl,hLl,hxs⟩:=hI
  have hs0:30-s=0:=by
   have:=congrArg List.length hr
   simpa using this.symm
  rw[hs0]at hdec;cases hdec
noncomputable def Enc:List Nat→List Nat→Prop
 |os,[]=>os=[]
 |os,v::vs=>∃o1 r,os=o1++r∧vi 0 o1 v∧v<2^400∧Enc r vs
theorem d0w(l:List d8e):PyData.eqv (.list l) (.list [])=l.isEmpty:=by
 cases l <;> rfl
theorem a9a{α:Type}{l:List α}(h:l≠[]):∃m x,l=m++[x]:=⟨l.dropLast,l.getLast h,(List.dropLast_concat_getLast h).symm⟩
theorem b7s{n j i rv:Nat}{C:St→(Bool→St→Prop)→Prop}{B:St→(Fl→St→Prop)→Prop}(hn:3≤n){vs:List V}(h1:vs.getD i .undef=.own j)(h2:vs.getD rv .undef=.own (j+1))
 (hC:∀st K,C st K=wpT (a1w n) (.or (.cmp .eq (.var rv) (.list .nil)) (.not (.call 10 (.cons (.idx (.var rv) (.neg (.int 1))) .nil)))) st K)
 (hB:∀st K,B st K=a1n (a1w n) a0o (.cons (.append rv (.call 7 (.cons (.var i) .nil))) .nil) st K) {tl:List Nat} {K:Fl→St→Prop} :
  ∀(todo done os:List Nat) (ow:List OV) (fuel:Nat),todo.length+1<fuel→(∀v∈todo,v≠0)→(∀v∈done,v≠0)→done.length+todo.length<10000→Enc os (todo++0::tl)→ow[j]?=some (.iter (a0c os))→ow[j+1]?=some (.lst (a0c done))→
  (∀os',Enc os' tl→K .next ⟨vs,(ow.set j (.iter (a0c os'))).set (j+1) (.lst (a0c (done++todo++[0]))),true⟩)→
  a4r C B fuel ⟨vs,ow,true⟩ K:=by
 have cond:∀(done:List Nat) (ow:List OV) (Kb:Bool→St→Prop) (b:Bool),done.length<20000→ow[j+1]?=some (.lst (a0c done))→(done≠[]→done.getLast?=some 0→b=false)→(done.getLast? ≠ some 0→b=true)→Kb b ⟨vs,ow,true⟩→C ⟨vs,ow,true⟩ Kb:=by
  intro done ow Kb b hl hj hb1 hb2 hK;rw[hC];simp_all![h2,hj,d0w];refine⟨⟨a8p done,rfl⟩,?_⟩
  by_cases hd:done=[]
  ·subst hd
   refine ifp (by rfl) ?_
   rw[hb2 (by simp)]at hK
   exact hK
  ·refine ifn (by simp[a0c,hd]) ?_
   obtain⟨m,x,rfl⟩:=a9a hd;have hx:(a0c (m++[x]))[m.length]?=some (.int (x:Int)):=by rw[a0r,List.getElem?_append_right (by simp[a0c])]; simp[a0c]
   have hpx:a1i (m++[x]).length (-1)=some m.length:=by rw[List.length_append]; exact a4k _
   rw[hpx];simp only[Option.bind_some,hx];refine⟨by exact a5f (.a (.l (.z (Int.neg 1000000)) (.z (Int.neg 1))) (.l (.z (Int.neg 1)) (.z 1000000))),d0t (by omega) ⟨⟨_,rfl⟩,?_⟩⟩
   simp_all![];have hlast:(m++[x]).getLast?=some x:=by simp
   rw[hlast]at hb1 hb2
   by_cases hx0:x=0
   ·subst hx0
    rw[hb1 (by simp) rfl]at hK
    exact hK
   ·rw[hb2 (by simpa using hx0)]at hK
    have:(!((x:Int)==0))=true:=by simp; omega
    rw[this];exact hK
 intro todo
 induction todo with
 |nil=>
  intro done os ow fuel hf h0 hd hl he hi hr hK;obtain⟨fuel,rfl⟩:∃f,fuel=f+2:=⟨fuel-2,by simp at hf; exact a0j (.e N0 (.p (.s N0 (.k 2)) (.k 2))) (.t O1 N0) hf⟩
  obtain⟨o1,r,rfl,hvi,hv,he⟩:=he;refine wqw ?_;have hjl:j+1<ow.length:=(List.getElem?_eq_some_iff.mp hr).1;refine cond done ow _ true (by simp at hl; exact a0j (.t N0 (.k 20000)) (.t N0 (.k 10000)) hl) hr (fun hne h=>?_) (fun _=>rfl) ?_
  ·exact absurd rfl (hd 0 (List.mem_of_getLast? h))
  (refine ifp rfl ?_; rw[hB]; refine wq2 ?_)
  simp_all![h2,h1,hi,hr];refine⟨⟨_,rfl⟩,?_⟩;refine a7o (by omega) hv hvi (by rw[hi,a0r]) ⟨⟨_,rfl⟩,?_⟩
  simp_all![h2];rw[List.getElem?_set_ne (by omega),hr]
  simp only[intsL_length];refine⟨by simp at hl; exact a0j (.t N0 (.k 1000000)) (.t N0 (.k 10000)) hl,?_⟩
  refine wq1 ?_;show a4r C B (fuel+1) _ K;refine wqw ?_;have e0:a0c done++[PyData.int ((0:Nat):Int)]=a0c (done++[0]):=by rw[a0r]; rfl
  rw[e0];refine cond (done++[0]) _ _ false (by simp at hl ⊢; exact a0j (.t (.p N0 O1) (.k 20000)) (.t N0 (.k 10000)) hl) (by simp[hjl]) (fun _ _=>rfl) (fun h=>absurd (by simp) h) ?_
  refine ifn (by simp) ?_
  have:=hK r he
  simpa using this
 |cons v todo ih=>
  intro done os ow fuel hf h0 hd hl he hi hr hK;obtain⟨fuel,rfl⟩:∃f,fuel=f+1:=⟨fuel-1,by simp at hf; exact a1d (.e N0 (.p (.s N0 O1) O1)) (.t (.p (.p N1 O1) O1) N0) hf⟩
  obtain⟨o1,r,rfl,hvi,hv,he⟩:=he;refine wqw ?_;have hjl:j+1<ow.length:=(List.getElem?_eq_some_iff.mp hr).1;rw[List.length_cons]at hl hf;refine cond done ow _ true (by exact a1d (.t N0 (.k 20000)) (.t (.p N0 (.p N1 O1)) (.k 10000)) hl) hr (fun hne h=>?_) (fun _=>rfl) ?_
  ·exact absurd rfl (hd 0 (List.mem_of_getLast? h))
  (refine ifp rfl ?_; rw[hB]; refine wq2 ?_)
  simp_all![h2,h1,hi,hr];refine⟨⟨_,rfl⟩,?_⟩;refine a7o (by omega) hv hvi (by rw[hi,a0r]) ⟨⟨_,rfl⟩,?_⟩
  simp_all![h2];rw[List.getElem?_set_ne (by omega),hr]
  simp only[intsL_length];refine⟨by exact a1d (.t N0 (.k 1000000)) (.t (.p N0 (.p N1 O1)) (.k 10000)) hl,?_⟩
  refine wq1 ?_;have e0:a0c done++[PyData.int ((v:Nat):Int)]=a0c (done++[v]):=by rw[a0r]; rfl
  rw[e0];refine ih (done++[v]) r _ fuel (by exact a1d (.t (.p N0 O1) N1) (.t (.p (.p N0 O1) O1) (.p N1 O1)) hf) (fun y hy=>h0 y (.tail _ hy)) (fun y hy=>?_) (by simp; exact a1d (.t (.p (.p N0 O1) N1) (.k 10000)) (.t (.p N0 (.p N1 O1)) (.k 10000)) hl) he ?_ ?_ fun os' ho'=>?_
  ·rcases List.mem_append.mp hy with hy|hy
   ·exact hd y hy
   ·rw[List.mem_singleton.mp hy]; exact h0 v (.head _)
  ·rw[List.getElem?_set_ne (by omega)]; simp[show j<ow.length by exact a1d (.t N0 N1) (.t (.p N0 O1) N1) hjl]
  ·simp[hjl]
  ·have:=hK os' ho'
   have e1:(((ow.set j (.iter (a0c r))).set (j+1) (.lst (a0c (done++[v])))).set j (.iter (a0c os'))).set (j+1) (.lst (a0c (done++[v]++todo++[0])))=(ow.set j (.iter (a0c os'))).set (j+1) (.lst (a0c (done++v::todo++[0]))):=by
    have e2:((ow.set j (.iter (a0c r))).set (j+1) (.lst (a0c (done++[v])))).set j (.iter (a0c os'))=((ow.set j (.iter (a0c r))).set j (.iter (a0c os'))).set (j+1) (.lst (a0c (done++[v]))):=List.set_comm _ _ (by omega)
    rw[e2,List.set_set,List.set_set];simp
   rw[e1];exact this
noncomputable def b9e:List Nat→List (List Nat)→List Nat→List (List Nat)
 |[],A,b=>A++[b]
 |o::r,A,b=>if 256≤o then b9e r (A++[b]) []else b9e r A (b++[o])
theorem a6b:∀(l r:List Nat) (A:List (List Nat)) (b:List Nat),(∀x∈l,x<256)→b9e (l++r) A b=b9e r A (b++l)
 |[]=>fun r A b _=>by simp
 |x::l=>fun r A b h=>by
  have h1:=h x (.head _)
  ((rw[List.cons_append]; dsimp only[b9e]); rw[if_neg (by exact a0j (.n (.l (.k 256) N0)) (.t N0 (.k 256)) h1)]; rw[a6b l r A _ fun y hy=>h y (.tail _ hy)]); simp
theorem b1w{x:Nat}(r:List Nat)(A:List (List Nat))(b:List Nat)(h:256≤x):b9e (x::r) A b=b9e r (A++[b]) []:=by(dsimp only[b9e]; rw[if_pos h])
noncomputable def sD(S:List (List Nat)):List d8e:=S.map fun l=>.list (a0c l)
theorem a6e(a b:List (List Nat)):sD (a++b)=sD a++sD b:=by simp[sD]
theorem a4s(a:List (List Nat)):(sD a).length=a.length:=by simp[sD]
noncomputable def tx(c:Nat):List Nat:=match Spec.lookup (.int (c:Int)) a0o with
 |some (.str s)=>s.cps.toList
 |_=>[]
theorem d1g:(List.range 48).all (fun c=>match Spec.lookup (.int ((c+7:Nat):Int)) a0o with|some (.str _)=>true|_=>false)=true:=by decide +kernel
theorem d4l(c:Nat)(h:c<48):Spec.lookup (.int ((c+7:Nat):Int)) a0o=some (.str (mk (tx (c+7)))):=by
 have:=List.all_eq_true.mp d1g c (List.mem_range.mpr h)
 unfold tx
 split at this
 ·rename_i s e
  rw[e];simp[mk]
 ·cases this
theorem c2n{c:Nat}(h1:7≤c)(h2:c≤54):Spec.lookup (.int (c:Int)) a0o=some (.str (mk (tx c))):=by
 have:=d4l (c-7) (by exact a0j (.t (.s N0 (.k 7)) (.k 48)) (.l N0 (.k 54)) h2)
 rwa[show c-7+7=c from by omega]at this
theorem d4q:∀c<48,(tx (c+7)).length≤3∧tx (c+7)≠[]:=by decide +kernel
theorem d0f:(mk (tx 15)==Str.ofString "-")=true:=by decide +kernel
theorem c9j:(mk (tx 14)==Str.ofString "-")=false:=by decide +kernel
theorem d2d{n:Nat}{k:K1}(ok:k.Ok){c3:List Nat}(tl:k.Told (0::c3))(pt:k.Pat){s1 s2 s3:List Nat}{a x:Nat}{msg msg2:List Nat}{r r2:Int}{os:List Nat}{ow:List OV}{Q:V→List OV→Prop}(hn:25≤n)
 (hc3:∀y∈c3,7≤y∧y≤54) (h1:∀y∈s1,1≤y∧y<256) (h2:∀y∈s2,1≤y∧y<256) (h3:∀y∈s3,1≤y∧y<256) (hl1:s1.length=9) (hl2:s2.length=9) (hl3:s3.length=5)
 (hw:k.wts=[s1.take 4,s2.take 4,s3.take 4]) (hp0:∀y∈s1.drop 4,7≤y∧y≤54) (hp1:∀y∈s2.drop 4,7≤y∧y≤54) (hj0:((s1.drop 4).map tx).flatten=jn a6s k.p0) (hj1:((s2.drop 4).map tx).flatten=jn a6s k.p1) (hs:s3.getD 4 0=14∨s3.getD 4 0=15)
 (ha:a<2^299) (hx:x<2^299) (henc:Enc os ((c3++256::(s1++257::(s2++258::s3)))++0::[a,x]))
 (hd1:k.dec 30 [] (if s3.getD 4 0=15 then -(a:Int)else a)=some (msg,r)) (hd2:k.dec 30 [] x=some (msg2,r2))
 (h:Q (.dat (.list [.list [.list (k.told [] msg),.int r,.int (msg.length:Int)],.list [.list (k.told [] msg2),.int r2,.int (msg2.length:Int)]])) ow) :
  a1w n 16 true [] [.dat (.list (a0c os))] ow Q:=by
 obtain⟨l,rfl⟩:∃m,n=m+25:=⟨n-25,by omega⟩
 refine⟨Nat.succ_pos _,fun _=>rfl,rfl,rfl,?_⟩;dsimp only[L1.law_read,L1.law_read_nl];have hc3l:c3.length=3:=by have:=tl.c4; simpa using this
 refine wq2 ?_;simp_all![]
 (refine wq2 ?_; rw[b7y])
 generalize hsy:c3++256::(s1++257::(s2++258::s3))=sy at henc;have hsyl:sy.length=29:=by rw[←hsy]; simp; exact lc4 4 [_,_,_,_] [] (.e (.p N0 (.p (.p N1 (.p (.p N2 (.p N3 O1)) O1)) O1)) (.k 29)) (.e N1 (.k 9)) (.e N2 (.k 9)) (.e N3 (.k 5)) (.e N0 (.k 3)) hl1 hl2 hl3 hc3l
 have hsy0:∀v∈sy,v≠0:=by
  intro v hv;rw[←hsy]at hv;simp only[List.mem_append,List.mem_cons]at hv
  rcases hv with hv|rfl|hv|rfl|hv|rfl|hv
  ·have:=hc3 v hv; exact a0j (.n (.e N0 (.k 0))) (.a (.l (.k 7) N0) (.l N0 (.k 54))) this
  ·omega
  ·have:=h1 v hv; exact a0j (.n (.e N0 (.k 0))) (.a (.l O1 N0) (.t N0 (.k 256))) this
  ·omega
  ·have:=h2 v hv; exact a0j (.n (.e N0 (.k 0))) (.a (.l O1 N0) (.t N0 (.k 256))) this
  ·omega
  ·have:=h3 v hv; exact a0j (.n (.e N0 (.k 0))) (.a (.l O1 N0) (.t N0 (.k 256))) this
 refine⟨sy.length+2,b7s (i:=1) (rv:=2) (j:=ow.length) (by omega) rfl rfl (fun _ _=>rfl) (fun _ _=>rfl) (tl:=[a,x]) sy [] os _ _ (by exact a1x (.t (.p N0 O1) (.p N0 (.k 2)))) hsy0 (by simp) (by rw[hsyl]; decide) henc (own_ix0 _ _) (own_ix _ _ 1) fun os' ho'=>?_⟩
 rw[own_set0];simp only[List.set_cons_zero];rw[own_set];simp only[List.set_cons_zero,List.set_cons_succ,List.nil_append];obtain⟨oa,or1,rfl,hva,hav,ox,or2,rfl,hvx,hxv,hor⟩:=ho';have hor:or2=[]:=hor;subst hor;refine wq2 ?_;simp_all![];refine a7o (by omega) hav hva (by rw[own_ix0,a0r]; rfl) ⟨⟨_,rfl⟩,?_⟩
 simp_all![];refine a7o (rest:=[]) (by omega) hxv hvx (by rw[own_ix0]; simp) ⟨⟨_,rfl⟩,?_⟩
 simp_all![];refine wq2 ?_;simp_all![];refine⟨fun j hj=>?_,?_⟩
 ·simp at hj
  rcases hj with rfl|rfl <;> exact⟨_,rfl,trivial⟩
 refine wq2 ?_;simp_all![];refine wq1 ?_
 (refine wq2 ?_; refine wqf ?_)
 have hsl:(a0c (sy++[0])).length≤1000000:=by rw[intsL_length]; simp; exact a0j (.l N0 (.k 999999)) (.e N0 (.k 29)) hsyl
 have hcut:cut (a0c (sy++[0])) none (some (-1))=a0c sy:=by rw[a5o,a0r]; simp[a0c]
 generalize a0c (sy++[0])=RW at hsl hcut;simp_all![hcut];refine⟨hsl,?_⟩;have hsec:b9e sy [] []=[c3,s1,s2,s3]:=by
  rw[←hsy,a6b _ _ _ _ (fun y hy=>by have:=hc3 y hy; exact a0j (.t N0 (.k 256)) (.a (.l (.k 7) N0) (.l N0 (.k 54))) this),b1w _ _ _ (by omega),a6b _ _ _ _ (fun y hy=>(h1 y hy).2),b1w _ _ _ (by omega),a6b _ _ _ _ (fun y hy=>(h2 y hy).2),b1w _ _ _ (by omega)]
  have:=a6b s3 [] ([]++[[]++c3]++[[]++s1]++[[]++s2]) [] (fun y hy=>(h3 y hy).2)
  rw[List.append_nil]at this
  (rw[this]; dsimp only[b9e]); simp
 refine a3u (g:=fun(e:Nat)=>PyData.int (e:Int)) (fun rst st=>∃(A:List (List Nat)) (b:List Nat) (v6:V),b9e rst A b=[c3,s1,s2,s3]∧A.length+b.length+rst.length≤100 ∧
  st=⟨[.dat (.list (a0c os)),.own ow.length,.own (ow.length+1),.dat (.list (sD (A++[b]))),.own (ow.length+(1+1)),.tab a0o,v6,.undef,.undef,.undef,.undef,.undef],ow++[.dead,.lst RW,.lst [.int a,.int x]],true⟩) ?_ sy _ ⟨[],[],.undef,hsec,by simp; exact a0j (.l N0 (.k 100)) (.e N0 (.k 29)) hsyl,rfl⟩ ?_
 ·rintro o rst st K' ⟨A,b,v6,hse,hle,rfl⟩ hK hRt
  rw[List.length_cons]at hle;have hsl:(sD (A++[b])).length=A.length+1:=by rw[a4s]; simp
  have hget:(sD (A++[b]))[A.length]?=some (.list (a0c b)):=by rw[a6e,List.getElem?_append_right (by rw[a4s]; exact Nat.le_refl _)]; simp[sD]
  have hdl:(sD (A++[b])).dropLast=sD A:=by rw[a6e]; simp[sD]
  have e1:sD (A++[b])++[.list []]=sD (A++[b]++[[]]):=by rw[a6e (A++[b])]; rfl
  have e2:sD A++[.list (a0c b++[.int (o:Int)])]=sD (A++[b++[o]]):=by rw[a6e A,sD,sD,List.map_cons,List.map_nil,a0r]; rfl
  dsimp only[b9e]at hse;refine lqS ?_;simp_all![];refine wq2 ?_;generalize hSE:sD (A++[b])=SE at hsl hget hdl e1;simp_all![];refine d7n (by omega) ⟨⟨_,rfl⟩,?_⟩
  simp_all![]
  by_cases ho:256≤o
  ·rw[if_pos ho]at hse
   (refine ifp (by simp; exact a0j (.l (.z 256) (.c N0)) (.l (.k 256) N0) ho) ?_; rw[hsl,e1])
   refine⟨by exact a1z (.l (.p (.p N0 O1) O1) (.k 1000000)) (.l (.p (.p N0 N1) (.p N2 O1)) (.k 100)) hle,?_⟩
   refine wq1 ?_;exact hK _ ⟨A++[b],[],_,hse,by simp; exact a1z (.l (.p (.p N0 O1) N1) (.k 100)) (.l (.p (.p N0 N2) (.p N1 O1)) (.k 100)) hle,rfl⟩
  ·rw[if_neg ho]at hse
   (refine ifn (by simp; exact a0j (.t (.c N0) (.z 256)) (.n (.l (.k 256) N0)) ho) ?_; rw[hsl,a4k,a5o,hdl])
   simp only[Option.bind_some,hget];simp_all![];refine⟨by exact a1z (.l (.p N0 O1) (.k 1000000)) (.l (.p (.p N0 N1) (.p N2 O1)) (.k 100)) hle,by exact a5f (.a (.l (.z (Int.neg 1000000)) (.z (Int.neg 1))) (.l (.z (Int.neg 1)) (.z 1000000))),by exact a1z (.l (.p N0 O1) (.k 1000000)) (.l (.p (.p N1 N0) (.p N2 O1)) (.k 100)) hle,by rw[a4s]; exact a1z (.l (.p N0 O1) (.k 1000000)) (.l (.p (.p N0 N1) (.p N2 O1)) (.k 100)) hle,?_⟩
   (refine wq1 ?_; rw[e2])
   exact hK _ ⟨A,b++[o],_,hse,by simp; exact a1z (.l (.p (.p N0 (.p N1 O1)) N2) (.k 100)) (.l (.p (.p N0 N1) (.p N2 O1)) (.k 100)) hle,rfl⟩
 ·rintro st ⟨A,b,v6,hse,hle,rfl⟩
  have hse:A++[b]=[c3,s1,s2,s3]:=hse;rw[hse];have hpat:∀(s:List Nat) (p:List (List Nat)) {K:List d8e→St→Prop} {st:St},s.length=9→(∀y∈s.drop 4,7≤y∧y≤54)→((s.drop 4).map tx).flatten=jn a6s p→st.vars.getD 5 .undef=.tab a0o→st.vars[9]?=some .undef→10<st.vars.length→
    (∀st',st'.own=st.own→st'.hz=st.hz→K ((s.drop 4).map fun c=>.str (mk (tx c))) st')→a1q (lpF (a1w (l+24)) (.one 9) (.elt (.idx (.var 5) (.var 9)))) ((s.drop 4).map fun(e:Nat)=>PyData.int (e:Int)) st [] K:=by
   intro s p K st hs9 hy hj h5 h9 hvl hk;refine a2m (g:=fun(e:Nat)=>PyData.int (e:Int)) (fun c=>.str (mk (tx c))) (s.drop 4) h9 (fun c hc acc K hacc hK=>?_) (by simp; exact a0j (.l N0 (.k 1000004)) (.e N0 (.k 9)) hs9) hk
   have h5':(st.vars.set 9 (.dat (.int (c:Int)))).getD 5 .undef=.tab a0o:=by rw[List.getD_eq_getElem?_getD,List.getElem?_set_ne (by decide),←List.getD_eq_getElem?_getD,h5]
   have h9':(st.vars.set 9 (.dat (.int (c:Int)))).getD 9 .undef=.dat (.int (c:Int)):=by rw[List.getD_eq_getElem?_getD,List.getElem?_set_self (by exact a0j (.t (.k 9) N0) (.t (.k 10) N0) hvl)]; rfl
   have hct:=c2n (hy c hc).1 (hy c hc).2;simp_all![h5',h9',hct];exact⟨hacc,hK⟩
  have hstr:∀s:List Nat,b2x ((s.drop 4).map fun c=>.str (mk (tx c)))=some (((s.drop 4).map tx).map mk):=by
   intro s;rw[←a6u]; unfold a0i; rw[List.map_map]; rfl
  show a1n _ _ _ _ _;refine wq2 ?_;simp_all![];have hc13:cut (sD [c3,s1,s2,s3]) (some 1) (some 3)=[.list (a0c s1),.list (a0c s2)]:=rfl;rw[hc13];refine⟨by rw[a4s]; exact(by decide:4≤1000000),?_⟩
  dsimp only[a1q];refine lqF ?_;have hd4:∀s:List Nat,cut (a0c s) (some 4) none=(s.drop 4).map fun(e:Nat)=>PyData.int (e:Int):=fun s=>by
   have:=b2a (a0c s) 4
   rw[b0d]at this
   exact this
  simp_all![hd4];refine⟨by exact a0j (.l N0 (.k 1000000)) (.e N0 (.k 9)) hl1,?_⟩
  refine hpat s1 k.p0 hl1 hp0 hj0 rfl rfl (by simp) fun st' g1 g2=>?_
  rw[show st'.own=_ from g1,show st'.hz=true from g2]
  simp only[hstr,c0w,hj0];refine⟨b2d (by rw[hj0]; have:=pt.l0; omega),by decide,?_⟩
  refine lqF ?_;simp_all![hd4];refine⟨by exact a0j (.l N0 (.k 1000000)) (.e N0 (.k 9)) hl2,?_⟩
  refine hpat s2 k.p1 hl2 hp1 hj1 rfl rfl (by simp) fun st' g1 g2=>?_
  rw[show st'.own=_ from g1,show st'.hz=true from g2]
  simp only[hstr,c0w,hj1];refine⟨b2d (by rw[hj1]; have:=pt.l1; omega),by decide,?_⟩
  refine wq2 ?_;have hs34:(a1i (sD [c3,s1,s2,s3]).length 3).bind (fun x=>(sD [c3,s1,s2,s3])[x]?)=some (.list (a0c s3)):=rfl;have hs30:(a1i (sD [c3,s1,s2,s3]).length 0).bind (fun x=>(sD [c3,s1,s2,s3])[x]?)=some (.list (a0c c3)):=rfl;have hs4:(a1i s3.length 4).bind (fun x=>(a0c s3)[x]?)=some (.int (s3.getD 4 0:Nat)):=by rw[show(4:Int)=((4:Nat):Int) from rfl,a0x (by exact a0j (.t (.k 4) N0) (.e N0 (.k 5)) hl3),Option.bind_some,a1m (by exact a0j (.t (.k 4) N0) (.e N0 (.k 5)) hl3)]
  have hsg:Spec.lookup (.int (s3.getD 4 0:Nat)) a0o=some (.str (mk (tx (s3.getD 4 0)))):=c2n (by exact a0j (.l (.k 7) N0) (.b 1 (.e N0 (.k 14)) (.e N0 (.k 15))) hs) (by exact a0j (.l N0 (.k 54)) (.b 1 (.e N0 (.k 14)) (.e N0 (.k 15))) hs)
  have hc1:cut (sD [c3,s1,s2,s3]) (some 1) none=[.list (a0c s1),.list (a0c s2),.list (a0c s3)]:=rfl;have hSl:(sD [c3,s1,s2,s3]).length≤1000000:=by rw[a4s]; exact(by decide:4≤1000000)
  have hto4:∀s:List Nat,(a0c s).take 4=a0c (s.take 4):=fun s=>a2a s 4;have ht4:∀s:List Nat,cut (a0c s) none (some 4)=a0c (s.take 4):=fun s=>by rw[←hto4]; exact cut_to _ 4
  have hwD:k.wD=.list [.list (a0c (s1.take 4)),.list (a0c (s2.take 4)),.list (a0c (s3.take 4))]:=by rw[K1.wD,hw]; rfl
  have hpD:k.patD=.list [.str (mk (jn a6s k.p0)),.str (mk (jn a6s k.p1))]:=rfl;have hcons:PyData.int 0::a0c c3=a0c (0::c3):=rfl;have tail:∀z:Int,(if s3.getD 4 0=15 then -(a:Int)else a)=z→a1n (a1w (l+24)) a0o (Ss.tl (Ss.tl (Ss.tl (Ss.tl (Ss.tl (Ss.tl (Ss.tl L1.law_read))))))) ⟨[.dat (.list (a0c os)),.own ow.length,.own (ow.length+1),.dat (.list (sD [c3,s1,s2,s3])),.own (ow.length+(1+1)),.tab a0o,v6,.dat k.patD,.undef,.undef,.undef,.undef],ow++[.dead,.lst RW,.lst [.int z,.int x]],true⟩ fun fl st=>Q (.dat (match fl with|.ret d=>d|.next=>.none)) (st.own.take ow.length):=by
   intro z hz;have hzn:z.natAbs<2^300:=Nat.lt_of_le_of_lt (show z.natAbs≤a by rw[←hz]; split <;> (first|exact a1x (.l (.u 1 (.N (.c N0))) N0)|exact a1x (.l (.u 1 (.c N0)) N0)|omega)) (Nat.lt_of_lt_of_le ha (Nat.pow_le_pow_right (by decide) (by decide)))
   have hxn:(x:Int).natAbs<2^300:=Nat.lt_of_lt_of_le hx (Nat.pow_le_pow_right (by decide) (by decide))
   rw[hz]at hd1;refine wq2 ?_;generalize sD [c3,s1,s2,s3]=S4 at hs30 hc1 hSl;simp_all![];dsimp only[a1q];refine lqF ?_;simp_all![hs30,hc1];refine⟨by exact a5f (.a (.l (.z (Int.neg 1000000)) (.z 0)) (.l (.z 0) (.z 1000000))),by exact a0j (.l (.p O1 N0) (.k 1000000)) (.e N0 (.k 3)) hc3l,hSl,?_⟩
   dsimp only[a1q];refine lqF ?_;simp_all![ht4];refine⟨by exact a0j (.l N0 (.k 1000000)) (.e N0 (.k 9)) hl1,by decide,?_⟩
   refine lqF ?_;simp_all![ht4];refine⟨by exact a0j (.l N0 (.k 1000000)) (.e N0 (.k 9)) hl2,by decide,?_⟩
   refine lqF ?_;simp_all![ht4];refine⟨by exact a0j (.l N0 (.k 1000000)) (.e N0 (.k 5)) hl3,by decide,?_⟩
   rw[←hwD,hcons];refine c6s ok tl pt (by omega) hzn hd1 ⟨⟨_,rfl⟩,?_⟩
   simp_all![];refine⟨by decide,?_⟩
   refine lqF ?_;simp_all![hs30,hc1];refine⟨by exact a5f (.a (.l (.z (Int.neg 1000000)) (.z 0)) (.l (.z 0) (.z 1000000))),by exact a0j (.l (.p O1 N0) (.k 1000000)) (.e N0 (.k 3)) hc3l,hSl,?_⟩
   dsimp only[a1q];refine lqF ?_;simp_all![ht4];refine⟨by exact a0j (.l N0 (.k 1000000)) (.e N0 (.k 9)) hl1,by decide,?_⟩
   refine lqF ?_;simp_all![ht4];refine⟨by exact a0j (.l N0 (.k 1000000)) (.e N0 (.k 9)) hl2,by decide,?_⟩
   refine lqF ?_;simp_all![ht4];refine⟨by exact a0j (.l N0 (.k 1000000)) (.e N0 (.k 5)) hl3,by decide,?_⟩
   rw[←hwD,hcons];refine c6s ok tl pt (by omega) hxn hd2 ⟨⟨_,rfl⟩,?_⟩
   simp_all![];refine⟨by decide,?_⟩
   rw[List.take_append_of_le_length (Nat.le_refl _),List.take_length];exact h
  generalize hS4:sD [c3,s1,s2,s3]=S4 at hs34 hs30;simp_all![hs34,hs4,hsg];refine⟨by decide,by decide,?_⟩
  subst hS4
  rcases hs with hs|hs
  ·(rw[hs,c9j]; rw[if_neg (by decide)])
   refine⟨by decide,by decide,by decide,?_⟩
   exact tail (a:Int) (by(rw[hs]; rw[if_neg (by decide)]))
  ·(rw[hs,d0f]; rw[if_pos rfl])
   refine⟨by decide,by decide,by decide,?_⟩
   exact tail (-(a:Int)) (by(rw[hs]; rw[if_pos rfl]))
theorem a9j{α:Type}(f:α→d8e)(l:List α):b2b (l.map f)=((List.range l.length).zip l).map fun p=>.tuple [.int (p.1:Int),f p.2]:=by
 show List.zipWith _ (List.range (l.map f).length) (l.map f)=List.map _ (List.zipWith Prod.mk _ l);rw[List.length_map,List.zipWith_map_right,List.map_zipWith]
theorem c0q{l:List Nat}(h:i<l.length):l.getD i 0∈l:=List.getElem_eq_getD 0▸List.getElem_mem h
theorem d7x{l:List Nat}{n:Nat}(h:l.length=n):l=(List.range n).map (l.getD · 0):=h▸List.ext_getElem (by rw[List.length_map,List.length_range]) fun i h1 h2=>by rw[List.getElem_map,List.getElem_range]; exact List.getElem_eq_getD 0
theorem c4j{l:List Int}(h:j<l.length):((List.range l.length).zip l).drop j=(j,l[j])::((List.range l.length).zip l).drop (j+1):=by
 rw[List.drop_eq_getElem_cons (by simp; exact h)]; simp
noncomputable abbrev a7f(vs:List V)(k:Nat)(ow:List OV):St:=⟨vs++List.replicate k .undef,ow,true⟩
inductive AI(is I:List Int):List (Nat×Int)→St→Prop
 |mk {rst} (j:Nat) (ns:List Nat) (v2 v3:V):j≤I.length→rst=((List.range I.length).zip I).drop j→ns.length=8→(∀n∈ns,n≤4000000+1000000*j)→AI is I rst (a7f [.dat (.list (is.map .int)),.own 0,v2,v3] 34 [.lst (a0c ns)])
theorem d5k{n:Nat}{is:List Int}(hl:is.length≤63){Q:Fl→St→Prop}(h:∀(n0 n1 n2 n3 n4 n5 n6 n7:Nat) v2 v3,n6≤100000000→a1n (a1w n) a0o (Ss.tl (Ss.tl L1.law)) (a7f [.dat (.list (is.map .int)),.own 0,v2,v3] 34 [.lst [.int n0,.int n1,.int n2,.int n3,.int n4,.int n5,.int n6,.int n7]]) Q) :
  a1n (a1w n) a0o L1.law (a7f [.dat (.list (is.map .int))] 37 []) Q:=by
 refine wq2 ?_;simp_all![]
 (refine wq2 ?_; refine wqf ?_)
 simp_all![];have hc:cut (is.map PyData.int) none (some 60)=(is.take 60).map .int:=by
  rw[show(some (60:Int))=some ((60:Nat):Int) from rfl,cut_to,List.map_take]
 rw[hc];refine⟨by simp; omega,by simp; exact a1x (.l (.b 2 (.k 60) N0) (.k 1000000)),?_⟩
 rw[a9j];generalize hI:is.take 60=I;have hIl:I.length≤60:=by rw[←hI]; simp; exact a1x (.l (.b 2 (.k 60) N0) (.k 60))
 refine a3u (g:=fun p:Nat×Int=>.tuple [.int (p.1:Int),.int p.2]) (AI is I) ?_ _ _
  ⟨0,[74913,1234567,2468013,3141592,201009,39,654325,500],.undef,.undef,Nat.zero_le _,rfl,rfl,by decide⟩ ?_
 ·rintro p rst st K' ⟨j,ns,v2,v3,hj,hr,hns,hb⟩ hK hRt
  have hjl:j<I.length:=by
   rcases Nat.lt_or_ge j I.length with h|h
   ·exact h
   ·rw[List.drop_of_length_le (by simp; omega)]at hr; cases hr
  rw[c4j hjl]at hr;obtain⟨rfl,rfl⟩:=List.cons.inj hr;generalize I[j]=x;have h8:j%8<ns.length:=by exact a1s (.t N0 N1) (.e N1 (.k 8)) (.t N0 (.k 8)) hns (ml rfl)
  have hf:(j:Int).fmod 8=((j%8:Nat):Int):=a0t j 8;obtain⟨y,hy⟩:∃y:Nat,x.fmod (10^(6:Int).toNat)=(y:Int)∧y<1000000:=by
   have e:(10:Int)^(6:Int).toNat=1000000:=by decide
   rw[e,Int.fmod_eq_emod_of_nonneg _ (by decide)]
   have h1:=Int.emod_nonneg x (show(1000000:Int)≠0 by decide)
   have h2:=Int.emod_lt_of_pos x (show(0:Int)<1000000 by decide)
   exact⟨(x%1000000).toNat,by exact a2h (.e Z0 (.c (.u 0 Z0))) (.l (.z 0) Z0) h1,by omega⟩
  refine lqS ?_;simp_all![];refine wq2 ?_;simp_all![hf,Int.toNat_natCast,a1m h8,hy.1];refine⟨by decide,by exact c3r (.a (.l (.z 0) (.c N0)) (.l (.c N0) (.z 1000000))) (.l N1 (.k 60)) (.t N2 N1) (.e (.p (.m 0 8 N3) N0) N2) hIl hjl (Nat.div_add_mod _ 8),by decide,by decide,h8,?_⟩
  have e1:(a0c ns).set (j%8) (.int (((ns.getD (j%8) 0:Nat):Int)+(y:Int)))=a0c (ns.set (j%8) (ns.getD (j%8) 0+y)):=by
   unfold a0c; rw[List.map_set]; rfl
  (rw[e1]; refine wq1 ?_)
  refine hK _ ⟨j+1,ns.set (j%8) (ns.getD (j%8) 0+y),_,_,by exact a1d (.l (.p N0 O1) N1) (.t N0 N1) hjl,rfl,by simpa using hns,fun m hm=>?_⟩
  rcases List.mem_or_eq_of_mem_set hm with hm|rfl
  ·have:=hb m hm; omega
  ·have:=hb _ (c0q h8)
   exact lc2 3 [_,_,_] [_] (.l (.p N0 N1) (.p (.k 4000000) (.m 0 1000000 (.p N2 O1)))) (.a (.e Z0 (.c N1)) (.t N1 (.k 1000000))) (.l N0 (.p (.k 4000000) (.m 0 1000000 N2))) hy this
 ·rintro st ⟨j,ns,v2,v3,hj,hr,hns,hb⟩
  have e:ns=[ns.getD 0 0,ns.getD 1 0,ns.getD 2 0,ns.getD 3 0,ns.getD 4 0,ns.getD 5 0,ns.getD 6 0,ns.getD 7 0]:=d7x hns;have h6:=hb _ (c0q (i:=6) (by exact a0j (.t (.k 6) N0) (.e N0 (.k 8)) hns))
  rw[e];exact h _ _ _ _ _ _ _ _ v2 v3 (by omega)
theorem a1l{m:Nat}(h:m<2^64):m<2^4000:=Nat.lt_of_lt_of_le h (Nat.pow_le_pow_right (by decide) (by decide))
noncomputable def signsL:List (List Nat):=(List.range 48).map fun i=>tx (i+7)
theorem b0z(h:i<48):(a0i signsL)[i]?=some (.str (mk (tx (i+7)))):=by
 have hl:i<signsL.length:=by simp[signsL]; exact h
 rw[a9s hl];simp[signsL,List.getElem?_range h]
theorem b0n:signsL.length=48:=by simp[signsL]
noncomputable def poolL:List Nat:=(List.range 48).filter fun i=>i != 16&&i != 45
theorem a9b:∀i∈poolL,i<48∧i≠16∧i≠45:=fun i h=>by
 simp[poolL,List.mem_filter]at h; exact h
theorem a5m:poolL.length=46:=by decide +kernel
theorem d0u:(List.range 48).all (fun i=>(!([PyData.str (Str.ofString "."),.str (Str.ofString "...")]:List d8e).any fun y=>PyData.eqv y (.str (mk (tx (i+7)))))==(i != 16&&i != 45)&&SeqAt.shaped (.str (mk (tx (i+7)))))=true:=by decide +kernel
theorem c6k:SeqAt.shaped (.tuple [.str (Str.ofString "."),.str (Str.ofString "...")])=true:=by decide +kernel
theorem c1r{l:List Nat}(h:i<l.length):a1i (a0c l).length (i:Int)=some i∧(a0c l)[i]?=some (.int (l.getD i 0:Nat))∧(a0c l).eraseIdx i=a0c (l.eraseIdx i):=by
 refine⟨by rw[intsL_length]; exact a0x h,a1m h,?_⟩
 unfold a0c; rw[List.eraseIdx_eq_take_drop_succ,List.eraseIdx_eq_take_drop_succ]; simp
set_option backward.match.sparseCases false in
noncomputable def S.ws:S→List Str
 |.assign _ (.words _ ws)=>ws
 |_=>[]
theorem d6g:S.ws (Ss.hd (Ss.tl (Ss.tl L1.law)))=signsL.map mk:=by decide +kernel
theorem c4c{n:Nat}{st:St}{Q:Fl→St→Prop}(h:Q .next (st.set 4 (.dat (.list (a0i signsL))))):wpS (a1w n) a0o (Ss.hd (Ss.tl (Ss.tl L1.law))) st Q:=by
 have e:a0i signsL=(S.ws (Ss.hd (Ss.tl (Ss.tl L1.law)))).map .str:=by rw[d6g,List.map_map]; rfl
 rw[e]at h;exact h
theorem d6d{n:Nat}{s1 v2 v3:V}{n0 n1 n2 n3 n4 n5 n6 n7:Nat}{Q:Fl→St→Prop}(h:∀c0 c1 c2 ps,(∀c∈[c0,c1,c2],7≤c∧c≤54∧c≠23∧c≠52)→a1n (a1w n) a0o (Ss.tl (Ss.tl (Ss.tl (Ss.tl (Ss.tl L1.law))))) (a7f [s1,.own 0,v2,v3,.dat (.list (a0i signsL)),.own 1,.dat (.list (a0c [c0,c1,c2]))] 31 [.lst [.int n0,.int n1,.int n2,.int n3,.int n4,.int n5,.int n6,.int n7],.lst ps]) Q) :
  a1n (a1w n) a0o (Ss.tl (Ss.tl L1.law)) (a7f [s1,.own 0,v2,v3] 34 [.lst [.int n0,.int n1,.int n2,.int n3,.int n4,.int n5,.int n6,.int n7]]) Q:=by
 show a1n (a1w n) a0o (.cons (Ss.hd (Ss.tl (Ss.tl L1.law))) (Ss.tl (Ss.tl (Ss.tl L1.law)))) _ _;refine wq2 ?_;refine c4c ?_;show a1n (a1w n) a0o (Ss.tl (Ss.tl (Ss.tl L1.law))) _ _;refine wq2 ?_;simp_all![];refine⟨by exact a5f (.a (.l (.z (Int.neg 1000000)) (.z 48)) (.l (.z 48) (.z 1000000))),?_⟩
 refine b4f (g:=fun(e:Nat)=>PyData.int (e:Int)) (fun i=>i != 16&&i != 45) (fun(e:Nat)=>PyData.int (e:Int)) (List.range 48) (by rfl) (fun i hi acc K hacc hK=>?_) (by simp) fun st' g1 g2=>?_
 ·have hi48:=List.mem_range.mp hi
  have hch:=List.all_eq_true.mp d0u i hi;rw[Bool.and_eq_true,beq_iff_eq]at hch;simp_all![b0n,a0x hi48,b0z hi48,hch.1];refine⟨by exact a0j (.a (.l (.z (Int.neg 1000000)) (.c N0)) (.l (.c N0) (.z 1000000))) (.t N0 (.k 48)) hi48,⟨hch.2,c6k⟩,?_⟩
  by_cases hc:(i != 16&&i != 45)=true
  ·rw[if_pos hc]at hK ⊢
   exact⟨hacc,hK⟩
  ·rw[if_neg hc]at hK ⊢
   exact hK
 rw[show st'.own=_ from g1,show st'.hz=true from g2]
 have hpl:((List.range 48).filter fun i=>i != 16&&i != 45).map (fun(e:Nat)=>PyData.int (e:Int))=a0c poolL:=rfl;rw[hpl];have hf:∀a b:Nat,Int.fmod (a:Int) (b:Int)=((a%b:Nat):Int):=a0t;have hd:∀a b:Nat,Int.fdiv (a:Int) (b:Int)=((a/b:Nat):Int):=a1c;have m46:(n0:Int).fmod 46=((n0%46:Nat):Int):=hf n0 46;have d46:(n0:Int).fdiv 46=((n0/46:Nat):Int):=hd n0 46;have m45:((n0/46:Nat):Int).fmod 45=((n0/46%45:Nat):Int):=hf _ 45;have d20:(n0:Int).fdiv 2070=((n0/2070:Nat):Int):=hd n0 2070;have m44:((n0/2070:Nat):Int).fmod 44=((n0/2070%44:Nat):Int):=hf _ 44;have l0:n0%46<poolL.length:=by rw[a5m]; omega
 obtain⟨q1,q2,q3⟩:=c1r l0;have hmem:poolL.getD (n0%46) 0∈poolL:=by rw[List.getD_eq_getElem?_getD,List.getElem?_eq_getElem l0]; exact List.getElem_mem _
 generalize hP1:poolL.eraseIdx (n0%46)=P1 at q3;have hP1l:P1.length=45:=by rw[←hP1,List.length_eraseIdx_of_lt l0,a5m]
 have l1:n0/46%45<P1.length:=by exact a1s (.t N0 N1) (.e N1 (.k 45)) (.t N0 (.k 45)) hP1l (ml rfl)
 obtain⟨r1,r2,r3⟩:=c1r l1;have hmem1:P1.getD (n0/46%45) 0∈poolL:=by
  rw[List.getD_eq_getElem?_getD,List.getElem?_eq_getElem l1];exact List.mem_of_mem_eraseIdx (by rw[hP1]; exact List.getElem_mem _)
 generalize hP2:P1.eraseIdx (n0/46%45)=P2 at r3;have hP2l:P2.length=44:=by rw[←hP2,List.length_eraseIdx_of_lt l1,hP1l]
 have l2:n0/2070%44<P2.length:=by exact a1s (.t N0 N1) (.e N1 (.k 44)) (.t N0 (.k 44)) hP2l (ml rfl)
 obtain⟨t1,t2,t3⟩:=c1r l2;have hmem2:P2.getD (n0/2070%44) 0∈poolL:=by
  rw[List.getD_eq_getElem?_getD,List.getElem?_eq_getElem l2]
  have:P2[n0/2070%44]∈P1.eraseIdx (n0/46%45):=by rw[hP2]; exact List.getElem_mem _
  have:=List.mem_of_mem_eraseIdx this
  rw[←hP1]at this
  exact List.mem_of_mem_eraseIdx this
 have hlp:(a0c poolL).length≤1000000:=by rw[intsL_length,a5m]; decide
 have hl1:(a0c P1).length≤1000000:=by rw[intsL_length,hP1l]; decide
 have hl2:(a0c P2).length≤1000000:=by rw[intsL_length,hP2l]; decide
 have key:=h (7+poolL.getD (n0%46) 0) (7+P1.getD (n0/46%45) 0) (7+P2.getD (n0/2070%44) 0) (a0c (P2.eraseIdx (n0/2070%44))) (fun c hc=>by
  have g0:=a9b _ hmem;have g1:=a9b _ hmem1;have g2:=a9b _ hmem2;simp only[List.mem_cons,List.not_mem_nil,or_false]at hc
  rcases hc with rfl|rfl|rfl <;> (first|exact a0j (.a (.l (.k 7) (.p (.k 7) N0)) (.a (.l (.p (.k 7) N0) (.k 54)) (.a (.n (.e (.p (.k 7) N0) (.k 23))) (.n (.e (.p (.k 7) N0) (.k 52)))))) (.a (.t N0 (.k 48)) (.a (.n (.e N0 (.k 16))) (.n (.e N0 (.k 45))))) g0|exact a0j (.a (.l (.k 7) (.p (.k 7) N0)) (.a (.l (.p (.k 7) N0) (.k 54)) (.a (.n (.e (.p (.k 7) N0) (.k 23))) (.n (.e (.p (.k 7) N0) (.k 52)))))) (.a (.t N0 (.k 48)) (.a (.n (.e N0 (.k 16))) (.n (.e N0 (.k 45))))) g1|exact a0j (.a (.l (.k 7) (.p (.k 7) N0)) (.a (.l (.p (.k 7) N0) (.k 54)) (.a (.n (.e (.p (.k 7) N0) (.k 23))) (.n (.e (.p (.k 7) N0) (.k 52)))))) (.a (.t N0 (.k 48)) (.a (.n (.e N0 (.k 16))) (.n (.e N0 (.k 45))))) g2|omega))
 generalize a0c poolL=W0 at q1 q2 q3 hlp ⊢;generalize a0c P1=W1 at q3 r1 r2 r3 hl1;generalize a0c P2=W2 at r3 t1 t2 t3 hl2;refine wq2 ?_;simp_all![m46,d46,m45,d20,m44,q1,q2,q3,r1,r2,r3,t1,t2,t3];refine⟨⟨_,rfl⟩,by decide,by decide,hlp,by exact a0j (.a (.l (.z (Int.neg 1000000)) (.c N0)) (.l (.c N0) (.z 1000000))) (.t N0 (.k 46)) (ml rfl),⟨_,rfl⟩,by decide,⟨by decide,a1l (by decide)⟩,by decide,hl1,by exact a1s (.a (.l (.z (Int.neg 1000000)) (.c N0)) (.l (.c N0) (.z 1000000))) (.e N1 (.k 45)) (.t N0 N1) hP1l l1,⟨_,rfl⟩,by decide,⟨by decide,a1l (by decide)⟩,by decide,hl2,by exact a1s (.a (.l (.z (Int.neg 1000000)) (.c N0)) (.l (.c N0) (.z 1000000))) (.e N1 (.k 44)) (.t N0 N1) hP2l l2,?_⟩
 exact key
noncomputable def a5y(n:Nat):List Nat:=(List.range 4).map fun j=>16+n/45^j%45
noncomputable def b9p(n:Nat):List Nat:=(List.range 10).map fun j=>n/4^j%4
theorem a7z(b j:Nat):((b:Int)^(j:Int).toNat)=((b^j:Nat):Int):=by rw[Int.toNat_natCast]; simp
theorem c5q(n:Nat):b9b 0 (n:Int).toNat=(List.range n).map fun(e:Nat)=>PyData.int (e:Int):=by
 rw[Int.toNat_natCast]
 have:=b1s 0 n
 rw[←List.range_eq_range']at this
 exact this
theorem b3i{b j:Nat}(hb:1≤b)(hb2:b≤100)(hj:j≤100):((b^j:Nat):Int)≠0∧((b^j:Nat):Int).natAbs<2^4000:=by
 have h1:0<b^j:=Nat.pow_pos hb;refine⟨by exact a0j (.n (.e (.c N0) (.z 0))) (.t (.k 0) N0) h1,?_⟩
 rw[Int.natAbs_natCast];refine Nat.lt_of_le_of_lt (Nat.pow_le_pow_left (show b≤2^7 by omega) j) ?_
 rw[←Nat.pow_mul];exact Nat.pow_lt_pow_right (by decide) (by exact a0j (.t (.m 0 7 N0) (.k 4000)) (.l N0 (.k 100)) hj)
theorem d5a{n:Nat}{s1 v2 v3:V}{n0 n1 n2 n3 n4 n5 n6 n7 c0 c1 c2:Nat}{ps:List d8e}(hc:∀c∈[c0,c1,c2],7≤c∧c≤54∧c≠23∧c≠52){Q:Fl→St→Prop}
 (h:a1n (a1w n) a0o (Ss.tl (Ss.tl (Ss.tl (Ss.tl (Ss.tl (Ss.tl (Ss.tl (Ss.tl L1.law)))))))) (a7f [s1,.own 0,v2,v3,.dat (.list (a0i signsL)),.own 1,.dat (.list (a0c [c0,c1,c2])),.dat (.list (a0i [[],tx c0,tx c1,tx c2])),.dat (.list (sD [a5y n1,a5y n2,a5y n3])),.dat (.list (a0c (b9p n4)))] 28 [.lst [.int n0,.int n1,.int n2,.int n3,.int n4,.int n5,.int n6,.int n7],.lst ps]) Q) :
  a1n (a1w n) a0o (Ss.tl (Ss.tl (Ss.tl (Ss.tl (Ss.tl L1.law))))) (a7f [s1,.own 0,v2,v3,.dat (.list (a0i signsL)),.own 1,.dat (.list (a0c [c0,c1,c2]))] 31 [.lst [.int n0,.int n1,.int n2,.int n3,.int n4,.int n5,.int n6,.int n7],.lst ps]) Q:=by
 refine wq2 ?_;simp_all![];refine a2m (g:=fun(e:Nat)=>PyData.int (e:Int)) (fun c=>.str (mk (tx c))) [c0,c1,c2] (by rfl) (fun c hcm acc K hacc hK=>?_) (by simp) fun st' g1 g2=>?_
 ·obtain⟨a1,a2,a3,a4⟩:=hc c hcm
  have e1:(c:Int)-7=((c-7:Nat):Int):=by exact a0j (.e (.S (.c N0) (.z 7)) (.c (.s N0 (.k 7)))) (.l (.k 7) N0) a1
  have e2:=b0z (show c-7<48 by exact a0j (.t (.s N0 (.k 7)) (.k 48)) (.l N0 (.k 54)) a2)
  rw[show c-7+7=c by omega]at e2
  simp_all![e1,b0n,a0x (show c-7<48 by exact a0j (.t (.s N0 (.k 7)) (.k 48)) (.l N0 (.k 54)) a2),e2]
  exact⟨by exact a0j (.a (.l (.z (Int.neg 1000000)) (.c (.s N0 (.k 7)))) (.l (.c (.s N0 (.k 7))) (.z 1000000))) (.l N0 (.k 54)) a2,hacc,hK⟩
 rw[show st'.own=_ from g1,show st'.hz=true from g2]
 refine⟨by simp,?_⟩
 have e0:PyData.str (Str.ofString "")::([c0,c1,c2].map fun c=>PyData.str (mk (tx c)))=a0i [[],tx c0,tx c1,tx c2]:=by rw[a5a]; rfl
 (rw[e0]; refine wq2 ?_)
 simp_all![];have hcut:cut [PyData.int n0,.int n1,.int n2,.int n3,.int n4,.int n5,.int n6,.int n7] (some 1) (some 4)=([n1,n2,n3].map fun(e:Nat)=>PyData.int (e:Int)):=rfl;rw[hcut];refine⟨by decide,?_⟩
 refine a2m (g:=fun(e:Nat)=>PyData.int (e:Int)) (fun x=>.list (a0c (a5y x))) [n1,n2,n3] (by rfl) (fun x hx acc K hacc hK=>?_) (by simp) fun st' g1 g2=>?_
 ·simp_all![]
  refine⟨by decide,?_⟩
  refine a2m (g:=fun(e:Nat)=>PyData.int (e:Int)) (fun j=>.int ((16+x/45^j%45:Nat):Int)) (List.range 4) (by rfl) (fun j hj acc K hacc hK=>?_) (by decide) fun st' g1 g2=>?_
  ·have hj4:=List.mem_range.mp hj
   have ep:(45:Int)^(j:Int).toNat=((45^j:Nat):Int):=a7z 45 j;have ef:∀a:Nat,Int.fmod (a:Int) 45=((a%45:Nat):Int):=fun a=>a0t a 45;simp_all![ep,a1c,ef];refine⟨⟨by exact a1x (.l (.z 0) (.c N0)),by exact a0j (.l (.c N0) (.z 1000)) (.t N0 (.k 4)) hj4,by decide⟩,b3i (by decide) (by decide) (by exact a0j (.l N0 (.k 100)) (.t N0 (.k 4)) hj4),by decide,hacc,?_⟩
   exact hK
  rw[show st'.own=_ from g1,show st'.hz=true from g2]
  have:((List.range 4).map fun j=>PyData.int ((16+x/45^j%45:Nat):Int))=a0c (a5y x):=by unfold a0c a5y; rw[List.map_map]; rfl
  rw[this];exact⟨hacc,hK⟩
 rw[show st'.own=_ from g1,show st'.hz=true from g2]
 refine wq2 ?_;simp_all![];refine⟨by decide,?_⟩
 refine a2m (g:=fun(e:Nat)=>PyData.int (e:Int)) (fun j=>.int ((n4/4^j%4:Nat):Int)) (List.range 10) (by rfl) (fun j hj acc K hacc hK=>?_) (by decide) fun st' g1 g2=>?_
 ·have hj4:=List.mem_range.mp hj
  have ep:(4:Int)^(j:Int).toNat=((4^j:Nat):Int):=a7z 4 j;have ef:∀a:Nat,Int.fmod (a:Int) 4=((a%4:Nat):Int):=fun a=>a0t a 4;simp_all![ep,a1c,ef];refine⟨by decide,⟨by exact a1x (.l (.z 0) (.c N0)),by exact a0j (.l (.c N0) (.z 1000)) (.t N0 (.k 10)) hj4,by decide⟩,b3i (by decide) (by decide) (by exact a0j (.l N0 (.k 100)) (.t N0 (.k 10)) hj4),by decide,hacc,?_⟩
  exact hK
 rw[show st'.own=_ from g1,show st'.hz=true from g2]
 have:((List.range 10).map fun j=>PyData.int ((n4/4^j%4:Nat):Int))=a0c (b9p n4):=by unfold a0c b9p; rw[List.map_map]; rfl
 rw[this];exact h
noncomputable def a7k(nm:Nat→List Nat)(S:List (List Nat))(p:Nat):List (List Nat):=if p=0 then S++[[]]else S.dropLast++[S.getLastD []++nm p]
noncomputable def pcs(nm:Nat→List Nat)(l:List Nat):List (List Nat):=l.foldl (a7k nm) [[]]
theorem c0a(sep:List Nat)(b:List Nat):∀(A:List (List Nat)),jn sep (A++[b]++[[]])=jn sep (A++[b])++sep
 |[]=>by simp[jn]
 |[a]=>by simp[jn]
 |a::c::A=>by
  have:=c0a sep b (c::A)
  simp only[List.cons_append]at this ⊢;simp only[jn];rw[this]; simp
theorem d1e(sep:List Nat)(b x:List Nat):∀(A:List (List Nat)),jn sep (A++[b++x])=jn sep (A++[b])++x
 |[]=>by simp[jn]
 |[a]=>by simp[jn]
 |a::c::A=>by
  have:=d1e sep b x (c::A)
  simp only[List.cons_append]at this ⊢;simp only[jn];rw[this]; simp
theorem c5n(nm:Nat→List Nat)(S:List (List Nat))(p:Nat):a7k nm S p≠[]:=by
 unfold a7k; split <;> simp
theorem a5e(nm:Nat→List Nat)(l:List Nat)(p:Nat):pcs nm (l++[p])=a7k nm (pcs nm l) p:=by simp[pcs]
theorem a7t{P:List Nat→Prop}(h0:P [])(hs:∀l p,P l→P (l++[p])):∀l,P l:=by
 have:∀l:List Nat,P l.reverse:=by
  intro l
  induction l with
  |nil=>exact h0
  |cons a l ih=>rw[List.reverse_cons]; exact hs _ _ ih
 intro l;rw[←List.reverse_reverse l];exact this _
theorem a8d(nm:Nat→List Nat)(l:List Nat):pcs nm l≠[]:=by
 refine a7t (P:=fun l=>pcs nm l≠[]) (by simp[pcs]) (fun l p _=>?_) l
 rw[a5e]; exact c5n nm _ p
theorem a2n{S:List (List Nat)}(h:S≠[]):S=S.dropLast++[S.getLastD []]:=by
 obtain⟨m,x,rfl⟩:=a9a h;simp
theorem c6n(sep:List Nat)(nm:Nat→List Nat)(l:List Nat):jn sep (pcs nm l)=(l.map fun p=>if p=0 then sep else nm p).flatten:=by
 refine a7t (P:=fun l=>jn sep (pcs nm l)=(l.map fun p=>if p=0 then sep else nm p).flatten) (by simp[pcs,jn]) (fun l p ih=>?_) l
 rw[a5e,List.map_append,List.flatten_append,←ih];have hS:=a2n (a8d nm l);generalize pcs nm l=S at hS;unfold a7k
 by_cases hp:p=0
 ·rw[if_pos hp]
  generalize S.dropLast=A at hS;generalize S.getLastD []=b at hS;subst hS;rw[c0a]; simp[hp]
 ·rw[if_neg hp]
  generalize S.dropLast=A at hS ⊢;generalize S.getLastD []=b at hS ⊢;subst hS;rw[d1e]; simp[hp]
theorem d0o{P:List Nat→Prop}{nm:Nat→List Nat}(h0:P [])(hs:∀b p,P b→p≠0→P (b++nm p))(l:List Nat):∀b∈pcs nm l,P b:=by
 refine a7t (P:=fun l=>∀b∈pcs nm l,P b) (fun b hb=>by simp[pcs]at hb; rw[hb]; exact h0) (fun l p ih=>?_) l
 rw[a5e];have hS:=a2n (a8d nm l);intro b hb;unfold a7k at hb
 by_cases hp:p=0
 ·rw[if_pos hp]at hb
  rcases List.mem_append.mp hb with hb|hb
  ·exact ih b hb
  ·rw[List.mem_singleton.mp hb]; exact h0
 ·rw[if_neg hp]at hb
  rcases List.mem_append.mp hb with hb|hb
  ·exact ih b (List.dropLast_subset _ hb)
  ·rw[List.mem_singleton.mp hb]
   exact hs _ _ (ih _ (by rw[hS]; simp)) hp
theorem c0y(nm:Nat→List Nat)(m:Nat)(hm:∀p,(nm p).length≤m)(l:List Nat):(pcs nm l).length≤l.length+1∧∀b∈pcs nm l,b.length≤m*l.length:=by
 refine a7t (P:=fun l=>(pcs nm l).length≤l.length+1∧∀b∈pcs nm l,b.length≤m*l.length) ⟨by simp[pcs],fun b hb=>by simp[pcs]at hb; rw[hb]; simp⟩ (fun l p ih=>?_) l
 rw[a5e,List.length_append,List.length_singleton,Nat.mul_succ];have hS:=a2n (a8d nm l);unfold a7k
 by_cases hp:p=0
 ·rw[if_pos hp]
  refine⟨by simp; exact ih.1,fun b hb=>?_⟩
  rcases List.mem_append.mp hb with hb|hb
  ·have:=ih.2 b hb; exact a1z (.l N0 (.p N1 N2)) (.l N0 N1) this
  ·rw[List.mem_singleton.mp hb]; simp
 ·rw[if_neg hp]
  refine⟨by simp; exact a1d (.l N0 (.p (.p N1 O1) O1)) (.l N0 (.p N1 O1)) ih.1,fun b hb=>?_⟩
  rcases List.mem_append.mp hb with hb|hb
  ·have:=ih.2 b (List.dropLast_subset _ hb); exact a1z (.l N0 (.p N1 N2)) (.l N0 N1) this
  ·rw[List.mem_singleton.mp hb,List.length_append]
   have:=ih.2 ((pcs nm l).getLastD []) (by rw[hS]; simp)
   have:=hm p
   exact b2z (.l (.p N0 N1) (.p N2 N3)) (.l N0 N2) (.l N1 N3) ‹_› this
theorem a9v(S:List (List Nat)):(a0i S).dropLast=a0i S.dropLast:=by simp[a0i]
theorem b7x{S:List (List Nat)}(h:S≠[]):∃m,S.length=m+1∧(a0i S)[m]?=some (.str (mk (S.getLastD []))):=by
 obtain⟨A,x,rfl⟩:=a9a h;exact⟨A.length,by simp,by rw[a2e,List.getElem?_append_right (by simp[a0i])]; simp[a0i]⟩
theorem b5l{m:Nat}(h:m≤10000):m≤d8y:=Nat.le_trans h (by decide)
theorem d6c{n:Nat}{s1 v2 v3 v4 v6 v8:V}{NL:List (List Nat)}{parts:List Nat}{o0 o1:OV}(hNL:NL.length=4)(hN3:∀s∈NL,s.length≤3)(hp:parts.length=10)(hp4:∀p∈parts,p<4){Q:Fl→St→Prop}
 (h:∀v11 v12 v13,a1n (a1w n) a0o (Ss.tl (Ss.tl (Ss.tl (Ss.tl (Ss.tl (Ss.tl (Ss.tl (Ss.tl (Ss.tl (Ss.tl L1.law)))))))))) (a7f [s1,.own 0,v2,v3,v4,.own 1,v6,.dat (.list (a0i NL)),v8,.dat (.list (a0c parts)),.own 2,v11,v12,v13] 24 [o0,o1,.lst [.list (a0i (pcs (NL.getD · []) (parts.take 5))),.list (a0i (pcs (NL.getD · []) (parts.drop 5)))]]) Q) :
  a1n (a1w n) a0o (Ss.tl (Ss.tl (Ss.tl (Ss.tl (Ss.tl (Ss.tl (Ss.tl (Ss.tl L1.law)))))))) (a7f [s1,.own 0,v2,v3,v4,.own 1,v6,.dat (.list (a0i NL)),v8,.dat (.list (a0c parts))] 28 [o0,o1]) Q:=by
 have hnm:∀p,(NL.getD p []).length≤3:=fun p=>by
  rw[List.getD_eq_getElem?_getD];cases e:NL[p]? with
  |none=>simp
  |some s=>exact hN3 s (List.mem_of_getElem? e)
 have stepW:∀(i j pj:Nat) (S0:List (List Nat)) (X:List d8e) {Q':Fl→St→Prop},i<2→X.length=2→j/5=i→pj<4→S0≠[]→S0.length≤20→(∀b∈S0,b.length≤100)→
   Q' .next (a7f [s1,.own 0,v2,v3,v4,.own 1,v6,.dat (.list (a0i NL)),v8,.dat (.list (a0c parts)),.own 2,.dat (.int (j:Int)),.dat (.int (pj:Int)),.dat (.list (a0i S0))] 24 [o0,o1,.lst (X.set i (.list (a0i (a7k (NL.getD · []) S0 pj))))])→
   a1n (a1w n) a0o (Ss.tl (S.body (Ss.hd (Ss.tl (Ss.tl (Ss.tl (Ss.tl (Ss.tl (Ss.tl (Ss.tl (Ss.tl (Ss.tl L1.law)))))))))))) (a7f [s1,.own 0,v2,v3,v4,.own 1,v6,.dat (.list (a0i NL)),v8,.dat (.list (a0c parts)),.own 2,.dat (.int (j:Int)),.dat (.int (pj:Int)),.dat (.list (a0i S0))] 24 [o0,o1,.lst X]) Q':=by
  intro i j pj S0 X Q' hi hX hj hpj hS hSl hSb hQ';obtain⟨m,hm1,hm2⟩:=b7x hS;have hf:(j:Int).fdiv 5=(i:Int):=by rw[←hj]; exact a1c j 5
  have hSD:=a9v S0;have hlast:(S0.getLastD []).length≤100:=hSb _ (by
   have:=a2n hS
   rw[this]; simp)
  have hnp:=hnm pj;have hXi:i<X.length:=by exact a1s (.t N0 N1) (.t N0 (.k 2)) (.e N1 (.k 2)) hi hX
  refine wq2 ?_;generalize hSS:a0i S0=SS at hm2 hSD hQ' ⊢;have hSSl:SS.length=m+1:=by rw[←hSS,strsL_length,hm1]
  simp_all![]
  by_cases hp0:pj=0
  ·refine ifp (by simp[hp0]) ?_
   simp_all![hf];refine⟨by exact lc3 3 [_,_,_] [] (.l (.p N0 O1) (.k 1000000)) (.l N1 (.k 20)) (.e N1 (.p N2 O1)) (.e N0 (.p N2 O1)) hSl hm1 hSSl,⟨by decide,a1l (by decide)⟩,by exact a0j (.a (.l (.z 0) (.c N0)) (.l (.c N0) (.z 1000000))) (.t N0 (.k 2)) hi,by rw[Int.toNat_natCast]; exact hXi,?_⟩
   (rw[Int.toNat_natCast]; refine wq1 ?_; rw[←hSS,a5a])
   have e:a0i S0++[PyData.str (mk [])]=a0i (a7k (NL.getD · []) S0 pj):=by(rw[a7k]; rw[if_pos hp0]; rw[a2e]); rfl
   rw[e,hSS];exact hQ'
  ·(refine ifn (by simp[hp0]) ?_; rw[hSSl,a4k,a5o,hSD])
   simp only[Option.bind_some,hm2];simp_all![hf,a0x (show pj<NL.length by exact a1s (.t N0 N1) (.e N1 (.k 4)) (.t N0 (.k 4)) hNL hpj),a9s (show pj<NL.length by exact a1s (.t N0 N1) (.e N1 (.k 4)) (.t N0 (.k 4)) hNL hpj)]
   refine⟨by exact a1s (.l (.p N0 O1) (.k 1000000)) (.l N1 (.k 20)) (.e N1 (.p N0 O1)) hSl hm1,by exact a5f (.a (.l (.z (Int.neg 1000000)) (.z (Int.neg 1))) (.l (.z (Int.neg 1)) (.z 1000000))),by exact a0j (.a (.l (.z (Int.neg 1000000)) (.c N0)) (.l (.c N0) (.z 1000000))) (.t N0 (.k 4)) hpj,b5l (by exact a1s (.l (.p N0 N1) (.k 10000)) (.l N0 (.k 100)) (.l N1 (.k 3)) hlast hnp),by rw[List.length_dropLast]; exact a0j (.l (.p (.s N0 O1) O1) (.k 1000000)) (.l N0 (.k 20)) hSl,⟨by decide,a1l (by decide)⟩,by exact a0j (.a (.l (.z 0) (.c N0)) (.l (.c N0) (.z 1000000))) (.t N0 (.k 2)) hi,by rw[Int.toNat_natCast]; exact hXi,?_⟩
   (rw[Int.toNat_natCast]; refine wq1 ?_)
   have e:a0i S0.dropLast++[PyData.str (mk (S0.getLastD []++NL.getD pj []))]=a0i (a7k (NL.getD · []) S0 pj):=by(rw[a7k]; rw[if_neg hp0]; rw[a2e]); rfl
   rw[e];exact hQ'
 refine wq2 ?_;simp_all![];have h00:PyData.list [PyData.str (Str.ofString "")]=.list (a0i (pcs (NL.getD · []) [])):=by rw[a5a]; rfl
 (rw[h00]; refine wq2 ?_; refine wqf ?_)
 simp_all![];refine⟨by exact a0j (.l N0 (.k 1000000)) (.e N0 (.k 10)) hp,?_⟩
 rw[show a0c parts=parts.map fun(e:Nat)=>PyData.int (e:Int) from rfl,a9j]
 generalize hnmf:(fun p=>NL.getD p [])=nm at h stepW ⊢;have hnm':∀p,(nm p).length≤3:=by rw[←hnmf]; exact hnm
 have bnd:∀l:List Nat,l.length≤10→(pcs nm l).length≤20∧∀b∈pcs nm l,b.length≤100:=fun l hl=>by
  obtain⟨b1,b2⟩:=c0y nm 3 hnm' l;exact⟨by exact a1s (.l N0 (.k 20)) (.l N1 (.k 10)) (.l N0 (.p N1 O1)) hl b1,fun b hb=>by have:=b2 b hb; exact a1s (.l N0 (.k 100)) (.l N1 (.k 10)) (.l N0 (.m 0 3 N1)) hl this⟩
 refine a3u (g:=fun p:Nat×Nat=>.tuple [.int (p.1:Int),.int (p.2:Int)]) (fun rst st=>∃(j:Nat) (v11 v12 v13:V),j≤10∧rst=((List.range parts.length).zip parts).drop j ∧
  st=a7f [s1,.own 0,v2,v3,v4,.own 1,v6,.dat (.list (a0i NL)),v8,.dat (.list (a0c parts)),.own 2,v11,v12,v13] 24 [o0,o1,.lst [.list (a0i (pcs nm ((parts.take 5).take j))),.list (a0i (pcs nm ((parts.drop 5).take (j-5))))]]) ?_ _ _
  ⟨0,.undef,.undef,.undef,Nat.zero_le _,rfl,rfl⟩ ?_
 ·rintro p rst st K' ⟨j,v11,v12,v13,hj,hr,rfl⟩ hK hRt
  have hjl:j<parts.length:=by
   rcases Nat.lt_or_ge j parts.length with h|h
   ·exact h
   ·rw[List.drop_of_length_le (by simp; omega)]at hr; cases hr
  rw[List.drop_eq_getElem_cons (by simp; omega)]at hr
  obtain⟨rfl,rfl⟩:=List.cons.inj hr;have hpj4:=hp4 _ (List.getElem_mem hjl);simp only[List.getElem_zip,List.getElem_range];generalize hpj:parts[j]=pj at hpj4;have hf:(j:Int).fdiv 5=((j/5:Nat):Int):=a1c j 5;refine lqS ?_;simp_all![];refine wq2 ?_
  by_cases h5:j<5
  ·have h50:(j:Int).fdiv 5=0:=by rw[hf,show j/5=0 by omega]; rfl
   simp_all![h50];have htk:(parts.take 5).take (j+1)=(parts.take 5).take j++[pj]:=by
    rw[←hpj,List.take_succ,List.getElem?_take_of_lt h5,List.getElem?_eq_getElem hjl]; rfl
   have htk2:(parts.drop 5).take (j+1-5)=(parts.drop 5).take (j-5):=by rw[show j+1-5=0 by omega,show j-5=0 by omega]
   refine⟨⟨by decide,a1l (by decide)⟩,by decide,?_⟩
   obtain⟨b1,b2⟩:=bnd ((parts.take 5).take j) (by rw[List.length_take]; exact a1d (.l (.b 2 N0 N1) (.k 10)) (.t N0 (.k 5)) h5)
   refine stepW 0 j pj _ _ (by decide) rfl (by omega) hpj4 (a8d _ _) b1 b2 ?_
   refine hK _ ⟨j+1,.dat (.int (j:Int)),.dat (.int (pj:Int)),.dat (.list (a0i (pcs nm ((parts.take 5).take j)))),by exact a1s (.l (.p N0 O1) (.k 10)) (.e N1 (.k 10)) (.t N0 N1) hp hjl,rfl,?_⟩
   rw[htk,htk2,a5e]
   rfl
  ·have h50:(j:Int).fdiv 5=1:=by rw[hf,show j/5=1 by omega]; rfl
   simp_all![h50];have htk:(parts.drop 5).take (j+1-5)=(parts.drop 5).take (j-5)++[pj]:=by
    rw[←hpj,show j+1-5=(j-5)+1 by omega,List.take_succ,List.getElem?_drop,show 5+(j-5)=j by omega,List.getElem?_eq_getElem hjl]; rfl
   have htk2:(parts.take 5).take (j+1)=(parts.take 5).take j:=by rw[List.take_take,List.take_take]; congr 1; exact a0j (.e (.b 2 (.p N0 O1) (.k 5)) (.b 2 N0 (.k 5))) (.n (.t N0 (.k 5))) h5
   refine⟨⟨by decide,a1l (by decide)⟩,by decide,?_⟩
   obtain⟨b1,b2⟩:=bnd ((parts.drop 5).take (j-5)) (by rw[List.length_take]; exact a2q (.l (.b 2 (.s N0 (.k 5)) N1) (.k 10)) (.e N2 (.k 10)) (.t N0 N2) hp hjl)
   refine stepW 1 j pj _ _ (by decide) rfl (by omega) hpj4 (a8d _ _) b1 b2 ?_
   refine hK _ ⟨j+1,.dat (.int (j:Int)),.dat (.int (pj:Int)),.dat (.list (a0i (pcs nm ((parts.drop 5).take (j-5))))),by exact a1s (.l (.p N0 O1) (.k 10)) (.e N1 (.k 10)) (.t N0 N1) hp hjl,rfl,?_⟩
   rw[htk,htk2,a5e]
   rfl
 ·rintro st ⟨j,v11,v12,v13,hj,hr,rfl⟩
  have hj10:j=10:=by
   have:=congrArg List.length hr
   simp at this; exact lc3 2 [_,_] [] (.e N0 (.k 10)) (.e N1 (.k 10)) (.l N0 (.k 10)) (.e (.k 0) (.s N1 N0)) hp hj this
  subst hj10
  have:=h v11 v12 v13
  have e1:(parts.take 5).take 10=parts.take 5:=List.take_of_length_le (by rw[List.length_take]; exact a1x (.l (.b 2 (.k 5) N0) (.k 10)))
  have e2:(parts.drop 5).take (10-5)=parts.drop 5:=List.take_of_length_le (by rw[List.length_drop]; exact a0j (.l (.s N0 (.k 5)) (.s (.k 10) (.k 5))) (.e N0 (.k 10)) hp)
  rw[e1,e2];exact this
noncomputable def b4x(n:Nat):List Nat:=((List.range (n%6)).map fun j=>1+n/6/3^j%3)
theorem c2t(n:Nat):(b4x n).length≤5∧∀x∈b4x n,1≤x∧x≤3:=by
 refine⟨by simp[b4x]; exact a0j (.l N0 (.k 5)) (.t N0 (.k 6)) (ml rfl),fun x hx=>?_⟩
 obtain⟨j,_,rfl⟩:=List.mem_map.mp hx;exact a0j (.a (.l O1 (.p O1 N0)) (.l (.p O1 N0) (.k 3))) (.t N0 (.k 3)) (ml rfl)
noncomputable def b2e(n:Nat):Int:=((n/2*1000000/100^(n%7):Nat):Int)*(1-2*((n%2:Nat):Int))
theorem b8o{n:Nat}(h:n≤100000000):(b2e n).natAbs<2^60:=by
 unfold b2e;rw[Int.natAbs_mul,Int.natAbs_natCast];have h1:(1-2*((n%2:Nat):Int)).natAbs=1:=by omega
 have h2:n/2*1000000/100^(n%7)≤n/2*1000000:=Nat.div_le_self _ _;rw[h1];omega
theorem d6e{n:Nat}{k:K1}(ok:k.Ok)(hn:6≤n){s1 v2 v3 v4 v6 v9 v11 v12 v13:V}{n0 n1 n2 n3 n4 n5 n6 n7:Nat}{o1:OV}(h6:n6≤100000000){Q:Fl→St→Prop}
 (h:a1n (a1w n) a0o (Ss.tl (Ss.tl (Ss.tl (Ss.tl (Ss.tl (Ss.tl (Ss.tl (Ss.tl (Ss.tl (Ss.tl (Ss.tl (Ss.tl (Ss.tl L1.law))))))))))))) (a7f [s1,.own 0,v2,v3,v4,.own 1,v6,.dat (.list (a0i k.names)),.dat k.wD,v9,.own 2,v11,v12,v13,.dat (.list (a0c (b4x n5++[0]))),.dat (.int (b2e n6)),.dat (.list (k.told [] (b4x n5++[0]))),.dat (.int (k.num [] (b4x n5++[0]) (b2e n6))),.dat (.int (k.sums [] (b4x n5++[0]):Nat)),.dat (.int (k.shares [] (b4x n5++[0]):Nat))] 18 [.lst [.int n0,.int n1,.int n2,.int n3,.int n4,.int n5,.int n6,.int n7],o1,.froz [.list (a0i k.p0),.list (a0i k.p1)]]) Q) :
  a1n (a1w n) a0o (Ss.tl (Ss.tl (Ss.tl (Ss.tl (Ss.tl (Ss.tl (Ss.tl (Ss.tl (Ss.tl (Ss.tl L1.law)))))))))) (a7f [s1,.own 0,v2,v3,v4,.own 1,v6,.dat (.list (a0i k.names)),.dat k.wD,v9,.own 2,v11,v12,v13] 24 [.lst [.int n0,.int n1,.int n2,.int n3,.int n4,.int n5,.int n6,.int n7],o1,.lst [.list (a0i k.p0),.list (a0i k.p1)]]) Q:=by
 refine wq2 ?_;simp_all![];have m6:(n5:Int).fmod 6=((n5%6:Nat):Int):=a0t n5 6;have d6:(n5:Int).fdiv 6=((n5/6:Nat):Int):=a1c n5 6;rw[m6,c5q];refine⟨by decide,by decide,by exact a0j (.a (.l (.z (Int.neg 1000000)) (.c N0)) (.l (.c N0) (.z 1000000))) (.t N0 (.k 6)) (ml rfl),?_⟩
 refine a2m (g:=fun(e:Nat)=>PyData.int (e:Int)) (fun j=>.int ((1+n5/6/3^j%3:Nat):Int)) (List.range (n5%6)) (by rfl) (fun j hj acc K hacc hK=>?_) (by simp; exact a0j (.l N0 (.k 1000000)) (.t N0 (.k 6)) (ml rfl)) fun st' g1 g2=>?_
 ·have hj6:=List.mem_range.mp hj
  have ep:(3:Int)^(j:Int).toNat=((3^j:Nat):Int):=a7z 3 j;have ef:∀a:Nat,Int.fmod (a:Int) 3=((a%3:Nat):Int):=fun a=>a0t a 3;simp_all![ep,d6,a1c,ef];refine⟨by decide,⟨by decide,a1l (by decide)⟩,⟨by exact a1x (.l (.z 0) (.c N0)),by exact a1s (.l (.c N0) (.z 1000)) (.t N0 N1) (.t N1 (.k 6)) hj6 (ml rfl),by decide⟩,b3i (by decide) (by decide) (by exact a1s (.l N0 (.k 100)) (.t N0 N1) (.t N1 (.k 6)) hj6 (ml rfl)),by decide,hacc,?_⟩
  exact hK
 rw[show st'.own=_ from g1,show st'.hz=true from g2]
 refine⟨by simp; exact a0j (.l N0 (.k 999999)) (.t N0 (.k 6)) (ml rfl),?_⟩
 have em:((List.range (n5%6)).map fun j=>PyData.int ((1+n5/6/3^j%3:Nat):Int))++[.int 0]=a0c (b4x n5++[0]):=by rw[a0r]; unfold b4x a0c; rw[List.map_map]; rfl
 (rw[em]; refine wq2 ?_)
 have d2:(n6:Int).fdiv 2=((n6/2:Nat):Int):=a1c n6 2;have p6:(10:Int)^(6:Int).toNat=((1000000:Nat):Int):=by decide
 have m7:(n6:Int).fmod 7=((n6%7:Nat):Int):=a0t n6 7;have m2:(n6:Int).fmod 2=((n6%2:Nat):Int):=a0t n6 2;have p1:(100:Int)^((n6%7:Nat):Int).toNat=((100^(n6%7):Nat):Int):=a7z 100 _;simp_all![d2,p6,m7,m2,p1];rw[←Int.natCast_mul,a1c];have hrz:((n6/2*1000000/100^(n6%7):Nat):Int)*(1-2*((n6%2:Nat):Int))=b2e n6:=rfl;rw[hrz];have h7:n6%7≤100:=by exact a0j (.l N0 (.k 100)) (.t N0 (.k 7)) (ml rfl)
 refine⟨by decide,⟨by decide,a1l (by decide)⟩,⟨by decide,by decide,by decide⟩,.inr (by decide),by decide,by decide,⟨by exact a1x (.l (.z 0) (.c N0)),by exact a0j (.l (.c N0) (.z 1000)) (.t N0 (.k 7)) (ml rfl),by decide⟩,b3i (by decide) (by decide) h7,by decide,by decide,.inl (by decide),.inr (by exact a0j (.t (.u 1 (.S (.z 1) (.n 0 2 (.c N0)))) (.k (Nat.pow 2 64))) (.t N0 (.k 2)) (ml rfl)),?_⟩
 refine wq2 ?_;simp_all![];obtain⟨b1,b2⟩:=c2t n5;have hpD:k.pD=.list [.list (a0i k.p0),.list (a0i k.p1)]:=rfl;rw[←hpD];refine b7d ok (by simp; omega) (fun x hx=>?_) (by omega) ⟨⟨_,rfl⟩,?_⟩
 ·rcases List.mem_append.mp hx with hx|hx
  ·exact(b2 x hx).2
  ·rw[List.mem_singleton.mp hx]; exact a5f (.l (.k 0) (.k 3))
 simp_all![];exact h
noncomputable def a8e(v:Nat):List Nat:=(List.range ((Builtin.Int.intBits (v:Int)-1)/6+1)).reverse.map fun j=>v/64^j%64+64*(if 0<j then 1 else 0)
noncomputable def Flg:List Nat→List Nat→Prop
 |[],[]=>True
 |a::l,b::m=>(b=a∨b=a+128)∧Flg l m
 |_,_=>False
theorem b3n:∀{a b c:List Nat},Flg (a++b) c→∃c1 c2,c=c1++c2∧Flg a c1∧Flg b c2
 |[],b,c=>fun h=>⟨[],c,rfl,trivial,h⟩
 |x::a,b,[]=>fun h=>h.elim
 |x::a,b,y::c=>fun h=>by
  obtain⟨c1,c2,e,h1,h2⟩:=b3n h.2;exact⟨y::c1,c2,by rw[e]; rfl,⟨h.1,h1⟩,h2⟩
theorem c0d(b:Nat→Bool):∀(l:List Nat) (s:Nat),Flg l (((List.range' s l.length).zip l).map fun p=>p.2+128*(if b p.1=true then 1 else 0))
 |[]=>fun _=>trivial
 |a::l=>fun s=>by
  rw[List.length_cons,List.range'_succ,List.zip_cons_cons,List.map_cons];refine⟨?_,c0d b l (s+1)⟩;split
  ·exact .inr rfl
  ·exact .inl rfl
theorem c7o:∀{os os':List Nat} {acc v:Nat},(∀o∈os,o<128)→Flg os os'→vi acc os v→vi acc os' v
 |[],_,_,_,_,_,h=>h.elim
 |a::l,[],_,_,_,h,_=>h.elim
 |a::l,b::m,acc,v,h0,hf,h=>by
  have ha:=h0 a (.head _);have e1:b%64=a%64:=by rcases hf.1 with e|e <;> omega
  have e2:b/64%2=a/64%2:=by rcases hf.1 with e|e <;> omega
  refine⟨by rcases hf.1 with e|e <;> omega,?_⟩
  rw[e1,e2];have h2:=h.2
  split at h2
  ·rename_i hc
   refine ifp hc ?_;exact c7o (fun o ho=>h0 o (.tail _ ho)) hf.2 h2
  ·rename_i hc
   refine ifn hc ?_;obtain⟨rfl,h3⟩:=h2
   match m,hf.2 with
   |[],_=>exact⟨rfl,h3⟩
theorem c1c(v:Nat):∀(j:Nat),vi (v/64^(j+1)) ((List.range (j+1)).reverse.map fun j=>v/64^j%64+64*(if 0<j then 1 else 0)) v
 |0=>by
  refine⟨by simp; exact a0j (.t N0 (.k 256)) (.t N0 (.k 64)) (ml rfl),?_⟩
  simp only[Nat.lt_irrefl,if_false,Nat.mul_zero,Nat.add_zero,Nat.pow_zero,Nat.div_one];refine ifn (by omega) ?_
  refine⟨rfl,?_⟩;simp only[Nat.zero_add,Nat.pow_one,Nat.mod_mod];exact a1z (.e (.p (.m 1 64 N0) N1) N2) (.e (.p (.m 0 64 N0) N1) N2) (Nat.div_add_mod _ 64)
 |j+1=>by
  rw[b4m,List.map_cons];have h64:v/64^(j+1)%64<64:=Nat.mod_lt _ (by decide)
  refine⟨by rw[if_pos (by omega)]; exact a0j (.t (.p N0 (.m 0 64 O1)) (.k 256)) (.t N0 (.k 64)) h64,?_⟩
  (rw[if_pos (show 0<j+1 by omega)]; rw[if_pos (by omega)])
  have e:v/64^(j+1+1)*64+(v/64^(j+1)%64+64*1)%64=v/64^(j+1):=by
   rw[Nat.pow_succ 64 (j+1),←Nat.div_div_eq_div_mul];omega
  rw[e];exact c1c v j
theorem c7y(v:Nat):vi 0 (a8e v) v∧∀o∈a8e v,o<128:=by
 refine⟨?_,fun o ho=>?_⟩
 ·have:=c1c v ((Builtin.Int.intBits (v:Int)-1)/6)
  rwa[Nat.div_eq_of_lt]at this
  refine Nat.lt_of_lt_of_le (b2l v) ?_;rw[show 64=2^6 from rfl,←Nat.pow_mul]
  exact Nat.pow_le_pow_right (by decide) (by exact a2q (.l N0 (.m 0 6 (.p N1 O1))) (.e (.p (.m 0 6 N1) N2) (.s N0 O1)) (.t N2 (.k 6)) (Nat.div_add_mod _ 6) (ml rfl))
 ·obtain⟨j,_,rfl⟩:=List.mem_map.mp ho
  have:v/64^j%64<64:=Nat.mod_lt _ (by decide)
  split <;> (first|exact a0j (.t (.p N0 (.m 0 64 O1)) (.k 128)) (.t N0 (.k 64)) (ml rfl)|exact a0j (.t (.p N0 (.m 0 64 (.k 0))) (.k 128)) (.t N0 (.k 64)) (ml rfl)|omega)
theorem b6p:∀{vs:List Nat} {os:List Nat},(∀v∈vs,v<2^400)→Flg (vs.flatMap a8e) os→Enc os vs
 |[],os,_,h=>by
  match os,h with
  |[],_=>rfl
 |v::vs,os,hv,h=>by
  rw[List.flatMap_cons]at h;obtain⟨c1,c2,e,h1,h2⟩:=b3n h;obtain⟨o1,o2⟩:=c7y v;exact⟨c1,c2,e,c7o o2 h1 o1,hv v (.head _),b6p (fun x hx=>hv x (.tail _ hx)) h2⟩
noncomputable def bI(b:Bool):Nat:=if b=true then 1 else 0
theorem b7n(v:Nat):a8e v=(List.range ((Builtin.Int.intBits (v:Int)-1)/6+1)).reverse.map fun j=>v/64^j%64+64*(if 0<j then 1 else 0):=rfl
noncomputable def c3m(tape:List Nat)(n7:Nat):List Nat:=((List.range (tape.flatMap a8e).length).zip (tape.flatMap a8e)).map fun p=>p.2+128*(if ((p.1+n7)%3==0)=true then 1 else 0)
theorem c2u{n7:Nat}(h:∀v∈tape,v<2^400):Enc (c3m tape n7) tape:=by
 refine b6p h ?_
 have:=c0d (fun i=>(i+n7)%3==0) (tape.flatMap a8e) 0
 rwa[←List.range_eq_range']at this
theorem d3c{n:Nat}{k:K1}(hn:26≤n){s1 v2 v3 v4 v7 v11 v12 v13 v14 v15 v16 v18 v19:V}{n0 n1 n2 n3 n4 n5 n6 n7 c0 c1 c2:Nat}{num:Int}{o1 o2:OV}{w0 w1 w2 parts:List Nat}(hk:k.wts=[w0,w1,w2])(hw0:w0.length=4)(hw1:w1.length=4)(hw2:w2.length=4)(hp:parts.length=10)(hp4:∀p∈parts,p<4){Q:Fl→St→Prop}
 (h:∀pt,pt=parts.map (fun p=>[52,c0,c1,c2].getD p 0)→a1n (a1w n) a0o (Ss.tl (Ss.tl (Ss.tl (Ss.tl (Ss.tl (Ss.tl (Ss.tl (Ss.tl (Ss.tl (Ss.tl (Ss.tl (Ss.tl (Ss.tl (Ss.tl (Ss.tl L1.law))))))))))))))) (a7f [s1,.own 0,v2,v3,v4,.own 1,.dat (.list (a0c [c0,c1,c2])),v7,.dat k.wD,.dat (.list (a0c pt)),.own 2,v11,v12,v13,v14,v15,v16,.dat (.int num),v18,v19,.dat (.list (a0c (([c0,c1,c2]++256::(w0++pt.take 5++257::(w1++pt.drop 5++258::(w2++[if num<0 then 15 else 14]))))++0::[num.natAbs,n7%1024])))] 17 [.lst [.int n0,.int n1,.int n2,.int n3,.int n4,.int n5,.int n6,.int n7],o1,o2]) Q) :
  a1n (a1w n) a0o (Ss.tl (Ss.tl (Ss.tl (Ss.tl (Ss.tl (Ss.tl (Ss.tl (Ss.tl (Ss.tl (Ss.tl (Ss.tl (Ss.tl (Ss.tl L1.law))))))))))))) (a7f [s1,.own 0,v2,v3,v4,.own 1,.dat (.list (a0c [c0,c1,c2])),v7,.dat k.wD,.dat (.list (a0c parts)),.own 2,v11,v12,v13,v14,v15,v16,.dat (.int num),v18,v19] 18 [.lst [.int n0,.int n1,.int n2,.int n3,.int n4,.int n5,.int n6,.int n7],o1,o2]) Q:=by
 refine wq2 ?_;simp_all![];refine a2m (g:=fun(e:Nat)=>PyData.int (e:Int)) (fun p=>.int (([52,c0,c1,c2].getD p 0:Nat):Int)) parts (by rfl) (fun p hpp acc K hacc hK=>?_) (by exact a0j (.l N0 (.k 1000000)) (.e N0 (.k 10)) hp) fun st' g1 g2=>?_
 ·have hp4':=hp4 p hpp
  have e1:PyData.int 52::a0c [c0,c1,c2]=a0c [52,c0,c1,c2]:=rfl;have e2:(1+[c0,c1,c2].length)=[52,c0,c1,c2].length:=rfl;have hl4:p < [52,c0,c1,c2].length:=hp4';simp_all![];rw[e1];have hpx:a1i (1+(1+1+1)) (p:Int)=some p:=a0x (by omega)
  rw[hpx];simp only[Option.bind_some,a1m hl4];exact⟨by decide,by exact a0j (.a (.l (.z (Int.neg 1000000)) (.c N0)) (.l (.c N0) (.z 1000000))) (.t N0 (.k 4)) hp4',hacc,hK⟩
 rw[show st'.own=_ from g1,show st'.hz=true from g2]
 obtain⟨pt,hpt⟩:∃pt,pt=parts.map (fun p=>[52,c0,c1,c2].getD p 0):=⟨_,rfl⟩;have hptl:pt.length=10:=by rw[hpt]; simpa using hp
 have key:=h pt hpt;have e3:(parts.map fun p=>PyData.int (([52,c0,c1,c2].getD p 0:Nat):Int))=a0c pt:=by rw[hpt]; unfold a0c; rw[List.map_map]; rfl
 (rw[e3]; refine wq2 ?_)
 have hwD:k.wD=.list [.list (a0c w0),.list (a0c w1),.list (a0c w2)]:=by rw[K1.wD,hk]; rfl
 have h5a:cut (a0c pt) none (some 5)=a0c (pt.take 5):=by rw[←a2a]; exact cut_to _ 5
 have h5b:cut (a0c pt) (some 5) none=a0c (pt.drop 5):=by rw[←b0d]; exact b2a _ 5
 have m10:(n7:Int).fmod 1024=((n7%1024:Nat):Int):=a0t n7 1024;rw[hwD]at key ⊢;simp_all![h5a,h5b,m10];have fin:∀sg:Nat,sg=(if num<0 then 15 else 14)→a0c [c0,c1,c2]++PyData.int 256::(a0c w0++(a0c (pt.take 5)++PyData.int 257::(a0c w1++(a0c (pt.drop 5)++PyData.int 258::(a0c w2++[PyData.int (sg:Int),.int 0,.int (num.natAbs:Int),.int ((n7%1024:Nat):Int)])))))=a0c (([c0,c1,c2]++256::(w0++pt.take 5++257::(w1++pt.drop 5++258::(w2++[if num<0 then 15 else 14]))))++0::[num.natAbs,n7%1024]):=fun sg hsg=>by
  rw[←hsg];simp[a0c]
 have hl5:(pt.take 5).length≤5∧(pt.drop 5).length≤10:=by rw[List.length_take,List.length_drop]; exact a0j (.a (.l (.b 2 (.k 5) N0) (.k 5)) (.l (.s N0 (.k 5)) (.k 10))) (.e N0 (.k 10)) hptl
 repeat (refine⟨by omega,?_⟩)
 by_cases hneg:num<0
 ·refine ifp (by simpa using hneg) ?_
  have e4:=fin 15 (by rw[if_pos hneg])
  repeat (refine⟨by(first|exact a5f (.a (.l (.z (Int.neg 1000000)) (.z 7)) (.l (.z 7) (.z 1000000)))|exact lc4 5 [_,_,_,_,_] [] (.l (.p (.p (.p (.p O1 O1) O1) (.p O1 (.p N0 (.p N1 (.p O1 (.p N2 (.p N3 (.p O1 N4)))))))) (.p (.p (.p O1 O1) O1) O1)) (.k 1000000)) (.e N0 (.k 4)) (.e N2 (.k 4)) (.e N4 (.k 4)) (.a (.l N1 (.k 5)) (.l N3 (.k 10))) hw0 hw1 hw2 hl5|omega),?_⟩)
  rw[if_pos hneg]at key e4;have e5:PyData.int ((15:Nat):Int)=.int 15:=rfl;rw[e5]at e4;rw[e4];exact key
 ·refine ifn (by simpa using hneg) ?_
  have e4:=fin 14 (by rw[if_neg hneg])
  repeat (refine⟨by(first|exact a5f (.a (.l (.z (Int.neg 1000000)) (.z 7)) (.l (.z 7) (.z 1000000)))|exact lc4 5 [_,_,_,_,_] [] (.l (.p (.p (.p (.p O1 O1) O1) (.p O1 (.p N0 (.p N1 (.p O1 (.p N2 (.p N3 (.p O1 N4)))))))) (.p (.p (.p O1 O1) O1) O1)) (.k 1000000)) (.e N0 (.k 4)) (.e N2 (.k 4)) (.e N4 (.k 4)) (.a (.l N1 (.k 5)) (.l N3 (.k 10))) hw0 hw1 hw2 hl5|omega),?_⟩)
  rw[if_neg hneg]at key e4;have e5:PyData.int ((14:Nat):Int)=.int 14:=rfl;rw[e5]at e4;rw[e4];exact key
theorem b0v{Γ:Ctx}{α:Type}{g:α→d8e}{i:Nat}{G:G}{st0:St}{K:List d8e→St→Prop}(f:α→d8e):∀(l:List α) (acc:List d8e) (v:V),(∀a∈l,∀acc K,acc.length<1000000→K (acc++[f a]) (st0.set i (.dat (g a)))→wpG Γ G (st0.set i (.dat (g a))) acc K)→acc.length+l.length≤1000000→
  (∀w,K (acc++l.map f) (st0.set i w))→a1q (lpF Γ (.one i) G) (l.map g) (st0.set i v) acc K
 |[]=>fun acc v hs hl hk=>by have:=hk v; simp at this; exact this
 |a::l=>fun acc v hs hl hk=>by
  rw[List.length_cons]at hl;show wpG Γ G ((st0.set i v).set i (.dat (g a))) acc _;rw[b2u];refine hs a (.head _) acc _ (by exact a1d (.t N0 (.k 1000000)) (.l (.p N0 (.p N1 O1)) (.k 1000000)) hl) ?_
  refine b0v f l (acc++[f a]) _ (fun b hb=>hs b (.tail _ hb)) (by simp; exact a1d (.l (.p (.p N0 O1) N1) (.k 1000000)) (.l (.p N0 (.p N1 O1)) (.k 1000000)) hl) fun w=>?_
  have:=hk w
  simpa using this
theorem b9v{Γ:Ctx}{α:Type}{g:α→d8e}{G:G}{st0:St}{K:List d8e→St→Prop}{v:V}(f:α→d8e)(l:List α)(acc:List d8e)(hv:st0.vars[i]?=some v)(hs:∀a∈l,∀acc K,acc.length<1000000→K (acc++[f a]) (st0.set i (.dat (g a)))→wpG Γ G (st0.set i (.dat (g a))) acc K)(hl:acc.length+l.length≤1000000)
 (hk:∀w,K (acc++l.map f) (st0.set i w)):a1q (lpF Γ (.one i) G) (l.map g) st0 acc K:=by
 rw[a8c hv];exact b0v f l acc _ hs hl hk
theorem c4e{v:Nat}(h:v<2^400):(a8e v).length≤68:=by
 have:=a9n h
 simp[a8e]; exact a2q (.l N0 (.k 67)) (.l N1 (.k 400)) (.e (.p (.m 0 6 N0) N2) (.s N1 O1)) this (Nat.div_add_mod _ 6)
theorem b3l(ht:tape.length≤100)(hv:∀v∈tape,v<2^400):(tape.flatMap a8e).length≤68*100:=by
 have:∀l:List Nat,(∀v∈l,v<2^400)→(l.flatMap a8e).length≤68*l.length:=by
  intro l
  induction l with
  |nil=>intro _; simp
  |cons a l ih=>
   intro hl;have h1:=c4e (hl a (.head _));have h2:=ih fun v hv=>hl v (.tail _ hv);rw[List.flatMap_cons,List.length_append,List.length_cons]; exact a2q (.l (.p N0 N1) (.m 0 68 (.p N2 O1))) (.l N0 (.k 68)) (.l N1 (.m 0 68 N2)) h1 h2
 exact Nat.le_trans (this tape hv) (Nat.mul_le_mul_left _ ht)
theorem d1m{n:Nat}(hn:26≤n){s1 v2 v3 v4 v6 v7 v8 v9 v11 v12 v13 v14 v15 v16 v17 v18 v19:V}{o0 o1 o2:OV}(ht:tape.length≤100)(hv:∀v∈tape,v<2^400){Q:Fl→St→Prop}
 (h:a1n (a1w n) a0o (Ss.tl (Ss.tl (Ss.tl (Ss.tl (Ss.tl (Ss.tl (Ss.tl (Ss.tl (Ss.tl (Ss.tl (Ss.tl (Ss.tl (Ss.tl (Ss.tl (Ss.tl (Ss.tl L1.law)))))))))))))))) (a7f [s1,.own 0,v2,v3,v4,.own 1,v6,v7,v8,v9,.own 2,v11,v12,v13,v14,v15,v16,v17,v18,v19,.dat (.list (a0c tape)),.dat (.list (a0c (tape.flatMap a8e)))] 16 [o0,o1,o2]) Q) :
  a1n (a1w n) a0o (Ss.tl (Ss.tl (Ss.tl (Ss.tl (Ss.tl (Ss.tl (Ss.tl (Ss.tl (Ss.tl (Ss.tl (Ss.tl (Ss.tl (Ss.tl (Ss.tl (Ss.tl L1.law))))))))))))))) (a7f [s1,.own 0,v2,v3,v4,.own 1,v6,v7,v8,v9,.own 2,v11,v12,v13,v14,v15,v16,v17,v18,v19,.dat (.list (a0c tape))] 17 [o0,o1,o2]) Q:=by
 have hfl:=b3l ht hv;refine wq2 ?_;simp_all![];refine a9f (g:=fun(e:Nat)=>PyData.int (e:Int)) (fun v=>a0c (a8e v)) (fun st=>∃a b,st=((a7f [s1,.own 0,v2,v3,v4,.own 1,v6,v7,v8,v9,.own 2,v11,v12,v13,v14,v15,v16,v17,v18,v19,.dat (.list (a0c tape))] 17 [o0,o1,o2]).set 33 a).set 34 b) tape ?_ _ _ ⟨.undef,.undef,rfl⟩ ?_ ?_
 ·rintro v hvt st acc K ⟨a,b,rfl⟩ hacc hK
  have hb4:=a9n (hv v hvt);refine lqF ?_;simp_all![];generalize hbv:Builtin.Int.intBits (v:Int)=bv at hb4;have e1:(max 0 ((bv:Int)-1)).fdiv 6=(((bv-1)/6:Nat):Int):=by
   rw[show max 0 ((bv:Int)-1)=((bv-1:Nat):Int) by omega]
   exact a1c _ 6
  rw[e1,show((((bv-1)/6:Nat):Int)+1).toNat=(bv-1)/6+1 by omega,a9i]
  refine⟨⟨by decide,a1l (by decide)⟩,by exact a2q (.a (.l (.z (Int.neg 1)) (.c N0)) (.l (.c N0) (.z 1000000))) (.l N1 (.k 400)) (.e (.p (.m 0 6 N0) N2) (.s N1 O1)) hb4 (Nat.div_add_mod _ 6),?_⟩
  have hoct:((List.range ((bv-1)/6+1)).reverse.map fun j=>PyData.int ((v/64^j%64+64*(if 0<j then 1 else 0):Nat):Int))=a0c (a8e v):=by
   rw[b7n,hbv]; unfold a0c; rw[List.map_map]; rfl
  have hlen:((List.range ((bv-1)/6+1)).reverse).length=(a8e v).length:=by rw[b7n,hbv]; simp
  refine b9v (g:=fun(e:Nat)=>PyData.int (e:Int)) (fun j=>.int ((v/64^j%64+64*(if 0<j then 1 else 0):Nat):Int)) ((List.range ((bv-1)/6+1)).reverse) acc (by rfl) (fun j hj acc K hacc hK=>?_) (by rw[hlen,←intsL_length]; exact hacc) fun w=>?_
  ·have hj68:j≤100:=by
    have:=List.mem_range.mp (List.mem_reverse.mp hj); exact c3r (.l N0 (.k 100)) (.l N1 (.k 400)) (.t N0 (.p N2 O1)) (.e (.p (.m 0 6 N2) N3) (.s N1 O1)) hb4 this (Nat.div_add_mod _ 6)
   have ep:(64:Int)^(j:Int).toNat=((64^j:Nat):Int):=a7z 64 j;have ef:∀a:Nat,Int.fmod (a:Int) 64=((a%64:Nat):Int):=fun a=>a0t a 64;simp_all![ep,a1c,ef];have e2:((v/64^j%64:Nat):Int)+64*b2i (decide (0<(j:Int)))=((v/64^j%64+64*(if 0<j then 1 else 0):Nat):Int):=by
    unfold b2i
    by_cases h0:0<j
    ·(rw[if_pos (by simpa using h0)]; rw[if_pos h0]); simp
    ·(rw[if_neg (by simpa using h0)]; rw[if_neg h0]); simp
   rw[e2];exact⟨⟨by exact a1x (.l (.z 0) (.c N0)),by exact a0j (.l (.c N0) (.z 1000)) (.l N0 (.k 100)) hj68,by decide⟩,b3i (by decide) (by decide) hj68,by decide,hacc,hK⟩
  ·rw[hoct]
   exact hK _ ⟨_,_,rfl⟩
 ·have:(tape.flatMap fun v=>a0c (a8e v)).length=(tape.flatMap a8e).length:=by
   simp[List.length_flatMap,intsL_length]
  rw[this,List.length_nil]; exact a0j (.l (.p (.k 0) N0) (.k 1000000)) (.l N0 (.m 0 68 (.k 100))) hfl
 ·rintro st ⟨a,b,rfl⟩
  have e9:(tape.flatMap fun v=>a0c (a8e v))=a0c (tape.flatMap a8e):=by
   unfold a0c; rw[List.map_flatMap]
  rw[e9,List.nil_append];exact h
theorem d4j{n:Nat}{s1 v2 v3 v4 v6 v7 v8 v9 v11 v12 v13 v14 v15 v16 v17 v18 v19 v20:V}{n0 n1 n2 n3 n4 n5 n6 n7:Nat}{o1 o2:OV}(ht:(tape.flatMap a8e).length≤10000){R:d8e}(hread:∀ow (Q':V→List OV→Prop),Q' (.dat R) ow→a1w n 16 true [] [.dat (.list (a0c (c3m tape n7)))] ow Q'){Q:Fl→St→Prop}
 (h:a1n (a1w n) a0o (Ss.tl (Ss.tl (Ss.tl (Ss.tl (Ss.tl (Ss.tl (Ss.tl (Ss.tl (Ss.tl (Ss.tl (Ss.tl (Ss.tl (Ss.tl (Ss.tl (Ss.tl (Ss.tl (Ss.tl L1.law))))))))))))))))) (a7f [s1,.own 0,v2,v3,v4,.own 1,v6,v7,v8,v9,.own 2,v11,v12,v13,v14,v15,v16,v17,v18,v19,v20,.dat (.list (a0c (tape.flatMap a8e))),.dat R] 15 [.lst [.int n0,.int n1,.int n2,.int n3,.int n4,.int n5,.int n6,.int n7],o1,o2]) Q) :
  a1n (a1w n) a0o (Ss.tl (Ss.tl (Ss.tl (Ss.tl (Ss.tl (Ss.tl (Ss.tl (Ss.tl (Ss.tl (Ss.tl (Ss.tl (Ss.tl (Ss.tl (Ss.tl (Ss.tl (Ss.tl L1.law)))))))))))))))) (a7f [s1,.own 0,v2,v3,v4,.own 1,v6,v7,v8,v9,.own 2,v11,v12,v13,v14,v15,v16,v17,v18,v19,v20,.dat (.list (a0c (tape.flatMap a8e)))] 16 [.lst [.int n0,.int n1,.int n2,.int n3,.int n4,.int n5,.int n6,.int n7],o1,o2]) Q:=by
 refine wq2 ?_;simp_all![];generalize hO:tape.flatMap a8e=O at ht h;have hen:b2b (a0c O)=((List.range O.length).zip O).map fun p=>.tuple [.int (p.1:Int),.int (p.2:Int)]:=a9j _ _;rw[hen];refine⟨by omega,?_⟩
 refine b0w (g:=fun p:Nat×Nat=>.tuple [.int (p.1:Int),.int (p.2:Int)]) (fun p=>.int ((p.2+128*(if ((p.1+n7)%3==0)=true then 1 else 0):Nat):Int)) (fun st=>∃a b,st=((a7f [s1,.own 0,v2,v3,v4,.own 1,v6,v7,v8,v9,.own 2,v11,v12,v13,v14,v15,v16,v17,v18,v19,v20,.dat (.list (a0c O))] 16 [.lst [.int n0,.int n1,.int n2,.int n3,.int n4,.int n5,.int n6,.int n7],o1,o2]).set 35 a).set 36 b) _ ?_ _ _ ⟨.undef,.undef,rfl⟩ ?_ ?_
 ·rintro⟨i,o⟩ hio st acc K ⟨a,b,rfl⟩ hacc hK
  refine lqF ?_;have hil:i<O.length:=List.mem_range.mp (List.of_mem_zip hio).1;have e1:((i:Int)+(n7:Int)).fmod 3=(((i+n7)%3:Nat):Int):=by rw[←Int.natCast_add]; exact a0t _ 3
  simp_all![];rw[e1];have e2:(o:Int)+128*b2i ((((i+n7)%3:Nat):Int)==0)=((o+128*(if ((i+n7)%3==0)=true then 1 else 0):Nat):Int):=by
   unfold b2i
   by_cases h0:(i+n7)%3=0
   ·rw[h0]; simp
   ·(rw[if_neg (by simp; omega)]; rw[if_neg (by simp; omega)]); simp
  rw[e2];exact⟨by decide,by decide,hacc,hK _ ⟨_,_,rfl⟩⟩
 ·simp; omega
 ·rintro st ⟨a,b,rfl⟩
  have e3:((List.range O.length).zip O).map (fun p=>PyData.int ((p.2+128*(if ((p.1+n7)%3==0)=true then 1 else 0):Nat):Int))=a0c (c3m tape n7):=by
   unfold c3m a0c;rw[List.map_map,hO]; rfl
  rw[List.nil_append,e3];refine hread _ _ ⟨⟨_,rfl⟩,?_⟩;simp_all![];exact h
theorem b1u{k:Nat}(h:shp k d):PyData.eqv d d=true:=SeqAt.eqv_refl d h.1
namespace K1
variable (k:K1)
noncomputable def ents:List Nat→List Nat→List (Nat×List Nat)
 |_,[]=>[]
 |pre,one::r=>(one,pre)::ents (pre++[one]) r
theorem told_ents:∀(msg pre:List Nat),k.told pre msg=(ents pre msg).map fun p=>k.ent p.1 p.2
 |[]=>fun _=>rfl
 |one::r=>fun pre=>by(dsimp only[told]; dsimp only[ents]; rw[List.map_cons,told_ents r])
theorem ents_fst:∀(msg pre:List Nat),(ents pre msg).map (·.1)=msg
 |[]=>fun _=>rfl
 |one::r=>fun pre=>by(dsimp only[ents]; rw[List.map_cons,ents_fst r])
theorem ents_len(msg pre:List Nat):(ents pre msg).length=msg.length:=by
 have:=congrArg List.length (ents_fst msg pre); simpa using this
variable {k}
theorem c9r(h:∀s∈k.names,∀c∈s,c<256)(ms:List Nat):∀c∈k.txt ms,c<256:=by
 intro c hc;unfold txt at hc;obtain⟨s,hs,hc⟩:=List.mem_flatten.mp hc;obtain⟨one,_,rfl⟩:=List.mem_map.mp hs;rw[List.getD_eq_getElem?_getD]at hc;cases e:k.names[one]? with
 |none=>rw[e]at hc; simp at hc
 |some s=>rw[e]at hc; exact h s (List.mem_of_getElem? e) c hc
theorem c4i(h:∀s∈k.names,∀c∈s,c<256)(msg pre:List Nat):shp 2 (.list (k.told pre msg)):=by
 refine a7u fun d hd=>?_;rw[told_ents]at hd;obtain⟨p,_,rfl⟩:=List.mem_map.mp hd;exact a2i (a6x 0 _) (a2i (b9w 0 (c9r h _)) (a2i (a7w 0 _) (a2i (a7w 0 _) (a2i (a7w 0 _) (a2i (a7w 0 _) (c0p 0))))))
theorem rep_shp(h:∀s∈k.names,∀c∈s,c<256)(msg pre:List Nat)(a b:Int):shp 3 (.list [.list (k.told pre msg),.int a,.int b]):=a2i (c4i h msg pre) (a2i (a6x 2 _) (a2i (a6x 2 _) (c0p 2)))
end K1
theorem d3w{n:Nat}{k:K1}(ok:k.Ok)(hn:26≤n)(hch:∀s∈k.names,∀c∈s,c<256){s1 v2 v3 v4 v6 v9 v11 v12 v13 v18 v19 v20 v21:V}{n0 n1 n2 n3 n4 n5 n6 n7:Nat}{o1:OV}{msg msg2:List Nat}{rest r2 num:Int}(hm1:msg.length≤40)(hm2:msg2.length≤30)(hm3:∀y∈msg2,y≤3)(hnum:k.num [] msg2 r2=((n7%1024:Nat):Int)){Q:Fl→St→Prop}
 (h:∀v23,a1n (a1w n) a0o (Ss.tl (Ss.tl (Ss.tl (Ss.tl (Ss.tl (Ss.tl (Ss.tl (Ss.tl (Ss.tl (Ss.tl (Ss.tl (Ss.tl (Ss.tl (Ss.tl (Ss.tl (Ss.tl (Ss.tl (Ss.tl (Ss.tl (Ss.tl L1.law)))))))))))))))))))) (a7f [s1,.own 0,v2,v3,v4,.own 1,v6,.dat (.list (a0i k.names)),.dat k.wD,v9,.own 2,v11,v12,v13,.dat (.list (a0c msg)),.dat (.int rest),.dat (.list (k.told [] msg)),.dat (.int num),v18,v19,v20,v21,.dat (.list [.list [.list (k.told [] msg),.int rest,.int (msg.length:Int)],.list [.list (k.told [] msg2),.int r2,.int (msg2.length:Int)]]),v23] 14 [.lst [.int n0,.int n1,.int n2,.int n3,.int n4,.int n5,.int n6,.int n7],o1,.froz [.list (a0i k.p0),.list (a0i k.p1)]]) Q) :
  a1n (a1w n) a0o (Ss.tl (Ss.tl (Ss.tl (Ss.tl (Ss.tl (Ss.tl (Ss.tl (Ss.tl (Ss.tl (Ss.tl (Ss.tl (Ss.tl (Ss.tl (Ss.tl (Ss.tl (Ss.tl (Ss.tl L1.law))))))))))))))))) (a7f [s1,.own 0,v2,v3,v4,.own 1,v6,.dat (.list (a0i k.names)),.dat k.wD,v9,.own 2,v11,v12,v13,.dat (.list (a0c msg)),.dat (.int rest),.dat (.list (k.told [] msg)),.dat (.int num),v18,v19,v20,v21,.dat (.list [.list [.list (k.told [] msg),.int rest,.int (msg.length:Int)],.list [.list (k.told [] msg2),.int r2,.int (msg2.length:Int)]])] 15 [.lst [.int n0,.int n1,.int n2,.int n3,.int n4,.int n5,.int n6,.int n7],o1,.froz [.list (a0i k.p0),.list (a0i k.p1)]]) Q:=by
 have hsh1:=K1.rep_shp hch msg [] rest msg.length;have hsh2:=K1.rep_shp hch msg2 [] ((n7%1024:Nat):Int) msg2.length;have heq1:=b1u hsh1;have heq2:=b1u hsh2;have hsp1:=a4t hsh1 (by decide)
 have hsp2:=a4t hsh2 (by decide)
 refine wq2 ?_;simp_all![];rw[if_neg (by rw[heq1]; decide)]
 refine⟨by decide,by omega,⟨hsp1,hsp1⟩,by decide,?_⟩
 (refine ifn (by exact Bool.false_ne_true) ?_; refine wq1 ?_; refine wq2 ?_)
 simp_all![];rw[K1.told_ents k msg2 []];refine⟨by decide,by decide,?_⟩
 refine a2m (g:=fun p:Nat×List Nat=>k.ent p.1 p.2) (fun p=>.int (p.1:Int)) (K1.ents [] msg2) (by rfl) (fun p hp acc K hacc hK=>?_) (by rw[K1.ents_len]; omega) fun st' g1 g2=>?_
 ·rw[K1.ent]at hK ⊢
  simp_all![];exact⟨by decide,hacc,hK⟩
 rw[show st'.own=_ from g1,show st'.hz=true from g2]
 have em:(K1.ents [] msg2).map (fun p=>PyData.int (p.1:Int))=a0c msg2:=by
  have:=congrArg a0c (K1.ents_fst msg2 [])
  rw[←this]; unfold a0c; rw[List.map_map]; rfl
 (rw[em,←K1.told_ents k msg2 []]; refine wq2 ?_)
 simp_all![];have hpD:k.pD=.list [.list (a0i k.p0),.list (a0i k.p1)]:=rfl;rw[←hpD];refine⟨by decide,by decide,?_⟩
 refine b7d ok (by omega) hm3 (by exact a0j (.l (.k 5) N0) (.l (.k 26) N0) hn) ⟨⟨_,rfl⟩,?_⟩
 rw[hnum];have m10:(n7:Int).fmod 1024=((n7%1024:Nat):Int):=a0t n7 1024;have hcut:∀a b c d:d8e,cut [a,b,c,d] none (some 2)=[a,b]:=fun _ _ _ _=>rfl;simp_all![m10,hcut];rw[if_neg (by rw[heq2]; decide)]
 refine⟨by decide,by omega,by decide,by decide,by decide,by decide,by decide,by decide,by decide,⟨hsp2,hsp2⟩,?_⟩
 refine wq1 ?_;exact h _
theorem d6b{n:Nat}{i:Int}{ow:List OV}{Q:V→List OV→Prop}(hn:2≤n)(h:Q (.dat (.str Str.empty)) ow):a1w n 13 true [] [.dat (.int i)] ow Q:=by
 obtain⟨l,rfl⟩:∃m,n=m+2:=⟨n-2,by omega⟩
 refine⟨Nat.succ_pos _,rfl,rfl,rfl,rfl,⟨i,rfl⟩,?_⟩;show Q _ (List.take ow.length ow);rw[List.take_length]; exact h
theorem d1q{n:Nat}(hn:26≤n){s1 v2 v3 v4 v6 v7 v8 v9 v11 v12 v13 v14 v16 v20 v21 v22 v23:V}{num rest:Int}{S H:Nat}{o0 o1 o2:OV}(hnum:num.natAbs<2^400)(hrest:rest.natAbs<2^400)(hS:0<S)(hH:0<H)(hS2:S<2^64)(hH2:H<2^64)(hq:num/(S:Int)=rest/(H:Int)){Q:V→Prop}(h:Q (.dat (.bool true))) :
  a1n (a1w n) a0o (Ss.tl (Ss.tl (Ss.tl (Ss.tl (Ss.tl (Ss.tl (Ss.tl (Ss.tl (Ss.tl (Ss.tl (Ss.tl (Ss.tl (Ss.tl (Ss.tl (Ss.tl (Ss.tl (Ss.tl (Ss.tl (Ss.tl (Ss.tl L1.law)))))))))))))))))))) (a7f [s1,.own 0,v2,v3,v4,.own 1,v6,v7,v8,v9,.own 2,v11,v12,v13,v14,.dat (.int rest),v16,.dat (.int num),.dat (.int (S:Int)),.dat (.int (H:Int)),v20,v21,v22,v23] 14 [o0,o1,o2]) fun fl st=>Q (.dat (match fl with|.ret d=>d|.next=>.none)):=by
 (refine wq2 ?_; refine wqf ?_)
 simp_all![];have hl:[PyData.int 0,.int 1,.int (-1),.int 255,.int 256,.int num,.int (-num)]=([0,1,-1,255,256,num,-num]:List Int).map .int:=rfl;rw[hl];refine a3u (g:=PyData.int) (fun rst st=>∃v24,st=a7f [s1,.own 0,v2,v3,v4,.own 1,v6,v7,v8,v9,.own 2,v11,v12,v13,v14,.dat (.int rest),v16,.dat (.int num),.dat (.int (S:Int)),.dat (.int (H:Int)),v20,v21,v22,v23,v24] 13 [o0,o1,o2]) ?_ _ _ ⟨.undef,rfl⟩ ?_
 ·rintro i rst st K' ⟨v24,rfl⟩ hK hRt
  refine lqS ?_;simp_all![];refine wq2 ?_;simp_all![];refine d7n (by exact a0j (.l (.k 2) N0) (.l (.k 26) N0) hn) ⟨⟨_,rfl⟩,?_⟩
  simp_all![];have e1:(!(decide (256≤i)==decide (255<i)))=false:=by
   by_cases hi:256≤i
   ·rw[decide_eq_true hi,decide_eq_true (by exact a2h (.t (.z 255) Z0) (.l (.z 256) Z0) hi)]; rfl
   ·rw[decide_eq_false hi,decide_eq_false (by exact a2h (.n (.t (.z 255) Z0)) (.n (.l (.z 256) Z0)) hi)]; rfl
  (rw[e1]; rw[if_neg (by decide)])
  refine d0t (by exact a0j (.l (.k 2) N0) (.l (.k 26) N0) hn) ⟨⟨_,rfl⟩,?_⟩
  simp_all![]
  (refine ifn (by simp) ?_; refine wq1 ?_; refine wq1 ?_)
  exact hK _ ⟨_,rfl⟩
 ·rintro st ⟨v24,rfl⟩
  show a1n _ _ _ _ _;refine wq2 ?_;simp_all![];have big:(2:Nat)^64≤2^400:=Nat.pow_le_pow_right (by decide) (by decide)
  refine b9m (by exact a0j (.l (.k 19) N0) (.l (.k 26) N0) hn) hnum (by rw[Int.natAbs_natCast]; omega) (by exact a0j (.n (.e (.c N0) (.z 0))) (.t (.k 0) N0) hS) ⟨⟨_,rfl⟩,?_⟩
  simp_all![];refine b9m (by exact a0j (.l (.k 19) N0) (.l (.k 26) N0) hn) (by rw[Int.natAbs_neg]; exact hrest) (by rw[Int.natAbs_neg,Int.natAbs_natCast]; omega) (by exact a0j (.n (.e (.N (.c N0)) (.z 0))) (.t (.k 0) N0) hH) ⟨⟨_,rfl⟩,?_⟩
  simp_all![];refine d6b (by exact a0j (.l (.k 2) N0) (.l (.k 26) N0) hn) ⟨⟨_,rfl⟩,?_⟩
  simp_all![];refine wq2 ?_;have f1:(-rest).fdiv (-(H:Int))=rest/(H:Int):=by rw[Int.neg_fdiv_neg,a1v]
  have f2:(-rest).fmod (-(H:Int))=-(rest%(H:Int)):=by
   have h1:=Int.fmod_def (-rest) (-(H:Int));have h2:=Int.fmod_def rest (H:Int);rw[a2s,a1v]at h2;rw[f1,Int.neg_mul]at h1;exact lc2 4 [] [_,_,_,_] (.e Z0 (.N Z1)) (.e Z0 (.S (.N Z2) (.N Z3))) (.e Z1 (.S Z2 Z3)) h1 h2
  have f3:num%(S:Int)=num-(S:Int)*(rest/(H:Int)):=by rw[←hq,Int.emod_def]
  simp_all![a1v,a2s,f1,f2,f3,hq];have he:(Str.ofString "")=Str.empty:=by decide +kernel
  rw[he];have hem:Str.empty=mk []:=rfl;have hsh:shp 2 (.list [.tuple [.int (rest/(H:Int)),.int (num-(S:Int)*(rest/(H:Int)))],.tuple [.int (rest/(H:Int)),.int (-(rest%(H:Int)))],.str Str.empty]):=by
   rw[hem];refine a7u fun d hd=>?_;simp only[List.mem_cons,List.not_mem_nil,or_false]at hd
   rcases hd with rfl|rfl|rfl
   ·exact b4t fun d hd=>by simp only[List.mem_cons,List.not_mem_nil,or_false]at hd; rcases hd with rfl|rfl <;> exact a6x 0 _
   ·exact b4t fun d hd=>by simp only[List.mem_cons,List.not_mem_nil,or_false]at hd; rcases hd with rfl|rfl <;> exact a6x 0 _
   ·exact b9w 1 (by simp)
  have hH4:((H:Int)).natAbs<2^4000:=by rw[Int.natAbs_natCast]; exact a1l hH2
  have hH0:(H:Int)≠0:=by exact a0j (.n (.e (.c N0) (.z 0))) (.t (.k 0) N0) hH
  rw[b1u hsh];exact⟨⟨hH0,hH4⟩,⟨hH0,hH4⟩,.inl (by rw[Int.natAbs_natCast]; exact hS2),⟨hH0,hH4⟩,hH0,⟨a4t hsh (by decide),a4t hsh (by decide)⟩,h⟩
theorem c9s:(List.range 48).all (fun i=>decide ((tx (i+7)).length≤3)&&(tx (i+7)).all (fun c=>decide (c<256))&&(i==16||i==45 ||!(tx (i+7)).contains 46))=true:=by decide +kernel
theorem a3m{c:Nat}(h1:7≤c)(h2:c≤54):(tx c).length≤3∧(∀y∈tx c,y<256)∧(c≠23→c≠52→46∉tx c):=by
 have:=List.all_eq_true.mp c9s (c-7) (List.mem_range.mpr (by exact a0j (.t (.s N0 (.k 7)) (.k 48)) (.l N0 (.k 54)) h2))
 rw[show c-7+7=c by omega]at this
 simp only[Bool.and_eq_true,decide_eq_true_eq,List.all_eq_true,Bool.or_eq_true,beq_iff_eq,Bool.not_eq_true']at this
 obtain⟨⟨a1,a2⟩,a3⟩:=this
 refine⟨a1,a2,fun g1 g2 hm=>?_⟩
 rcases a3 with(a3|a3)|a3
 ·exact lc2 1 [_] [] .f (.n (.e N0 (.k 23))) (.e (.s N0 (.k 7)) (.k 16)) g1 a3
 ·exact lc2 1 [_] [] .f (.n (.e N0 (.k 52))) (.e (.s N0 (.k 7)) (.k 45)) g2 a3
 ·rw[List.contains_eq_mem,decide_eq_false_iff_not]at a3; exact a3 hm
theorem d7t:tx 52=a6s:=by decide +kernel
section
variable {c0 c1 c2:Nat} (hc:∀c∈[c0,c1,c2],7≤c∧c≤54∧c≠23∧c≠52)
noncomputable def nmL(c0 c1 c2:Nat):List (List Nat):=[[],tx c0,tx c1,tx c2]
include hc in
theorem a7n:(∀s∈nmL c0 c1 c2,s.length≤3∧(∀y∈s,y<256)∧46∉s):=by
 intro s hs;simp only[nmL,List.mem_cons,List.not_mem_nil,or_false]at hs
 rcases hs with rfl|rfl|rfl|rfl
 ·simp
 ·obtain⟨a,b,d,e⟩:=hc c0 (by simp)
  exact⟨(a3m a b).1,(a3m a b).2.1,(a3m a b).2.2 d e⟩
 ·obtain⟨a,b,d,e⟩:=hc c1 (by simp)
  exact⟨(a3m a b).1,(a3m a b).2.1,(a3m a b).2.2 d e⟩
 ·obtain⟨a,b,d,e⟩:=hc c2 (by simp)
  exact⟨(a3m a b).1,(a3m a b).2.1,(a3m a b).2.2 d e⟩
include hc in
theorem b2r(p:Nat):((nmL c0 c1 c2).getD p []).length≤3∧46∉(nmL c0 c1 c2).getD p []:=by
 rw[List.getD_eq_getElem?_getD];cases e:(nmL c0 c1 c2)[p]? with
 |none=>simp
 |some s=>
  have:=a7n hc s (List.mem_of_getElem? e)
  exact⟨this.1,this.2.2⟩
end
noncomputable def kOf(c0 c1 c2 n1 n2 n3 n4:Nat):K1:=⟨nmL c0 c1 c2,[a5y n1,a5y n2,a5y n3],pcs ((nmL c0 c1 c2).getD · []) ((b9p n4).take 5),pcs ((nmL c0 c1 c2).getD · []) ((b9p n4).drop 5)⟩
theorem a3x(n:Nat):(a5y n).length=4∧∀x∈a5y n,16≤x∧x≤60:=by
 refine⟨by simp[a5y],fun x hx=>?_⟩
 obtain⟨j,_,rfl⟩:=List.mem_map.mp hx;exact a0j (.a (.l (.k 16) (.p (.k 16) N0)) (.l (.p (.k 16) N0) (.k 60))) (.t N0 (.k 45)) (ml rfl)
theorem a9q(n:Nat):(b9p n).length=10∧∀x∈b9p n,x<4:=by
 refine⟨by simp[b9p],fun x hx=>?_⟩
 obtain⟨j,_,rfl⟩:=List.mem_map.mp hx;omega
section
variable {c0 c1 c2 n1 n2 n3 n4:Nat} (hc:∀c∈[c0,c1,c2],7≤c∧c≤54∧c≠23∧c≠52)
include hc
theorem a4g(l:List Nat)(hl:l.length≤5):(∀p∈pcs ((nmL c0 c1 c2).getD · []) l,p.length≤20∧46∉p)∧(pcs ((nmL c0 c1 c2).getD · []) l).length≤10∧(jn a6s (pcs ((nmL c0 c1 c2).getD · []) l)).length≤1000:=by
 obtain⟨b1,b2⟩:=c0y ((nmL c0 c1 c2).getD · []) 3 (fun p=>(b2r hc p).1) l;refine⟨fun p hp=>⟨by have:=b2 p hp; exact a1s (.l N0 (.k 20)) (.l N1 (.k 5)) (.l N0 (.m 0 3 N1)) hl this,?_⟩,by exact a1s (.l N0 (.k 10)) (.l N1 (.k 5)) (.l N0 (.p N1 O1)) hl b1,?_⟩
 ·exact d0o (P:=fun p=>46∉p) (by simp) (fun b p hb _ hm=>(List.mem_append.mp hm).elim hb (b2r hc p).2) l p hp
 ·rw[c6n,List.length_flatten,List.map_map]
  have:(l.map (List.length ∘ fun p=>if p=0 then a6s else(nmL c0 c1 c2).getD p [])).sum≤3*(l.map (List.length ∘ fun p=>if p=0 then a6s else(nmL c0 c1 c2).getD p [])).length:=by
   refine c1a fun x hx=>?_;obtain⟨p,_,rfl⟩:=List.mem_map.mp hx;show(if p=0 then a6s else(nmL c0 c1 c2).getD p []).length≤3
   split
   ·decide
   ·exact(b2r hc p).1
  rw[List.length_map]at this
  exact a1s (.l N0 (.k 1000)) (.l N1 (.k 5)) (.l N0 (.m 0 3 N1)) hl this
theorem d4c:(kOf c0 c1 c2 n1 n2 n3 n4).Ok where
 n4:=rfl
 nl:=fun s hs=>(a7n hc s hs).1
 w3:=rfl
 w4:=fun r hr=>by
  simp only[kOf,List.mem_cons,List.not_mem_nil,or_false]at hr
  rcases hr with rfl|rfl|rfl
  ·exact a3x n1
  ·exact a3x n2
  ·exact a3x n3
 p0n:=a8d _ _
 p1n:=a8d _ _
 pl:=fun p hp=>by
  rcases List.mem_append.mp hp with hp|hp
  ·exact((a4g hc _ (by rw[List.length_take]; exact a1x (.l (.b 2 (.k 5) N0) (.k 5)))).1 p hp).1
  ·exact((a4g hc _ (by rw[List.length_drop,(a9q n4).1]; omega)).1 p hp).1
 pk:=⟨(a4g hc _ (by rw[List.length_take]; exact a1x (.l (.b 2 (.k 5) N0) (.k 5)))).2.1,(a4g hc _ (by rw[List.length_drop,(a9q n4).1]; omega)).2.1⟩
theorem c5y:(kOf c0 c1 c2 n1 n2 n3 n4).Told [0,c0,c1,c2] where
 c4:=rfl
 c0:=rfl
 cp:=fun j h1 h3=>by
  revert h1;refine le3 (fun h=>nomatch h) ?_ ?_ ?_ h3 <;> intro _ <;> refine Nat.ne_of_gt (Nat.lt_of_lt_of_le ?_ (hc _ ?_).1) <;> simp
 ct:=fun j h1 h3=>by
  revert h1;refine le3 (fun h=>nomatch h) ?_ ?_ ?_ h3 <;> intro _
  ·have:=hc c0 (by simp); exact c2n (c:=c0) (by omega) (by exact a0j (.l N0 (.k 54)) (.a (.l (.k 7) N0) (.a (.l N0 (.k 54)) (.a (.n (.e N0 (.k 23))) (.n (.e N0 (.k 52)))))) this)
  ·have:=hc c1 (by simp); exact c2n (c:=c1) (by omega) (by exact a0j (.l N0 (.k 54)) (.a (.l (.k 7) N0) (.a (.l N0 (.k 54)) (.a (.n (.e N0 (.k 23))) (.n (.e N0 (.k 52)))))) this)
  ·have:=hc c2 (by simp); exact c2n (c:=c2) (by omega) (by exact a0j (.l N0 (.k 54)) (.a (.l (.k 7) N0) (.a (.l N0 (.k 54)) (.a (.n (.e N0 (.k 23))) (.n (.e N0 (.k 52)))))) this)
 d0:=fun p hp=>((a4g hc _ (by rw[List.length_take]; exact a1x (.l (.b 2 (.k 5) N0) (.k 5)))).1 p hp).2
 d1:=fun p hp=>((a4g hc _ (by rw[List.length_drop,(a9q n4).1]; omega)).1 p hp).2
theorem c8v:(kOf c0 c1 c2 n1 n2 n3 n4).Pat:=⟨(a4g hc _ (by rw[List.length_take]; exact a1x (.l (.b 2 (.k 5) N0) (.k 5)))).2.2,(a4g hc _ (by rw[List.length_drop,(a9q n4).1]; omega)).2.2⟩
theorem b3p{p:Nat}(hp:p<4):7≤[52,c0,c1,c2].getD p 0∧[52,c0,c1,c2].getD p 0≤54∧tx ([52,c0,c1,c2].getD p 0)=(if p=0 then a6s else(nmL c0 c1 c2).getD p []):=by
 refine le3 ?_ ?_ ?_ ?_ (Nat.le_of_lt_succ hp)
 ·exact⟨(by decide:7≤52),(by decide:52≤54),d7t⟩
 ·have:=hc c0 (by simp); exact⟨this.1,this.2.1,rfl⟩
 ·have:=hc c1 (by simp); exact⟨this.1,this.2.1,rfl⟩
 ·have:=hc c2 (by simp); exact⟨this.1,this.2.1,rfl⟩
theorem b4u{l:List Nat}(hl:∀p∈l,p<4):((l.map fun p=>[52,c0,c1,c2].getD p 0).map tx).flatten=jn a6s (pcs ((nmL c0 c1 c2).getD · []) l):=by
 rw[c6n,List.map_map]
 congr 1
 exact List.map_congr_left fun p hp=>(b3p hc (hl p hp)).2.2
end
theorem plain1:c7n:=by
 intro is hl;refine⟨by decide,fun _=>rfl,rfl,rfl,?_⟩
 refine d5k hl fun n0 n1 n2 n3 n4 n5 n6 n7 v2 v3 h6=>?_;refine d6d fun c0 c1 c2 ps hc=>?_;refine d5a hc ?_;have hNL:a0i [[],tx c0,tx c1,tx c2]=a0i (nmL c0 c1 c2):=rfl;rw[hNL];obtain⟨hp10,hp4⟩:=a9q n4;refine d6c (NL:=nmL c0 c1 c2) (parts:=b9p n4) rfl (fun s hs=>(a7n hc s hs).1) hp10 hp4 fun v11 v12 v13=>?_;have ok:(kOf c0 c1 c2 n1 n2 n3 n4).Ok:=d4c hc;have tl:(kOf c0 c1 c2 n1 n2 n3 n4).Told [0,c0,c1,c2]:=c5y hc;have pt:(kOf c0 c1 c2 n1 n2 n3 n4).Pat:=c8v hc;have hch:∀s∈(kOf c0 c1 c2 n1 n2 n3 n4).names,∀c∈s,c<256:=fun s hs=>(a7n hc s hs).2.1;have hw:(kOf c0 c1 c2 n1 n2 n3 n4).wts=[a5y n1,a5y n2,a5y n3]:=rfl;have ep0:(kOf c0 c1 c2 n1 n2 n3 n4).p0=pcs ((nmL c0 c1 c2).getD · []) ((b9p n4).take 5):=rfl;have ep1:(kOf c0 c1 c2 n1 n2 n3 n4).p1=pcs ((nmL c0 c1 c2).getD · []) ((b9p n4).drop 5):=rfl;have enm:nmL c0 c1 c2=(kOf c0 c1 c2 n1 n2 n3 n4).names:=rfl;have ewD:PyData.list (sD [a5y n1,a5y n2,a5y n3])=(kOf c0 c1 c2 n1 n2 n3 n4).wD:=rfl;rw[←ep0,←ep1,ewD,enm];generalize kOf c0 c1 c2 n1 n2 n3 n4=k at ok tl pt hch hw ep0 ep1;refine d6e ok (by decide) h6 ?_
 obtain⟨mb1,mb2⟩:=c2t n5;have hm03:∀x∈b4x n5++[0],x≤3:=fun x hx=>by
  rcases List.mem_append.mp hx with hx|hx
  ·exact(mb2 x hx).2
  ·rw[List.mem_singleton.mp hx]; exact a5f (.l (.k 0) (.k 3))
 have hdec:=K1.dec_num ok (b4x n5) [] (b2e n6) 30 mb2 (by omega)
 have hsz:=K1.num_size ok (b4x n5++[0]) [] (b2e n6) hm03;obtain⟨q1,q2,q3,q4⟩:=K1.sums_pos ok (b4x n5++[0]) [] hm03;have hquot:=K1.quot ok (b4x n5++[0]) [] (b2e n6) 1 (by decide) hm03
 have hlen6:(b4x n5++[0]).length≤6:=by simp; omega
 have hrs:=b8o h6;generalize hM:b4x n5++[0]=M at *;generalize hrest:b2e n6=rest at *;generalize hnum:k.num [] M rest=num at *;generalize k.sums [] M=SS at *;generalize k.shares [] M=HH at *;have p1000:1000^M.length≤1000^6:=Nat.pow_le_pow_right (by decide) hlen6
 have hnum2:num.natAbs<2^200:=by
  have h1:1000^M.length*(rest.natAbs+3)≤1000^6*(2^60+3):=Nat.mul_le_mul p1000 (by exact a2h (.l (.p (.u 1 Z0) (.k 3)) (.p (.k (Nat.pow 2 60)) (.k 3))) (.t (.u 1 Z0) (.k (Nat.pow 2 60))) hrs)
  have h2:1000^6*(2^60+3)<2^200:=by decide
  omega
 have hS64:SS<2^64:=Nat.lt_of_le_of_lt (Nat.le_trans q3 p1000) (by decide)
 have hH64:HH<2^64:=Nat.lt_of_le_of_lt (Nat.le_trans q4 p1000) (by decide)
 obtain⟨⟨msg2,r2⟩,hd2⟩:=K1.dec_small ok (x:=((n7%1024:Nat):Int)) (by exact a1x (.l (.z 0) (.c N0))) (by exact a0j (.t (.c N0) (.z 1024)) (.t N0 (.k 1024)) (ml rfl))
 obtain⟨e2,⟨m2,hm2,hm23⟩,hl2⟩:=K1.num_dec ok _ _ _ _ _ hd2;refine d3c (k:=k) (by decide) hw (a3x n1).1 (a3x n2).1 (a3x n3).1 hp10 hp4 fun ptc hpt=>?_
 have hptl:ptc.length=10:=by rw[hpt]; simpa using hp10
 have hptm:∀y∈ptc,7≤y∧y≤54:=fun y hy=>by
  rw[hpt]at hy;obtain⟨p,hp,rfl⟩:=List.mem_map.mp hy
  have:=b3p hc (hp4 p hp)
  exact⟨this.1,this.2.1⟩
 have small:∀{v:Nat},v<2^200→v<2^400:=fun h=>Nat.lt_of_lt_of_le h (Nat.pow_le_pow_right (by decide) (by decide))
 have small2:∀{v:Nat},v<1024→v<2^400:=fun h=>Nat.lt_of_lt_of_le (show _<2^10 from h) (Nat.pow_le_pow_right (by decide) (by decide))
 obtain⟨sg,hsg⟩:∃sg,sg=(if num<0 then 15 else 14):=⟨_,rfl⟩
 have hsg2:sg=14∨sg=15:=by rw[hsg]; split <;> (first|exact a5f (.b 1 (.e (.k 15) (.k 14)) (.e (.k 15) (.k 15)))|exact a5f (.b 1 (.e (.k 14) (.k 14)) (.e (.k 14) (.k 15)))|omega)
 have hw1:=a3x n1;have hw2:=a3x n2;have hw3:=a3x n3;rw[←hsg];obtain⟨tape,htape⟩:∃tape,tape=([c0,c1,c2]++256::(a5y n1++ptc.take 5++257::(a5y n2++ptc.drop 5++258::(a5y n3++[sg]))))++0::[num.natAbs,n7%1024]:=⟨_,rfl⟩;rw[←htape];have htl:tape.length≤100:=by rw[htape]; simp; exact lc4 4 [_,_,_,_] [] (.l (.p N0 (.p (.b 2 (.k 5) N1) (.p (.p N2 (.p (.s N1 (.k 5)) (.p (.p N3 (.k 4)) O1))) O1))) (.k 96)) (.e N1 (.k 10)) (.e N0 (.k 4)) (.e N2 (.k 4)) (.e N3 (.k 4)) hptl hw1.1 hw2.1 hw3.1
 have htv:∀v∈tape,v<2^400:=by
  intro v hv;rw[htape]at hv;simp only[List.mem_append,List.mem_cons,List.not_mem_nil,or_false]at hv
  rcases hv with((hv|rfl|(hv|hv)|rfl|(hv|hv)|rfl|hv|rfl)|rfl|rfl|rfl)
  ·refine small2 ?_
   rcases hv with rfl|rfl|rfl
   ·have:=hc v (by simp); exact a0j (.t N0 (.k 1024)) (.a (.l (.k 7) N0) (.a (.l N0 (.k 54)) (.a (.n (.e N0 (.k 23))) (.n (.e N0 (.k 52)))))) this
   ·have:=hc v (by simp); exact a0j (.t N0 (.k 1024)) (.a (.l (.k 7) N0) (.a (.l N0 (.k 54)) (.a (.n (.e N0 (.k 23))) (.n (.e N0 (.k 52)))))) this
   ·have:=hc v (by simp); exact a0j (.t N0 (.k 1024)) (.a (.l (.k 7) N0) (.a (.l N0 (.k 54)) (.a (.n (.e N0 (.k 23))) (.n (.e N0 (.k 52)))))) this
  ·exact small2 (by exact a5f (.t (.k 256) (.k 1024)))
  ·exact small2 (by have:=hw1.2 v hv; exact a0j (.t N0 (.k 1024)) (.a (.l (.k 16) N0) (.l N0 (.k 60))) this)
  ·exact small2 (by have:=hptm v (List.mem_of_mem_take hv); exact a0j (.t N0 (.k 1024)) (.a (.l (.k 7) N0) (.l N0 (.k 54))) this)
  ·exact small2 (by exact a5f (.t (.k 257) (.k 1024)))
  ·exact small2 (by have:=hw2.2 v hv; exact a0j (.t N0 (.k 1024)) (.a (.l (.k 16) N0) (.l N0 (.k 60))) this)
  ·exact small2 (by have:=hptm v (List.mem_of_mem_drop hv); exact a0j (.t N0 (.k 1024)) (.a (.l (.k 7) N0) (.l N0 (.k 54))) this)
  ·exact small2 (by exact a5f (.t (.k 258) (.k 1024)))
  ·exact small2 (by have:=hw3.2 v hv; exact a0j (.t N0 (.k 1024)) (.a (.l (.k 16) N0) (.l N0 (.k 60))) this)
  ·exact small2 (by exact a0j (.t N0 (.k 1024)) (.b 1 (.e N0 (.k 14)) (.e N0 (.k 15))) hsg2)
  ·exact small2 (by exact a5f (.t (.k 0) (.k 1024)))
  ·exact small hnum2
  ·exact small2 (by omega)
 refine d1m (by decide) htl htv ?_
 have henc:=c2u (n7:=n7) htv;have hs34:(a5y n3++[sg]).getD 4 0=sg:=by rw[List.getD_eq_getElem?_getD,List.getElem?_append_right (by rw[hw3.1]; decide),hw3.1]; rfl
 have hd1:k.dec 30 [] (if (a5y n3++[sg]).getD 4 0=15 then -((num.natAbs:Nat):Int)else((num.natAbs:Nat):Int))=some (M,rest):=by
  have e:(if (a5y n3++[sg]).getD 4 0=15 then -((num.natAbs:Nat):Int)else((num.natAbs:Nat):Int))=num:=by
   rw[hs34,hsg]
   by_cases hneg:num<0
   ·(rw[if_pos hneg]; rw[if_pos rfl]); exact a2h (.e (.N (.c (.u 1 Z0))) Z0) (.t Z0 (.z 0)) hneg
   ·(rw[if_neg hneg]; rw[if_neg (by decide)]); exact a2h (.e (.c (.u 1 Z0)) Z0) (.n (.t Z0 (.z 0))) hneg
  rw[e]; exact hdec
 have t4:∀(w l:List Nat),w.length=4→(w++l).take 4=w∧(w++l).drop 4=l:=fun w l h=>by
  constructor
  ·rw[←h,List.take_append_of_le_length (Nat.le_refl _),List.take_length]
  ·rw[←h,List.drop_append_of_le_length (Nat.le_refl _),List.drop_length,List.nil_append]
 obtain⟨a1,b1⟩:=t4 (a5y n1) (ptc.take 5) hw1.1;obtain⟨a2,b2⟩:=t4 (a5y n2) (ptc.drop 5) hw2.1;obtain⟨a3,b3⟩:=t4 (a5y n3) [sg] hw3.1;have hj0:((ptc.take 5).map tx).flatten=jn a6s k.p0:=by rw[hpt,←List.map_take,ep0]; exact b4u hc fun p hp=>hp4 p (List.mem_of_mem_take hp)
 have hj1:((ptc.drop 5).map tx).flatten=jn a6s k.p1:=by rw[hpt,←List.map_drop,ep1]; exact b4u hc fun p hp=>hp4 p (List.mem_of_mem_drop hp)
 rw[htape]at henc;refine d4j (tape:=tape) (Nat.le_trans (b3l htl htv) (by decide)) (R:=.list [.list [.list (k.told [] M),.int rest,.int (M.length:Int)],.list [.list (k.told [] msg2),.int r2,.int (msg2.length:Int)]]) (fun ow Q' hQ'=>?_) ?_
 ·rw[htape]
  refine d2d ok (c3:=[c0,c1,c2]) tl pt (s1:=a5y n1++ptc.take 5) (s2:=a5y n2++ptc.drop 5) (s3:=a5y n3++[sg]) (a:=num.natAbs) (x:=n7%1024) (by decide) (fun y hy=>⟨(hc y hy).1,(hc y hy).2.1⟩) ?_ ?_ ?_ (by simp; exact a1s (.e (.p N0 (.b 2 (.k 5) N1)) (.k 9)) (.e N1 (.k 10)) (.e N0 (.k 4)) hptl hw1.1) (by simp; exact a1s (.e (.p N0 (.s N1 (.k 5))) (.k 9)) (.e N1 (.k 10)) (.e N0 (.k 4)) hptl hw2.1) (by simp; omega) (by rw[a1,a2,a3]; exact hw) (by rw[b1]; exact fun y hy=>hptm y (List.mem_of_mem_take hy)) (by rw[b2]; exact fun y hy=>hptm y (List.mem_of_mem_drop hy)) (by rw[b1]; exact hj0) (by rw[b2]; exact hj1) (by rw[hs34]; exact hsg2) (Nat.lt_of_lt_of_le hnum2 (Nat.pow_le_pow_right (by decide) (by decide))) (Nat.lt_of_lt_of_le (show n7%1024<2^10 by omega) (Nat.pow_le_pow_right (by decide) (by decide))) henc hd1 hd2 hQ'
  ·intro y hy
   rcases List.mem_append.mp hy with hy|hy
   ·have:=hw1.2 y hy; exact a0j (.a (.l O1 N0) (.t N0 (.k 256))) (.a (.l (.k 16) N0) (.l N0 (.k 60))) this
   ·have:=hptm y (List.mem_of_mem_take hy); exact a0j (.a (.l O1 N0) (.t N0 (.k 256))) (.a (.l (.k 7) N0) (.l N0 (.k 54))) this
  ·intro y hy
   rcases List.mem_append.mp hy with hy|hy
   ·have:=hw2.2 y hy; exact a0j (.a (.l O1 N0) (.t N0 (.k 256))) (.a (.l (.k 16) N0) (.l N0 (.k 60))) this
   ·have:=hptm y (List.mem_of_mem_drop hy); exact a0j (.a (.l O1 N0) (.t N0 (.k 256))) (.a (.l (.k 7) N0) (.l N0 (.k 54))) this
  ·intro y hy
   rcases List.mem_append.mp hy with hy|hy
   ·have:=hw3.2 y hy; exact a0j (.a (.l O1 N0) (.t N0 (.k 256))) (.a (.l (.k 16) N0) (.l N0 (.k 60))) this
   ·rw[List.mem_singleton.mp hy]; exact a0j (.a (.l O1 N0) (.t N0 (.k 256))) (.b 1 (.e N0 (.k 14)) (.e N0 (.k 15))) hsg2
 ·refine d3w ok (by decide) hch (by omega) hl2 (fun y hy=>?_) e2 fun v23=>?_
  ·rw[hm2]at hy
   rcases List.mem_append.mp hy with hy|hy
   ·exact(hm23 y hy).2
   ·rw[List.mem_singleton.mp hy]; exact a5f (.l (.k 0) (.k 3))
  ·rw[Nat.mul_one,Nat.mul_one]at hquot
   exact d1q (Q:=fun v=>v=.dat (.bool true)) (by decide) (small hnum2) (Nat.lt_of_lt_of_le hrs (Nat.pow_le_pow_right (by decide) (by decide))) q1 q2 hS64 hH64 hquot rfl
end Mw.Internal
set_option maxRecDepth 100000 in
theorem PySem.Challenge.cw_kl0251_01_holds : PySem.Challenge.rw_kl0251_01.Holds :=
  Mw.Internal.law1_of Mw.Internal.plain1
