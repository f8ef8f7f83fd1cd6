import PyProof.Rows.All
import Wide.All
import OpenK.AllK
import Wide.FinOn
import KE.BitLaws
import KE.KRevIter
import PySem.Challenge.RW_kl0251_02
set_option Elab.async false
set_option autoImplicit false
set_option linter.all false
set_option maxHeartbeats 8000000
namespace Mw.Internal
section
open PySem PySem.W PySem.Spec PySem.Calls PyProof.Rows PySem.Challenge
set_option maxRecDepth 100000
theorem c3e{α β γ : Type}{x : Option α}{f : α → β}{g : α → γ}{a : β}{b : γ}(h : x.map f = some a)(k : x.map g = some b) : x.map (fun s => (f s, g s)) = some (a, b) := by
  cases x with
  |none => cases h
  |some s => cases h; cases k; rfl
noncomputable def d9n: List Nat := (List.range 78).filter fun i => !([0, 3, 11, 16, 70].contains i)
noncomputable def a3v: Program := view pw_kl0251_02 d9n
noncomputable def a4g : List Str := ["UNKNOWN", "EXACT_TOKEN_TYPES"]
noncomputable def b1z (w : World) (b : Bool) : Option Shared := openEnds treeTable pw_kl0251_02 (w.withFollow "special-get-raises" b) 4770
noncomputable def hXt(s : Shared) : Bool := xlAt a3v [] s && recOk (RowW.records rw_kl0251_02.row.toRowW) s
theorem d3u(w : World) : (b1z w false).map (openSeen a3v a4g (importedModules pw_kl0251_02.main.body) hXt true) = some (openGood a3v a4g) := by
  unfold b1z openEnds fencedOpening topFrom
  rw[Fast.te14364793385576792824, Fast.te14082659384304107361, Fast.te10274390034422433532, Fast.te14289696077712309145, Fast.te1435165496053646825, Fast.te5923862056798008813, Fast.te4187177175401517315]
  kernel_rfl
theorem d6n(w : World) : (b1z w true).map (openSeen a3v a4g (importedModules pw_kl0251_02.main.body) hXt true) = some (openGood a3v a4g) := by
  unfold b1z openEnds fencedOpening topFrom
  rw[Fast.te14364793385576792824, Fast.te14082659384304107361, Fast.te10274390034422433532, Fast.te14289696077712309145, Fast.te1435165496053646825, Fast.te5923862056798008813, Fast.te4187177175401517315]
  kernel_rfl
theorem d9r {α : Type} {Yf : Shared → α} {Ya : World → α} (h : ∀w b, (b1z w b).map Yf = some (Ya (w.withFollow "special-get-raises" b))) : LeftO pw_kl0251_02 a3v a4g hXt Yf Ya 4770 := fun w =>
  byRow2 "special-get-raises" (P := fun w => (openEnds treeTable pw_kl0251_02 w 4770).map (fun s => (openSeen a3v a4g (importedModules pw_kl0251_02.main.body) hXt true s, Yf s)) = some (openGood a3v a4g, Ya w)) (fun w => c3e (d3u w) (h w false)) (fun w => c3e (d6n w) (h w true)) w
theorem c2q : (defOf a3v (Str.ofString "law")).isSome = true := by kernel_rfl
noncomputable def e0e : DefRec × List (Str × Expr) := (defOf a3v (Str.ofString "law")).get c2q
section
local macro_rules |`(tactic|o_head $_) => `(tactic|assumption)
theorem hk(h : OpenRow.Holds rw_kl0251_02.row) : OpenRow.Holds rw_kl0251_02.row := by k_head
end
noncomputable def e0t: List Addr := [2, 3, 15, 17, 18, 20, 21, 22, 24, 25, 27, 28, 29, 31, 32, 34, 35, 36, 38, 39, 41, 42, 43, 45, 46, 48, 49, 50, 52, 53, 55, 56, 57, 59, 60, 62, 63, 71, 73, 74, 76, 77, 78, 79, 80, 81, 82, 85, 86, 87, 89, 90, 92, 93, 94, 96, 97, 99, 100, 101, 104, 106, 107, 109, 110, 111, 113, 114, 116, 117, 118, 121, 122, 123, 125, 126, 128, 129, 130, 133, 134, 135, 138, 139, 140, 142, 143, 145, 146, 147, 150, 151, 152, 155, 156]
theorem d2d(P : Params) : e0t = (hk.heap_1 P).map (·.1) := by kernel_rfl
noncomputable def b5g: Hook := kmHook hk.heap_1 e0t d2d [37, 44]
theorem d8n (w : World) : (b1z w false).map (Hook.obs b5g) = some (Hook.val b5g (w.withFollow "special-get-raises" false)) := by
  unfold b1z openEnds fencedOpening topFrom
  rw[Fast.te14364793385576792824, Fast.te14082659384304107361, Fast.te10274390034422433532, Fast.te14289696077712309145, Fast.te1435165496053646825, Fast.te5923862056798008813]
  kernel_rfl
theorem d8k (w : World) : (b1z w true).map (Hook.obs b5g) = some (Hook.val b5g (w.withFollow "special-get-raises" true)) := by
  unfold b1z openEnds fencedOpening topFrom
  rw[Fast.te14364793385576792824, Fast.te14082659384304107361, Fast.te10274390034422433532, Fast.te14289696077712309145, Fast.te1435165496053646825, Fast.te5923862056798008813]
  kernel_rfl
theorem d9s: rw_kl0251_02.wellSaid = true := by kernel_rfl
theorem hd(walk : WalkO a3v a4g (XL a3v []) (Hook.says b5g) rw_kl0251_02.row.toRowW e0e.1 e0e.2 fun f vs => PySem.call f vs) : rw_kl0251_02.Holds :=
  holds_law d9s fun said => holds_open (d9r fun w b => by cases b; exact d8n w; exact d8k w) (Hook.of b5g) (Hook.keeps b5g) (fun s e => xl_of s (Bool.and_eq_true_iff.mp e).1) XL.keeps (Option.some_get c2q).symm (by kernel_rfl) (by kernel_rfl) (fun s e => recFacts_of (Bool.and_eq_true_iff.mp e).2) (by kernel_rfl) said (by kernel_rfl) ⟨rfl, rfl, rfl, rfl, rfl, by kernel_rfl⟩ (by w_witness2) walk
end
open PySem PySem.W PySem.Spec PySem.Calls PyProof.Rows
open PySem renaming wpAny_bind→e1k,PyData→e1l,Shared→e1m,Value→e1n,wpAny_pure→e1o,wpAny→e1p,callEnvC→e1q,mem_of_lookup→e1r,wpAny_holding→e1s,wpAny_execs_cons→e1t,Comprehension→e1u,mainGlobals→e1v,wpAny_mono→e1w,Around→e1x,wpAny_standAt→e1y,starEach→e1z,strKind→e2a,wpAny_Call_NameR→e2b,wpAny_of_eq→e2c,wpAny_field→e2d,backTo→e2e,sizeLine→e2f,wpAny_loadName_local→e2g
set_option backward.defeqAttrib.useBackward true
set_option compiler.extract_closed false
set_option genSizeOf false
set_option genInjectivity false
theorem gd0{α : Type}{x : α}{xs : List α}{d : α} : List.getD (x :: xs) 0 d = x := rfl
theorem gdS{α : Type}{x : α}{xs : List α}{n : Nat}{d : α} : List.getD (x :: xs) (n + 1) d = List.getD xs n d := rfl
theorem lv{a b l : Nat}(h : Nat.ble a b = true) : a ≤ l + b := Nat.le_trans (Nat.le_of_ble_eq_true h) (Nat.le_add_left b l)
theorem lw{a b l : Nat}(h : Nat.ble (a + 1) b = true) : a<l + b := lv h
theorem lx{a b : Nat}(h : Nat.ble (a + 1) b = true) : a<b := Nat.le_of_ble_eq_true h
theorem ly{a b : Nat}(h : a + 1 ≤ b) : a<b := h
theorem sa{n k : Nat}(h : k ≤ n) : n = n - k + k := (Nat.sub_add_cancel h).symm
theorem tn{i : Int}(h : ¬i<0) : i = (i.toNat : Int) := (Int.toNat_of_nonneg (Int.not_lt.mp h)).symm
theorem ml{a b : Nat}(h : Nat.ble 1 b = true) : a%b<b := Nat.mod_lt _ (Nat.le_of_ble_eq_true h)
section
open Lean
def qxa(s : List Syntax)(c : Array Syntax) : List Syntax := match s with
  |n :: r => n.setArgs (n.getArgs ++ c) :: r
  |[] => c.toList
def qx (a : Array Syntax) (t : String) : Syntax := (((((t.replace "{" "%TtacticSeq %TtacticSeq1Indented %null").replace "}" "/ / /").replace "%T" "%Lean.Parser.Tactic.").replace "%R" "%Lean.Parser.Term.").splitOn " ").foldl (fun s w => match w.toList with
  |'%' :: r => .node .none (String.ofList r).toName #[] :: s
  |['/'] => match s with|n :: r => qxa r #[n]|[] => []
  |'$' :: c :: _ => qxa s #[a[c.toNat - 48]!]
  |'@' :: c :: _ => qxa s a[c.toNat - 48]!.getArgs
  |'\'' :: r => qxa s #[mkIdent (String.ofList r).toName]
  |_ => qxa s #[.atom .none w]) [] |>.headD .missing
def qxl(l : List Syntax)(a : String) : Syntax := mkNullNode (l.intersperse (.atom .none a)).toArray
def qxf (l : List Syntax) : Syntax := qx #[mkNullNode (l.map fun t => qx #[t] "%group | { $0 } /").toArray] "%Tfirst first $0 /"
def qxs (l : List Syntax) : Syntax := qx #[qxl l ";"] "%Tparen ( %TtacticSeq %TtacticSeq1Indented $0 / / ) /"
def qxw (t : Syntax) : Syntax := qx #[t] "%TwithReducible with_reducible { $0 } /"
def qxm (t : String) : String := "%TsimpLemma %null / %null / '" ++ t.replace " " " / , %TsimpLemma %null / %null / '" ++ " /"
def qxo (x : String) : Syntax := qx #[qxw (qxf [qx #[] "%Texact exact %Rapp 'Nat.le_of_ble_eq_true %null 'rfl / / /", qx #[] "%Texact exact %Rapp 'lx %null 'rfl / / /"])] ((((("%T«tactic_<;>_» %TwithReducible with_reducible { %Trefine refine %Rapp '" ++ x ++ " / / / } / <;> $0 /").replace " H" " %RsyntheticHole ? _ /").replace " L" " %Rapp 'And.left %null A / /").replace " Q" " %Rapp 'And.right %null A / /").replace " A" " %RbyTactic by { %Tassumption assumption / } /")
def qxb(f : Nat → Syntax)(l : List Syntax)(i : Nat) : List Syntax × List Syntax := match l with
  |[] => ([], [])
  |e :: r =>
    let q := e[0][0][0]
    let o := fun(y p : Syntax) => qx #[y, p] "%Tobtain obtain %null $1 / %null / %null := %null $0 / / /"
    let tu := fun l => qx #[qxl l ","] "%TrcasesPatMed %null %TrcasesPat.tuple ⟨ $0 ⟩ / / /"
    let(n, p) := qxb f r (i + 1)
    if i == 5 && r.length>0 then([f i], [o (f i) (tu l)])
    else if e[0][0].getNumArgs == 1 && q[0].isIdent && q[0].getId != `rfl then(q[0] :: n, p)
    else if q[0].isToken "_" then(f i :: n, p)
    else if q[0].getId == `rfl && r.length>1 then([f i, f 9], [o (f i) e[0], o (f 9) (tu r)])
    else(f i :: n, o (f i) e[0] :: p)
def qxr: MacroM (Nat → Syntax) := do
  let c ←read
  return fun i => mkIdent (addMacroScope c.quotContext (.mkSimple (toString i)) c.currMacroScope)
def qxn(s : Syntax) : MacroM Syntax := do
  let t := s[1]
  let n := t[1].getSepArgs.size
  unless t.isOfKind `Lean.Parser.Term.anonymousCtor && n>1 && n<9 do Macro.throwUnsupported
  return qxf [qxs [qx #[] "%Trefine refine %RtypeAscription %RhygienicLParen ( %hygieneInfo '[anonymous] / / %RsyntheticHole ? _ / : %null %Rapp 'Exists %null %Rhole _ / / / / ) / /",
    qxf ((List.range (n - 1)).map fun k => s.setArg 1 (qx #[mkIdent (.mkSimple s!"j{n-1-k}{k+1}"), mkNullNode t[1].getSepArgs] "%Rapp $0 $1 /"))],
    s.setArg 1 (qx #[t] "%Rparen %RhygienicLParen ( %hygieneInfo '[anonymous] / / $0 ) /")]
def qxO(s : Syntax) : MacroM Syntax := do
  let h := s[3][1][0]
  let m := s[1][0]
  let es := m[0][0][1].getSepArgs
  if !s[2].isNone ||m[0].getNumArgs != 1 ||es.size<2 ||((mkNullNode es.pop).find? (·.isToken "|")).isSome then Macro.throwUnsupported
  let f ←qxr
  let rc := qx #[h, m] "%Trcases rcases %null %TelimTarget %null / $0 / / %null with %TrcasesPatLo $1 %null / / / /"
  if h.isIdent && (m.find? fun x => x.isIdent && x.getId == h.getId).isSome then
    return qxf [qx #[h, m, f 0] "%Tparen ( { %Trevert revert %null $0 / / ; %Tintro intro %null $2 / / ; %Tobtain obtain %null $1 / %null / %null := %null $2 / / / } ) /", rc]
  let(ns, ps) := qxb f es.toList 0
  let n := ns.length
  return qxf [qxs (qxf ((List.range n).map fun k => qx #[mkIdent (.mkSimple s!"o{n-1-k}{k+1}"), h, mkNullNode ns.toArray] "%Trefine refine %Rapp $0 %null $1 %Rfun fun %RbasicFun $2 %null / => %RsyntheticHole ? _ / / / / / /") :: ((if h.isIdent then[qx #[h] "%TtacticTry_ try { %Tclear clear %null $0 / / } /"]else[]) ++ ps)), rc]
def qxC(s : Syntax) : MacroM Syntax := do
  let h := s[1][0][1]
  unless h.isIdent && s[1].getNumArgs == 1 && s[1][0][0].isNone && s[2].isNone && s[3].isNone do Macro.throwUnsupported
  return qxf (["%Trcases rcases %null %TelimTarget %null / $0 / / %null with %TrcasesPatLo %TrcasesPatMed %null %TrcasesPat.one 'rfl / / / %null / / / /",
    "%Tparen ( { %TtacticExfalso exfalso / ; %Tinjection injection $0 %null / / ; %Tdone done / } ) /",
    "%Trcases rcases %null %TelimTarget %null / %Rapp 'Option.some.inj %null $0 / / / / %null with %TrcasesPatLo %TrcasesPatMed %null %TrcasesPat.one 'rfl / / / %null / / / /",
    "%Tcases cases %null %TelimTarget %null / %Rparen %RhygienicLParen ( %hygieneInfo '[anonymous] / / $0 ) / / / %null / %null / /"].map (qx #[h]))
def qxI(s : Syntax) : MacroM Syntax := do
  if (s.find? (·.isToken "|")).isSome ||!s[2].isNone then Macro.throwUnsupported
  let f ←qxr
  let l := s[1].getArgs.toList.zipIdx.map fun(p, i) =>
    let q := p[0]
    if q[0].isIdent && q[0].getId != `rfl then(q[0], none)else(f i, some (qx #[q, f i] "%Tobtain obtain %null %TrcasesPatMed %null $0 / / / %null / %null := %null $1 / / /"))
  return qxs (l.map (fun x => qx #[x.1] "%Tintro intro %null $0 / /") ++ l.filterMap (·.2))
def qxW(s : Syntax) : MacroM Syntax := do
  unless s[3].isNone do Macro.throwUnsupported
  return qxs (s[2][1].getSepArgs.toList.map (fun r =>
    let w := qx #[r] "%TrewriteSeq rewrite %ToptConfig %null / / %TrwRuleSeq [ %null $0 / ] / %null / /"
    let g := qx #[mkIdent (if r[0].isNone then `rwm else `rwl), r[1]] "%Trefine refine %Rapp $0 %null %Rapp $1 %null %Rellipsis .. / / / %RsyntheticHole ? _ / / / /"
    if (r[1].find? (·.isOfKind `Lean.Parser.Term.syntheticHole)).isSome then w
    else qxf [if (r[1].find? (·.isOfKind `Lean.Parser.Term.byTactic)).isSome then g else qxw g, w]) ++ [qx #[qxw (qx #[] "%TtacticRfl rfl /")] "%TtacticTry_ try { $0 } /"])
def qxS (s : Syntax) : MacroM Syntax := return qx #[s[1]] "%Trefine refine %RtypeAscription %RhygienicLParen ( %hygieneInfo '[anonymous] / / %RsyntheticHole ? _ / : %null $0 / ) / /"
def qxG (s : Syntax) : Syntax := qxf ([qxw (qx #[] "%Texact exact %Rapp 'lv %null 'rfl / / /"), qxw (qx #[] "%Texact exact %Rapp 'lw %null 'rfl / / /"), qxw (qx #[] "%Tassumption assumption /")] ++ ("sa %null A;Nat.le_trans %null A H;Nat.lt_of_le_of_lt %null A H;And.left %null A;And.right %null A;Nat.sub_add_cancel %null A;Nat.add_sub_of_le %null A;ml %null 'rfl;tn %null A;ly %null A;Nat.le_of_lt %null A;Nat.le_of_succ_le %null A;Nat.le_of_not_lt %null A;Nat.le_trans %null A A;Nat.lt_of_le_of_lt %null A A;Nat.lt_of_lt_of_le %null A A;Nat.le_trans %null Q H;Nat.le_trans %null H L".splitOn ";").map qxo ++ [qxs [qx #[] "%TrwSeq rw %ToptConfig %null / / %TrwRuleSeq [ %null %TrwRule %null / 'Int.natAbs_neg / / ] / %null / /", qxw (qx #[] "%Tassumption assumption /")], s])
end
local macro_rules (kind := Lean.Parser.Tactic.omega)|s => return qxG (qx #[] "%Tlia lia %ToptConfig %null / / /")
theorem o02{P Q : Prop}{G : Prop}(h : P ∧ Q)(k : P → Q → G) : G := k h.1 h.2
theorem o03{P Q R : Prop}{G : Prop}(h : P ∧ Q ∧ R)(k : P → Q → R → G) : G := k h.1 h.2.1 h.2.2
theorem o04{P Q R S : Prop}{G : Prop}(h : P ∧ Q ∧ R ∧ S)(k : P → Q → R → S → G) : G := k h.1 h.2.1 h.2.2.1 h.2.2.2
theorem o05{P Q R S T : Prop}{G : Prop}(h : P ∧ Q ∧ R ∧ S ∧ T)(k : P → Q → R → S → T → G) : G := k h.1 h.2.1 h.2.2.1 h.2.2.2.1 h.2.2.2.2
theorem o06{P Q R S T U : Prop}{G : Prop}(h : P ∧ Q ∧ R ∧ S ∧ T ∧ U)(k : P → Q → R → S → T → U → G) : G := k h.1 h.2.1 h.2.2.1 h.2.2.2.1 h.2.2.2.2.1 h.2.2.2.2.2
theorem o11{α : Sort _}{P : α → Prop}{G : Prop}(h : ∃a, P a)(k : ∀a, P a → G) : G := h.elim k
theorem o12{α : Sort _}{P Q : α → Prop}{G : Prop}(h : ∃a, P a ∧ Q a)(k : ∀a, P a → Q a → G) : G := h.elim fun a p => o02 p (k a)
theorem o13{α : Sort _}{P Q R : α → Prop}{G : Prop}(h : ∃a, P a ∧ Q a ∧ R a)(k : ∀a, P a → Q a → R a → G) : G := h.elim fun a p => o03 p (k a)
theorem o14{α : Sort _}{P Q R S : α → Prop}{G : Prop}(h : ∃a, P a ∧ Q a ∧ R a ∧ S a)(k : ∀a, P a → Q a → R a → S a → G) : G := h.elim fun a p => o04 p (k a)
theorem o15{α : Sort _}{P Q R S T : α → Prop}{G : Prop}(h : ∃a, P a ∧ Q a ∧ R a ∧ S a ∧ T a)(k : ∀a, P a → Q a → R a → S a → T a → G) : G := h.elim fun a p => o05 p (k a)
theorem o21{α β : Sort _}{P : α → β → Prop}{G : Prop}(h : ∃a b, P a b)(k : ∀a b, P a b → G) : G := h.elim fun a p => o11 p (k a)
theorem o22{α β : Sort _}{P Q : α → β → Prop}{G : Prop}(h : ∃a b, P a b ∧ Q a b)(k : ∀a b, P a b → Q a b → G) : G := h.elim fun a p => o12 p (k a)
theorem o23{α β : Sort _}{P Q R : α → β → Prop}{G : Prop}(h : ∃a b, P a b ∧ Q a b ∧ R a b)(k : ∀a b, P a b → Q a b → R a b → G) : G := h.elim fun a p => o13 p (k a)
theorem o24{α β : Sort _}{P Q R S : α → β → Prop}{G : Prop}(h : ∃a b, P a b ∧ Q a b ∧ R a b ∧ S a b)(k : ∀a b, P a b → Q a b → R a b → S a b → G) : G := h.elim fun a p => o14 p (k a)
theorem o31{α β γ : Sort _}{P : α → β → γ → Prop}{G : Prop}(h : ∃a b c, P a b c)(k : ∀a b c, P a b c → G) : G := h.elim fun a p => o21 p (k a)
theorem o32{α β γ : Sort _}{P Q : α → β → γ → Prop}{G : Prop}(h : ∃a b c, P a b c ∧ Q a b c)(k : ∀a b c, P a b c → Q a b c → G) : G := h.elim fun a p => o22 p (k a)
theorem o33{α β γ : Sort _}{P Q R : α → β → γ → Prop}{G : Prop}(h : ∃a b c, P a b c ∧ Q a b c ∧ R a b c)(k : ∀a b c, P a b c → Q a b c → R a b c → G) : G := h.elim fun a p => o23 p (k a)
theorem o41{α β γ δ : Sort _}{P : α → β → γ → δ → Prop}{G : Prop}(h : ∃a b c d, P a b c d)(k : ∀a b c d, P a b c d → G) : G := h.elim fun a p => o31 p (k a)
theorem o42{α β γ δ : Sort _}{P Q : α → β → γ → δ → Prop}{G : Prop}(h : ∃a b c d, P a b c d ∧ Q a b c d)(k : ∀a b c d, P a b c d → Q a b c d → G) : G := h.elim fun a p => o32 p (k a)
theorem o51{α β γ δ ε : Sort _}{P : α → β → γ → δ → ε → Prop}{G : Prop}(h : ∃a b c d e, P a b c d e)(k : ∀a b c d e, P a b c d e → G) : G := h.elim fun a p => o41 p (k a)
theorem j11{α : Sort _}{P : α → Prop}(a : α)(p : P a) : ∃a, P a := ⟨a, p⟩
theorem j12{α : Sort _}{P Q : α → Prop}(a : α)(p : P a)(q : Q a) : ∃a, P a ∧ Q a := ⟨a, p, q⟩
theorem j21{α β : Sort _}{P : α → β → Prop}(a : α)(b : β)(p : P a b) : ∃a b, P a b := ⟨a, b, p⟩
theorem j13{α : Sort _}{P Q R : α → Prop}(a : α)(p : P a)(q : Q a)(r : R a) : ∃a, P a ∧ Q a ∧ R a := ⟨a, p, q, r⟩
theorem j22{α β : Sort _}{P Q : α → β → Prop}(a : α)(b : β)(p : P a b)(q : Q a b) : ∃a b, P a b ∧ Q a b := ⟨a, b, p, q⟩
theorem j31{α β γ : Sort _}{P : α → β → γ → Prop}(a : α)(b : β)(c : γ)(p : P a b c) : ∃a b c, P a b c := ⟨a, b, c, p⟩
theorem j14{α : Sort _}{P Q R S : α → Prop}(a : α)(p : P a)(q : Q a)(r : R a)(s : S a) : ∃a, P a ∧ Q a ∧ R a ∧ S a := ⟨a, p, q, r, s⟩
theorem j23{α β : Sort _}{P Q R : α → β → Prop}(a : α)(b : β)(p : P a b)(q : Q a b)(r : R a b) : ∃a b, P a b ∧ Q a b ∧ R a b := ⟨a, b, p, q, r⟩
theorem j32{α β γ : Sort _}{P Q : α → β → γ → Prop}(a : α)(b : β)(c : γ)(p : P a b c)(q : Q a b c) : ∃a b c, P a b c ∧ Q a b c := ⟨a, b, c, p, q⟩
theorem j41{α β γ δ : Sort _}{P : α → β → γ → δ → Prop}(a : α)(b : β)(c : γ)(d : δ)(p : P a b c d) : ∃a b c d, P a b c d := ⟨a, b, c, d, p⟩
theorem j15{α : Sort _}{P Q R S T : α → Prop}(a : α)(p : P a)(q : Q a)(r : R a)(s : S a)(t : T a) : ∃a, P a ∧ Q a ∧ R a ∧ S a ∧ T a := ⟨a, p, q, r, s, t⟩
theorem j24{α β : Sort _}{P Q R S : α → β → Prop}(a : α)(b : β)(p : P a b)(q : Q a b)(r : R a b)(s : S a b) : ∃a b, P a b ∧ Q a b ∧ R a b ∧ S a b := ⟨a, b, p, q, r, s⟩
theorem j33{α β γ : Sort _}{P Q R : α → β → γ → Prop}(a : α)(b : β)(c : γ)(p : P a b c)(q : Q a b c)(r : R a b c) : ∃a b c, P a b c ∧ Q a b c ∧ R a b c := ⟨a, b, c, p, q, r⟩
theorem j42{α β γ δ : Sort _}{P Q : α → β → γ → δ → Prop}(a : α)(b : β)(c : γ)(d : δ)(p : P a b c d)(q : Q a b c d) : ∃a b c d, P a b c d ∧ Q a b c d := ⟨a, b, c, d, p, q⟩
theorem j25{α β : Sort _}{P Q R S T : α → β → Prop}(a : α)(b : β)(p : P a b)(q : Q a b)(r : R a b)(s : S a b)(t : T a b) : ∃a b, P a b ∧ Q a b ∧ R a b ∧ S a b ∧ T a b := ⟨a, b, p, q, r, s, t⟩
theorem j43{α β γ δ : Sort _}{P Q R : α → β → γ → δ → Prop}(a : α)(b : β)(c : γ)(d : δ)(p : P a b c d)(q : Q a b c d)(r : R a b c d) : ∃a b c d, P a b c d ∧ Q a b c d ∧ R a b c d := ⟨a, b, c, d, p, q, r⟩
theorem j26{α β : Sort _}{P Q R S T U : α → β → Prop}(a : α)(b : β)(p : P a b)(q : Q a b)(r : R a b)(s : S a b)(t : T a b)(u : U a b) : ∃a b, P a b ∧ Q a b ∧ R a b ∧ S a b ∧ T a b ∧ U a b := ⟨a, b, p, q, r, s, t, u⟩
theorem j35{α β γ : Sort _}{P Q R S T : α → β → γ → Prop}(a : α)(b : β)(c : γ)(p : P a b c)(q : Q a b c)(r : R a b c)(s : S a b c)(t : T a b c) : ∃a b c, P a b c ∧ Q a b c ∧ R a b c ∧ S a b c ∧ T a b c := ⟨a, b, c, p, q, r, s, t⟩
theorem j44{α β γ δ : Sort _}{P Q R S : α → β → γ → δ → Prop}(a : α)(b : β)(c : γ)(d : δ)(p : P a b c d)(q : Q a b c d)(r : R a b c d)(s : S a b c d) : ∃a b c d, P a b c d ∧ Q a b c d ∧ R a b c d ∧ S a b c d := ⟨a, b, c, d, p, q, r, s⟩
@[elab_as_elim] theorem rwm{α : Sort _}{a b : α}{P : α → Prop}(e : a = b)(h : P b) : P a := e ▸ h
@[elab_as_elim] theorem rwl{α : Sort _}{a b : α}{P : α → Prop}(e : a = b)(h : P a) : P b := e ▸ h
local macro_rules (kind := Lean.Parser.Tactic.obtain)|s => qxO s
local macro_rules (kind := Lean.Parser.Tactic.cases)|s => qxC s
local macro_rules (kind := Lean.Parser.Tactic.rintro)|s => qxI s
local macro_rules (kind := Lean.Parser.Tactic.refine)|s => qxn s
local macro_rules (kind := Lean.Parser.Tactic.exact)|s => qxn s
local macro_rules (kind := Lean.Parser.Tactic.rwSeq)|s => qxW s
local macro_rules (kind := Lean.Parser.Tactic.show)|s => qxS s
variable {A:e1x} {Eh:e1n→e1m→Prop} {L:Addr} {MV:List (List Nat)} {PA:List e1l} {Q':e1n→e1m→Prop} {R:Result→e1m→Prop} {RS:List (List Nat)} {VS:List Nat} {W:List Addr} {acc:List e1l} {c:Prop} {cl:List (Str×Addr)} {cs:List Nat} {d:e1l} {ds:List e1l} {elts:List Expr} {env:Env} {f:Nat} {fd:FuncData} {fl:List Bool} {fs:List Env} {g:Heap} {gens:List e1u} {h:Heap} {h':Heap} {hz:Bool} {hzf:Bool} {i:Nat} {ifs:List Expr} {it:e1n} {items:Array e1n} {j:Nat} {ks:List Str} {kvs:List (Str×e1n)} {ls:List Str} {m:Str→Option e1n} {nl:Nat} {nm:Str} {nxt:Option Expr} {o:Obj} {outer:List Env} {params:Arguments} {prog:Program} {ps:List Str} {qual:Str} {r:List Nat} {ring:List Nat} {scope:Scope} {stmts:List Stmt} {target:Expr} {tids:List (Str×Nat)} {tk:List (e1l×e1l)} {ts:List Expr} {v:e1n} {value:Expr} {vs:List e1n} {w:World} {x:Str} {y:Expr}
section
set_option genCtorIdx false in
inductive ZX:Bool→Type
 |v (i:Nat):ZX true
 |k (n:Nat):ZX true
 |w (i:Nat):ZX false
 |z (n:Int):ZX false
 |c (x:ZX true):ZX false
 |u (o:Nat) (x:ZX false):ZX true
 |b (o:Nat) (x y:ZX true):ZX true
 |d (o:Nat) (x y:ZX false):ZX false
 |m (o:Nat) (n:Nat) (x:ZX true):ZX true
 |n (o:Nat) (n:Int) (x:ZX false):ZX false
set_option genCtorIdx false in
inductive XP
 |c {B:Bool} (o:Nat) (x y:ZX B)
 |b (o:Nat) (p q:XP)
 |f
noncomputable abbrev N0:ZX true:=.v 0
noncomputable abbrev N1:ZX true:=.v 1
noncomputable abbrev N2:ZX true:=.v 2
noncomputable abbrev N3:ZX true:=.v 3
noncomputable abbrev N4:ZX true:=.v 4
noncomputable abbrev N5:ZX true:=.v 5
noncomputable abbrev Z0:ZX false:=.w 0
noncomputable abbrev Z1:ZX false:=.w 1
noncomputable abbrev Z2:ZX false:=.w 2
noncomputable abbrev Z3:ZX false:=.w 3
noncomputable abbrev O1:ZX true:=.k 1
noncomputable abbrev ZX.p(x y:ZX true):ZX true:=.b 0 x y
noncomputable abbrev ZX.s(x y:ZX true):ZX true:=.b 1 x y
noncomputable abbrev ZX.P(x y:ZX false):ZX false:=.d 0 x y
noncomputable abbrev ZX.S(x y:ZX false):ZX false:=.d 1 x y
noncomputable abbrev ZX.N(x:ZX false):ZX false:=.d 4 x (.z 0)
noncomputable abbrev XP.l{B:Bool}(x y:ZX B):XP:=.c 0 x y
noncomputable abbrev XP.t{B:Bool}(x y:ZX B):XP:=.c 1 x y
noncomputable abbrev XP.e{B:Bool}(x y:ZX B):XP:=.c 2 x y
noncomputable abbrev XP.a(p q:XP):XP:=.b 0 p q
noncomputable abbrev XP.n(p:XP):XP:=.b 3 p .f
noncomputable abbrev ZXD:Bool→Type|true=>Nat|false=>Int
noncomputable def zx1:Nat→Int→Nat|0,x=>x.toNat|_,x=>x.natAbs
noncomputable def zx2:Nat→Nat→Nat→Nat|0,x,y=>x+y|1,x,y=>x-y|2,x,y=>min x y|_,x,y=>max x y
noncomputable def zx3:Nat→Int→Int→Int|0,x,y=>x+y|1,x,y=>x-y|2,x,y=>min x y|3,x,y=>max x y|_,x,_=>-x
noncomputable def zx4:Nat→Nat→Nat→Nat|0,n,x=>n*x|_,n,x=>x*n
noncomputable def zx5:Nat→Int→Int→Int|0,n,x=>n*x|_,n,x=>x*n
noncomputable def ZX.val(ρ:List Nat)(σ:List Int):{b:Bool}→ZX b→ZXD b
 |_,.v i=>ρ.getD i 0
 |_,.k r=>r
 |_,.w i=>σ.getD i 0
 |_,.z r=>r
 |_,.c x=>((x.val ρ σ:Nat):Int)
 |_,.u o x=>zx1 o (x.val ρ σ)
 |_,.b o x y=>zx2 o (x.val ρ σ) (y.val ρ σ)
 |_,.d o x y=>zx3 o (x.val ρ σ) (y.val ρ σ)
 |_,.m o r x=>zx4 o r (x.val ρ σ)
 |_,.n o r x=>zx5 o r (x.val ρ σ)
def zx6:Nat→(b:Bool)→ZXD b→ZXD b→Prop
 |0,true,x,y=>Nat.le x y|0,false,x,y=>Int.le x y
 |1,true,x,y=>Nat.lt x y|1,false,x,y=>Int.lt x y
 |_,true,x,y=>@Eq Nat x y|_,false,x,y=>@Eq Int x y
noncomputable def zx7:Nat→Prop→Prop→Prop|0,p,q=>p∧q|1,p,q=>p∨q|2,p,q=>p→q|_,p,_=>¬p
def XP.den(ρ:List Nat)(σ:List Int):XP→Prop
 |.c (B:=B) o x y=>zx6 o B (x.val ρ σ) (y.val ρ σ)
 |.b o p q=>zx7 o (p.den ρ σ) (q.den ρ σ)
 |.f=>False
noncomputable def a1t:List Int→(Nat→Int)→Int|[],_=>0|a::l,t=>a*t 0+a1t l fun i=>t (i+1)
noncomputable def zad:List Int→List Int→List Int
 |[],q=>q
 |a::p,q=>match q with|[]=>a::p|b::q=>(a+b)::zad p q
noncomputable def zsc(c:Int):List Int→List Int|[]=>[]|a::l=>c*a::zsc c l
noncomputable def zun:Nat→List Int|0=>[1]|n+1=>0::zun n
noncomputable abbrev zsb(p q:List Int):=zad p (zsc (-1) q)
noncomputable abbrev ZXC:=List (List (List Int)×List Int)
noncomputable def zl1(o:Nat)(g:List (List Int))(l:List Int):ZXC:=match o with
 |0=>[(l::g,l),(zsc (-1) l::g,[])]
 |_=>[(l::g,l),(zsc (-1) l::g,zsc (-1) l)]
noncomputable def zl2(o:Nat)(g:List (List Int))(l r:List Int):ZXC:=match o with
 |0=>[(g,zad l r)]
 |1=>[(zsb l r::g,zsb l r),(zsb r l::g,[])]
 |2=>[(zsb r l::g,l),(zsb l r::g,r)]
 |_=>[(zsb r l::g,r),(zsb l r::g,l)]
noncomputable def zl3(o:Nat)(g:List (List Int))(l r:List Int):ZXC:=match o with
 |0=>[(g,zad l r)]
 |1=>[(g,zsb l r)]
 |2=>[(zsb r l::g,l),(zsb l r::g,r)]
 |3=>[(zsb r l::g,r),(zsb l r::g,l)]
 |_=>[(g,zsc (-1) l)]
noncomputable def ZX.lin:{b:Bool}→ZX b→ZXC
 |_,.v i=>[([],zun (2*i+1))]
 |_,.k r=>[([],[(r:Int)])]
 |_,.w i=>[([],zun (2*i+2))]
 |_,.z r=>[([],[r])]
 |_,.c x=>x.lin
 |_,.u o x=>x.lin.flatMap fun p=>zl1 o p.1 p.2
 |_,.b o x y=>x.lin.flatMap fun p=>y.lin.flatMap fun q=>zl2 o (p.1++q.1) p.2 q.2
 |_,.d o x y=>x.lin.flatMap fun p=>y.lin.flatMap fun q=>zl3 o (p.1++q.1) p.2 q.2
 |_,.m _ r x=>x.lin.map fun p=>(p.1,zsc r p.2)
 |_,.n _ r x=>x.lin.map fun p=>(p.1,zsc r p.2)
noncomputable def zl6(e:Bool)(o:Nat)(g:List (List Int))(l r:List Int):List (List (List Int)):=match e,o with
 |true,0=>[zsb r l::g]
 |false,0=>[zad (zsb l r) [-1]::g]
 |true,1=>[zad (zsb r l) [-1]::g]
 |false,1=>[zsb l r::g]
 |true,_=>[zsb r l::zsb l r::g]
 |false,_=>[zad (zsb r l) [-1]::g,zad (zsb l r) [-1]::g]
noncomputable def zpr(x y:List (List (List Int))):=x.flatMap fun c=>y.map (c ++ ·)
noncomputable def zl7(e:Bool)(o:Nat)(p q p' q':List (List (List Int))):List (List (List Int)):=match e,o with
 |true,0=>zpr p q
 |false,0=>p'++q'
 |true,1=>p++q
 |false,1=>zpr p' q'
 |true,2=>p'++q
 |false,2=>zpr p q'
 |true,_=>p'
 |false,_=>p
noncomputable def XP.dnf:XP→Bool→List (List (List Int))
 |.c o x y,e=>x.lin.flatMap fun p=>y.lin.flatMap fun q=>zl6 e o (p.1++q.1) p.2 q.2
 |.b o p q,e=>zl7 e o (p.dnf true) (q.dnf true) (p.dnf false) (q.dnf false)
 |.f,true=>[]
 |.f,false=>[[]]
noncomputable def zfz(c:List Int→List (List Int))(d:List Int→Int→List (List Int))(l:List Int):List (List Int):=match l with
 |a::b::p=>d (a::p) b
 |l=>c l
noncomputable def zf0:List (List Int)→List (List Int):=List.flatMap (zfz (fun l=>[l]) fun p b=>match b with|.ofNat 0=>[p]|_=>[])
noncomputable def zf1(l:List (List Int)):List (List Int):=l.flatMap (zfz (fun _=>[]) fun p b=>match b with
 |.ofNat (n+1)=>l.flatMap (zfz (fun _=>[]) fun q d=>match d with|.negSucc m=>[zad (zsc (Int.ofNat (m+1)) p) (zsc (Int.ofNat (n+1)) q)]|_=>[])
 |_=>[])
noncomputable def zfm:Nat→List (List Int)→Bool
 |0,l=>l.any fun x=>match x with|[.negSucc _]=>true|_=>false
 |n+1,l=>zfm n (zf0 l++zf1 l)
noncomputable def zps:List (List (List (List Int)))→List (List (List Int))|[]=>[[]]|x::r=>zpr x (zps r)
noncomputable def znn:Nat→List (List Int)|0=>[]|n+1=>zun (2*n+1)::znn n
noncomputable def a8s(n:Nat)(l:List XP)(g:XP):Bool:=(zps (g.dnf false::l.map fun p=>p.dnf true)).all fun c=>zfm (2*n) (znn n++c)
theorem a7e(p:List Int):∀q t,a1t (zad p q) t=a1t p t+a1t q t:=by
 induction p with
 |nil=>exact fun q t=>(Int.zero_add _).symm
 |cons a p ih=>
  intro q t;cases q with
  |nil=>exact(Int.add_zero _).symm
  |cons b q=>
   show(a+b)*t 0+a1t (zad p q) _=a*t 0+a1t p _+(b*t 0+a1t q _);rw[ih,Int.add_mul]; ac_rfl
theorem a4d(c:Int)(p:List Int):∀t,a1t (zsc c p) t=c*a1t p t:=by
 induction p with
 |nil=>exact fun t=>(Int.mul_zero _).symm
 |cons a p ih=>
  intro t;show c*a*t 0+a1t (zsc c p) _=c*(a*t 0+a1t p _);rw[ih,Int.mul_add,Int.mul_assoc]
theorem b1j(p q:List Int)(t):a1t (zsb p q) t=a1t p t-a1t q t:=by
 rw[a7e,a4d,Int.neg_one_mul,Int.sub_eq_add_neg]
theorem b4n(n:Nat):∀t,a1t (zun n) t=t n:=by
 induction n with
 |zero=>exact fun t=>(Int.add_zero _).trans (Int.one_mul _)
 |succ n ih=>exact fun t=>((congrArg (0*t 0 + ·) (ih _)).trans (congrArg (· + t (n+1)) (Int.zero_mul _))).trans (Int.zero_add _)
noncomputable def zta(ρ:List Nat)(σ:List Int)(n:Nat):Int:=match n with|0=>1|n+1=>bif n%2==0 then((ρ.getD (n/2) 0:Nat):Int)else σ.getD (n/2) 0
noncomputable abbrev a5r(t:Nat→Int)(g:List (List Int)):=∀l∈g,0≤a1t l t
theorem a2n{t l g}(h:0≤a1t l t)(k:a5r t g):a5r t (l::g):=fun x hx=>by
 cases hx with
 |head=>exact h
 |tail _ hx=>exact k x hx
theorem a9l{t g g'}(h:a5r t g)(k:a5r t g'):a5r t (g++g'):=fun x hx=>(List.mem_append.mp hx).elim (h x) (k x)
noncomputable def d9o:{b:Bool}→ZXD b→Int|true,x=>((x:Nat):Int)|false,x=>x
noncomputable abbrev zok(t:Nat→Int)(x:Int)(c:ZXC):=∃p∈c,a5r t p.1∧a1t p.2 t=x
theorem c0s{t x y c}{f:List (List Int)×List Int→ZXC}(h:zok t x c)(k:∀p,a5r t p.1→a1t p.2 t=x→zok t y (f p)):zok t y (c.flatMap f):=
 let⟨p,m,s,e⟩:=h
 let⟨q,m',r⟩:=k p s e
 ⟨q,List.mem_flatMap.mpr ⟨p,m,m'⟩,r⟩
theorem b9u{t x g l c}(s:a5r t g)(e:a1t l t=x):zok t x ((g,l)::c):=⟨_,.head _,s,e⟩
theorem d9w{t x a c}(h:zok t x c):zok t x (a::c):=let⟨p,m,r⟩:=h; ⟨p,.tail _ m,r⟩
theorem b0c{t p q}(h:a1t q t≤a1t p t):0≤a1t (zsb p q) t:=by rw[b1j]; exact Int.sub_nonneg_of_le h
theorem c1d{t x l r g a b}(s:a5r t g)(h:a1t l t≤a1t r t→a1t a t=x)(k:a1t r t≤a1t l t→a1t b t=x):zok t x [(zsb r l::g,a),(zsb l r::g,b)]:=by
 rcases Int.le_total (a1t l t) (a1t r t)with c|c
 ·exact b9u (a2n (b0c c) s) (h c)
 ·exact d9w (b9u (a2n (b0c c) s) (k c))
theorem d4c{t x l g a b}(s:a5r t g)(h:0≤a1t l t→a1t a t=x)(k:a1t l t≤0→a1t b t=x):zok t x [(l::g,a),(zsc (-1) l::g,b)]:=by
 rcases Int.le_total 0 (a1t l t)with c|c
 ·exact b9u (a2n c s) (h c)
 ·exact d9w (b9u (a2n (by rw[a4d,Int.neg_one_mul]; exact Int.neg_nonneg_of_nonpos c) s) (k c))
theorem c0r(ρ:List Nat)(σ:List Int){b:Bool}(x:ZX b):zok (zta ρ σ) (d9o (x.val ρ σ)) x.lin:=by
 have z:a5r (zta ρ σ) []:=fun _ h=>nomatch h
 induction x with
 |v i=>exact b9u z (by rw[b4n]; show(bif 2*i%2==0 then((ρ.getD (2*i/2) 0:Nat):Int)else _)=_; rw[Nat.mul_mod_right,Nat.mul_div_cancel_left i (Nat.zero_lt_two)]; rfl)
 |k r=>exact b9u z ((Int.add_zero _).trans (Int.mul_one _))
 |w i=>exact b9u z (by rw[b4n]; show(bif (2*i+1)%2==0 then((ρ.getD ((2*i+1)/2) 0:Nat):Int)else σ.getD ((2*i+1)/2) 0)=_; rw[Nat.mul_add_mod,Nat.mul_add_div Nat.zero_lt_two]; rfl)
 |z r=>exact b9u z ((Int.add_zero _).trans (Int.mul_one _))
 |c x ih=>exact ih
 |u o x ih=>
  refine c0s ih fun p s e=>?_;have e:a1t p.2 (zta ρ σ)=x.val ρ σ:=e
  match o with
  |0=>exact d4c s (fun c=>e.trans (Int.toNat_of_nonneg (e▸c)).symm) (fun c=>(congrArg _ (Int.toNat_of_nonpos (e▸c))).symm)
  |_+1=>exact d4c s (fun c=>e.trans (Int.natAbs_of_nonneg (e▸c)).symm) (fun c=>by rw[a4d,Int.neg_one_mul,e]; exact(Int.ofNat_natAbs_of_nonpos (e▸c)).symm)
 |b o x y ih ih'=>
  refine c0s ih fun p s e=>c0s ih' fun q s' e'=>?_;have e:a1t p.2 (zta ρ σ)=((x.val ρ σ:Nat):Int):=e;have e':a1t q.2 (zta ρ σ)=((y.val ρ σ:Nat):Int):=e';have S:=a9l s s'
  match o with
  |0=>exact b9u S (by rw[a7e,e,e']; rfl)
  |1=>exact c1d S (fun c=>by rw[b1j,e,e']; exact(Int.ofNat_sub (Int.ofNat_le.mp (e▸e'▸c))).symm) (fun c=>(congrArg Nat.cast (Nat.sub_eq_zero_of_le (Int.ofNat_le.mp (e▸e'▸c)))).symm)
  |2=>exact c1d S (fun c=>e.trans (congrArg Nat.cast (Nat.min_eq_left (Int.ofNat_le.mp (e▸e'▸c))).symm)) (fun c=>e'.trans (congrArg Nat.cast (Nat.min_eq_right (Int.ofNat_le.mp (e▸e'▸c))).symm))
  |_+3=>exact c1d S (fun c=>e'.trans (congrArg Nat.cast (Nat.max_eq_right (Int.ofNat_le.mp (e▸e'▸c))).symm)) (fun c=>e.trans (congrArg Nat.cast (Nat.max_eq_left (Int.ofNat_le.mp (e▸e'▸c))).symm))
 |d o x y ih ih'=>
  refine c0s ih fun p s e=>c0s ih' fun q s' e'=>?_;have e:a1t p.2 (zta ρ σ)=x.val ρ σ:=e;have e':a1t q.2 (zta ρ σ)=y.val ρ σ:=e';have S:=a9l s s'
  match o with
  |0=>exact b9u S (by rw[a7e,e,e']; rfl)
  |1=>exact b9u S (by rw[b1j,e,e']; rfl)
  |2=>exact c1d S (fun c=>e.trans (Int.min_eq_left (e▸e'▸c)).symm) (fun c=>e'.trans (Int.min_eq_right (e▸e'▸c)).symm)
  |3=>exact c1d S (fun c=>e'.trans (Int.max_eq_right (e▸e'▸c)).symm) (fun c=>e.trans (Int.max_eq_left (e▸e'▸c)).symm)
  |_+4=>exact b9u S (by rw[a4d,e,Int.neg_one_mul]; rfl)
 |m o r x ih=>
  obtain⟨p,h,s,e⟩:=ih;refine⟨_,List.mem_map.mpr ⟨p,h,rfl⟩,s,?_⟩;show a1t (zsc r p.2) _=_;rw[a4d,e]
  match o with
  |0=>exact(Int.natCast_mul _ _).symm
  |_+1=>exact(Int.mul_comm _ _).trans (Int.natCast_mul _ _).symm
 |n o r x ih=>
  obtain⟨p,h,s,e⟩:=ih;refine⟨_,List.mem_map.mpr ⟨p,h,rfl⟩,s,?_⟩;show a1t (zsc r p.2) _=_;rw[a4d,e]
  match o with
  |0=>rfl
  |_+1=>exact Int.mul_comm _ _
noncomputable abbrev b3t(t:Nat→Int)(c:List (List (List Int))):=∃g∈c,a5r t g
theorem c8k{t x c}{f:List (List Int)×List Int→List (List (List Int))}(h:zok t x c)(k:∀p,a5r t p.1→a1t p.2 t=x→b3t t (f p)):b3t t (c.flatMap f):=
 let⟨p,m,s,e⟩:=h
 let⟨q,m',r⟩:=k p s e
 ⟨q,List.mem_flatMap.mpr ⟨p,m,m'⟩,r⟩
theorem b7a{t c d}(h:b3t t c)(k:b3t t d):b3t t (zpr c d):=
 let⟨p,m,s⟩:=h
 let⟨q,m',s'⟩:=k
 ⟨p++q,List.mem_flatMap.mpr ⟨p,m,List.mem_map.mpr ⟨q,m',rfl⟩⟩,a9l s s'⟩
theorem c0b{t c d}(h:b3t t c):b3t t (c++d):=let⟨p,m,s⟩:=h; ⟨p,List.mem_append.mpr (.inl m),s⟩
theorem c0c{t c d}(h:b3t t d):b3t t (c++d):=let⟨p,m,s⟩:=h; ⟨p,List.mem_append.mpr (.inr m),s⟩
theorem b7k{ρ σ p q}(h:a1t q (zta ρ σ)<a1t p (zta ρ σ)):0≤a1t (zad (zsb p q) [-1]) (zta ρ σ):=by
 rw[a7e,b1j]; exact Int.sub_nonneg_of_le (Int.le_sub_left_of_add_le h)
theorem d6b{ρ σ g p q}(s:a5r (zta ρ σ) g)(o:Nat):∀e,zx6 o false (a1t p (zta ρ σ)) (a1t q (zta ρ σ))=(e=true)→b3t (zta ρ σ) (zl6 e o g p q):=by
 intro e h
 match o,e with
 |0,true=>exact⟨_,.head _,a2n (b0c (Eq.mpr h rfl)) s⟩
 |0,false=>exact⟨_,.head _,a2n (b7k (Int.not_le.mp fun c=>nomatch Eq.mp h c)) s⟩
 |1,true=>exact⟨_,.head _,a2n (b7k (Eq.mpr h rfl)) s⟩
 |1,false=>exact⟨_,.head _,a2n (b0c (Int.not_lt.mp fun c=>nomatch Eq.mp h c)) s⟩
 |_+2,true=>
  have h:a1t p (zta ρ σ)=a1t q (zta ρ σ):=Eq.mpr h rfl;exact⟨_,.head _,a2n (b0c (Int.le_of_eq h)) (a2n (b0c (Int.le_of_eq h.symm)) s)⟩
 |_+2,false=>
  rcases Int.lt_trichotomy (a1t p (zta ρ σ)) (a1t q (zta ρ σ))with c|c|c
  ·exact⟨_,.head _,a2n (b7k c) s⟩
  ·exact nomatch Eq.mp h c
  ·exact⟨_,.tail _ (.head _),a2n (b7k c) s⟩
theorem d8t(o:Nat){b:Bool}(x y:ZXD b)(e:Bool)(h:zx6 o b x y=(e=true)):zx6 o false (d9o x) (d9o y)=(e=true):=by
 cases b with
 |true=>
  match o with
  |0=>exact(propext Int.ofNat_le).trans h
  |1=>exact(propext Int.ofNat_lt).trans h
  |_+2=>exact(propext Int.ofNat_inj).trans h
 |false=>match o with|0=>exact h|1=>exact h|_+2=>exact h
theorem c3t(ρ:List Nat)(σ:List Int)(p:XP):∀e,(p.den ρ σ)=(e=true)→b3t (zta ρ σ) (p.dnf e):=by
 induction p with
 |c o x y=>
  intro e h;exact c8k (c0r ρ σ x) fun p s e1=>c8k (c0r ρ σ y) fun q s' e2=>d6b (a9l s s') o e (e1▸e2▸d8t o _ _ e h)
 |f=>
  intro e h;cases e with
  |true=>exact(Eq.mpr h rfl:False).elim
  |false=>exact⟨_,.head _,fun _ h=>nomatch h⟩
 |b o p q ih ih'=>
  have P:∀{r:XP},(∀e,(r.den ρ σ)=(e=true)→b3t (zta ρ σ) (r.dnf e))→r.den ρ σ→b3t (zta ρ σ) (r.dnf true):=fun i d=>i true (propext ⟨fun _=>rfl,fun _=>d⟩);have N:∀{r:XP},(∀e,(r.den ρ σ)=(e=true)→b3t (zta ρ σ) (r.dnf e))→¬r.den ρ σ→b3t (zta ρ σ) (r.dnf false):=fun i d=>i false (propext ⟨fun c=>(d c).elim,fun c=>nomatch c⟩);intro e h;have T:e=true→zx7 o (p.den ρ σ) (q.den ρ σ):=fun c=>Eq.mpr h c;have F:e=false→¬zx7 o (p.den ρ σ) (q.den ρ σ):=fun c d=>nomatch (c.symm.trans (Eq.mp h d));clear h
  match o,e with
  |0,true=>exact b7a (P ih (T rfl).1) (P ih' (T rfl).2)
  |0,false=>
   by_cases c:p.den ρ σ
   ·exact c0c (N ih' fun d=>F rfl ⟨c,d⟩)
   ·exact c0b (N ih c)
  |1,true=>exact(T rfl).elim (fun c=>c0b (P ih c)) (fun c=>c0c (P ih' c))
  |1,false=>exact b7a (N ih fun c=>F rfl (.inl c)) (N ih' fun c=>F rfl (.inr c))
  |2,true=>
   by_cases c:p.den ρ σ
   ·exact c0c (P ih' (T rfl c))
   ·exact c0b (N ih c)
  |2,false=>
   by_cases c:p.den ρ σ
   ·exact b7a (P ih c) (N ih' fun d=>F rfl fun _=>d)
   ·exact absurd (fun d=>absurd d c) (F rfl)
  |_+3,true=>exact N ih (T rfl)
  |_+3,false=>exact P ih (Classical.not_not.mp (F rfl))
noncomputable def zsk(t:Nat→Int)(n:Nat):Int:=match n with|0=>t 0|n+1=>t (n+2)
theorem c1b{c d l}{t:Nat→Int}(C:∀l,0≤a1t l t→(∀a b p,l≠a::b::p)→a5r (zsk t) (c l))(D:∀a b p,0≤a1t (a::b::p) t→a5r (zsk t) (d (a::p) b))(h:0≤a1t l t):a5r (zsk t) (zfz c d l):=
 match l with
 |[]=>C _ h fun _ _ _ e=>nomatch e
 |[_]=>C _ h fun _ _ _ e=>nomatch e
 |a::b::p=>D a b p h
theorem c3q{t:Nat→Int}{g:List (List Int)}{f:List Int→List (List Int)}(h:∀l∈g,a5r t (f l)):a5r t (List.flatMap f g):=fun l m=>let⟨x,a,b⟩:=List.mem_flatMap.mp m; h x a l b
theorem c0u{t l}(h:0≤a1t l t):a5r t [l]:=a2n h fun _ h=>nomatch h
theorem a5m{t}:a5r t []:=fun _ h=>nomatch h
theorem c0v(a b:Int)(p:List Int)(t:Nat→Int):a1t (a::b::p) t=b*t 1+a1t (a::p) (zsk t):=Int.add_left_comm _ _ _
theorem d6m{t g}(h:a5r t g):a5r (zsk t) (zf0 g):=c3q fun l m=>c1b
 (fun l h k=>c0u (match l with|[]=>h|[_]=>h|a::b::p=>absurd rfl (k a b p)))
 (fun a b p h=>by
  rw[c0v]at h
  match b with
  |.ofNat 0=>exact c0u (by rw[show Int.ofNat 0=0 from rfl,Int.zero_mul,Int.zero_add]at h; exact h)
  |.ofNat (_+1)=>exact a5m
  |.negSucc _=>exact a5m) (h l m)
theorem d6v{t g}(h:a5r t g):a5r (zsk t) (zf1 g):=c3q fun l m=>c1b (fun _ _ _=>a5m)
 (fun a b p h1=>by
  match b with
  |.ofNat 0=>exact a5m
  |.negSucc _=>exact a5m
  |.ofNat (n+1)=>
   refine c3q fun r m'=>c1b (fun _ _ _=>a5m) (fun a' b' p' h2=>?_) (h r m')
   match b' with
   |.ofNat _=>exact a5m
   |.negSucc k=>
    refine c0u ?_;rw[c0v]at h1 h2;rw[a7e,a4d,a4d];have e1:=Int.mul_nonneg (show 0≤Int.ofNat (k+1) from Int.ofNat_nonneg _) h1
    have e2:=Int.mul_nonneg (show 0≤Int.ofNat (n+1) from Int.ofNat_nonneg _) h2
    have e3:=Int.add_nonneg e1 e2;have e4:(Int.ofNat (k+1))*(Int.ofNat (n+1)*t 1)+Int.ofNat (n+1)*(Int.negSucc k*t 1)=0:=by
     rw[←Int.mul_assoc,←Int.mul_assoc,←Int.add_mul,show Int.negSucc k=- Int.ofNat (k+1) from rfl,Int.mul_neg,Int.mul_comm (Int.ofNat (n+1)),Int.add_right_neg,Int.zero_mul]
    rw[Int.mul_add,Int.mul_add,Int.add_assoc,Int.add_left_comm (_*a1t _ _),←Int.add_assoc,e4,Int.zero_add]at e3;exact e3) (h l m)
theorem d5n(n:Nat):∀t g,t 0=1→a5r t g→zfm n g=true→False:=by
 induction n with
 |zero=>
  intro t g z h c;obtain⟨l,m,e⟩:=List.any_eq_true.mp c;have k:=h l m
  match l with
  |[]=>cases e
  |.ofNat _::[]=>cases e
  |.ofNat _::_::_=>exact absurd e Bool.false_ne_true
  |.negSucc _::_::_=>exact absurd e Bool.false_ne_true
  |.negSucc b::[]=>rw[show a1t [Int.negSucc b] t=Int.negSucc b*t 0+0 from rfl,z,Int.mul_one,Int.add_zero]at k; exact nomatch k
 |succ n ih=>exact fun t g z h c=>ih (zsk t) _ z (a9l (d6m h) (d6v h)) c
theorem d4a(ρ σ)(n:Nat):a5r (zta ρ σ) (znn n):=by
 induction n with
 |zero=>exact a5m
 |succ n ih=>exact a2n (by rw[b4n]; show 0≤(bif 2*n%2==0 then((ρ.getD (2*n/2) 0:Nat):Int)else _); rw[Nat.mul_mod_right]; exact Int.ofNat_nonneg _) ih
theorem d6a{t}(l:List (List (List (List Int))))(h:∀c∈l,b3t t c):b3t t (zps l):=by
 induction l with
 |nil=>exact⟨[],.head _,a5m⟩
 |cons c l ih=>exact b7a (h c (.head _)) (ih fun x m=>h x (.tail _ m))
theorem lc(n:Nat)(ρ:List Nat)(σ:List Int)(l:List XP)(g:XP)(c:true=a8s n l g)(h:∀p∈l,p.den ρ σ):g.den ρ σ:=by
 refine Classical.byContradiction fun k=>?_;have⟨q,m,s⟩:=d6a (t:=zta ρ σ) (g.dnf false::l.map fun p=>p.dnf true) (fun x m=>by
  cases m with
  |head=>exact c3t ρ σ g false (propext ⟨fun d=>(k d).elim,fun d=>nomatch d⟩)
  |tail _ m=>
   obtain⟨p,m,e⟩:=List.mem_map.mp m;exact e▸c3t ρ σ p true (propext ⟨fun _=>rfl,fun _=>h p m⟩))
 exact d5n _ _ _ rfl (a9l (d4a ρ σ n) s) (List.all_eq_true.mp c.symm q m)
theorem zlq{P:XP→Prop}{a:XP}{l}(h:P a)(k:∀p∈l,P p):∀p∈a::l,P p:=fun p m=>by
 cases m with
 |head=>exact h
 |tail _ m=>exact k p m
theorem d1c{P:XP→Prop}:∀p∈([]:List XP),P p:=fun _ m=>nomatch m
section
variable (n:Nat) (ρ:List Nat) (σ:List Int) (g:XP)
theorem lc0(c:true=a8s n [] g:=by kernel_rfl):g.den ρ σ:=lc n ρ σ _ g c d1c
theorem lc1(p)(h:XP.den ρ σ p)(c:true=a8s n [p] g:=by kernel_rfl):g.den ρ σ:=lc n ρ σ _ g c (zlq h d1c)
theorem lc2(p q)(h:XP.den ρ σ p)(h2:XP.den ρ σ q)(c:true=a8s n [p,q] g:=by kernel_rfl):g.den ρ σ:=lc n ρ σ _ g c (zlq h (zlq h2 d1c))
theorem lc3(p q r)(h:XP.den ρ σ p)(h2:XP.den ρ σ q)(h3:XP.den ρ σ r)(c:true=a8s n [p,q,r] g:=by kernel_rfl):g.den ρ σ:=lc n ρ σ _ g c (zlq h (zlq h2 (zlq h3 d1c)))
theorem lc4(p q r s)(h:XP.den ρ σ p)(h2:XP.den ρ σ q)(h3:XP.den ρ σ r)(h4:XP.den ρ σ s)(c:true=a8s n [p,q,r,s] g:=by kernel_rfl):g.den ρ σ:=lc n ρ σ _ g c (zlq h (zlq h2 (zlq h3 (zlq h4 d1c))))
theorem lc5(p q r s t)(h:XP.den ρ σ p)(h2:XP.den ρ σ q)(h3:XP.den ρ σ r)(h4:XP.den ρ σ s)(h5:XP.den ρ σ t)(c:true=a8s n [p,q,r,s,t] g:=by kernel_rfl):g.den ρ σ:=lc n ρ σ _ g c (zlq h (zlq h2 (zlq h3 (zlq h4 (zlq h5 d1c)))))
theorem lc6(p q r s t u)(h:XP.den ρ σ p)(h2:XP.den ρ σ q)(h3:XP.den ρ σ r)(h4:XP.den ρ σ s)(h5:XP.den ρ σ t)(h6:XP.den ρ σ u)(c:true=a8s n [p,q,r,s,t,u] g:=by kernel_rfl):g.den ρ σ:=lc n ρ σ _ g c (zlq h (zlq h2 (zlq h3 (zlq h4 (zlq h5 (zlq h6 d1c))))))
end
theorem a0o{a:Nat}(g p)(h:XP.den [a] [] p)(o:true=a8s 1 [p] g:=by kernel_rfl):g.den [a] []:=lc1 _ _ _ g p h o
theorem a1b{a b:Nat}(g p)(h:XP.den [a,b] [] p)(o:true=a8s 2 [p] g:=by kernel_rfl):g.den [a,b] []:=lc1 _ _ _ g p h o
theorem a3f{a:Nat}(g)(o:true=a8s 1 [] g:=by kernel_rfl):g.den [a] []:=lc0 _ _ _ g o
theorem a1m{a b:Nat}(g p q)(h:XP.den [a,b] [] p)(i:XP.den [a,b] [] q)(o:true=a8s 2 [p,q] g:=by kernel_rfl):g.den [a,b] []:=lc2 _ _ _ g p q h i o
theorem a2c{a b c:Nat}(g p)(h:XP.den [a,b,c] [] p)(o:true=a8s 3 [p] g:=by kernel_rfl):g.den [a,b,c] []:=lc1 _ _ _ g p h o
theorem a6c{x:Int}(g p)(h:XP.den [] [x] p)(o:true=a8s 1 [p] g:=by kernel_rfl):g.den [] [x]:=lc1 _ _ _ g p h o
theorem a2a{a b c:Nat}(g p q)(h:XP.den [a,b,c] [] p)(i:XP.den [a,b,c] [] q)(o:true=a8s 3 [p,q] g:=by kernel_rfl):g.den [a,b,c] []:=lc2 _ _ _ g p q h i o
theorem c5u(g)(o:true=a8s 0 [] g:=by kernel_rfl):g.den [] []:=lc0 _ _ _ g o
theorem a9v{a b c d:Nat}(g p)(h:XP.den [a,b,c,d] [] p)(o:true=a8s 4 [p] g:=by kernel_rfl):g.den [a,b,c,d] []:=lc1 _ _ _ g p h o
theorem b2a{a b c d:Nat}(g p q)(h:XP.den [a,b,c,d] [] p)(i:XP.den [a,b,c,d] [] q)(o:true=a8s 4 [p,q] g:=by kernel_rfl):g.den [a,b,c,d] []:=lc2 _ _ _ g p q h i o
theorem b2b{a b:Nat}(g)(o:true=a8s 2 [] g:=by kernel_rfl):g.den [a,b] []:=lc0 _ _ _ g o
theorem d2y{a b c d:Nat}(g p q r)(h:XP.den [a,b,c,d] [] p)(i:XP.den [a,b,c,d] [] q)(j:XP.den [a,b,c,d] [] r)(o:true=a8s 4 [p,q,r] g:=by kernel_rfl):g.den [a,b,c,d] []:=lc3 _ _ _ g p q r h i j o
theorem d7f{x y:Int}(g p)(h:XP.den [] [x,y] p)(o:true=a8s 2 [p] g:=by kernel_rfl):g.den [] [x,y]:=lc1 _ _ _ g p h o
theorem e0m{a:Nat}{x:Int}(g p)(h:XP.den [a] [x] p)(o:true=a8s 1 [p] g:=by kernel_rfl):g.den [a] [x]:=lc1 _ _ _ g p h o
end
section
noncomputable abbrev P:=e1l
set_option genInjectivity true in
inductive V where
 |undef
 |dat (d:e1l)
 |own (k:Nat)
 |fn (f:Nat)
 |tab (kvs:List (e1l×e1l))
 |twin (d:e1l)
set_option genInjectivity true in
inductive OV where
 |lst (l:List e1l)
 |froz (l:List e1l)
 |iter (l:List e1l)
 |dead
set_option genInjectivity true in
structure St where
 vars:List V
 own:List OV
 hz:Bool
noncomputable def St.get(st:St)(i:Nat):V:=st.vars.getD i .undef
noncomputable def St.set(st:St)(i:Nat)(v:V):St:={ st with vars:=st.vars.set i v }
noncomputable def St.setOwn(st:St)(k:Nat)(o:OV):St:={ st with own:=st.own.set k o }
noncomputable def St.push(st:St)(o:OV):St:={ st with own:=st.own++[o] }
noncomputable def St.dat?(st:St):V→Option e1l
 |.dat d=>some d
 |.own k=>match st.own[k]? with
  |some (.lst l)=>some (.list l)
  |some (.froz l)=>some (.list l)
  |_=>none
 |_=>none
noncomputable def St.datAll(st:St):List V→Option (List e1l)
 |[]=>some []
 |v::vs=>match st.dat? v,st.datAll vs with
  |some d,some ds=>some (d::ds)
  |_,_=>none
def keepV(st:St)(v:V)(Q:e1l→St→Prop):Prop:=match v with
 |.dat d=>Q d st
 |.own k=>match st.own[k]? with
  |some (.lst l)=>Q (.list l) (st.setOwn k (.froz l))
  |some (.froz l)=>Q (.list l) st
  |_=>False
 |_=>False
inductive Op2|add|sub|mul|fdiv|mod|pow|shl|shr|band|bor|bxor
inductive Cmp|eq|lt|le|gt|ge|is|isin|notin
noncomputable def b2i(b:Bool):Int:=if b then 1 else 0
abbrev onI(d:e1l)(K:Int→Prop):Prop:=match d with|.int i=>K i|_=>False
abbrev onB(d:e1l)(K:Bool→Prop):Prop:=match d with|.bool i=>K i|_=>False
abbrev onS(d:e1l)(K:Str→Prop):Prop:=match d with|.str s=>K s|_=>False
abbrev onL(d:e1l)(K:List e1l→Prop):Prop:=match d with|.list l=>K l|_=>False
abbrev on0(l:List e1l)(K:Prop):Prop:=match l with|[]=>K|_=>False
abbrev on1(l:List e1l)(K:e1l→Prop):Prop:=match l with|[]=>False|x::r=>on0 r (K x)
abbrev on2(l:List e1l)(K:e1l→e1l→Prop):Prop:=match l with|[]=>False|x::r=>on1 r (K x)
abbrev on3(l:List e1l)(K:e1l→e1l→e1l→Prop):Prop:=match l with|[]=>False|x::r=>on2 r (K x)
theorem a7z{K:Int→Prop}(h:onI d K):∃i,d=.int i∧K i:=by cases d <;> first|exact h.elim|exact⟨_,rfl,h⟩
theorem d8f{K:Bool→Prop}(h:onB d K):∃i,d=.bool i∧K i:=by cases d <;> first|exact h.elim|exact⟨_,rfl,h⟩
theorem a8y{K:Str→Prop}(h:onS d K):∃i,d=.str i∧K i:=by cases d <;> first|exact h.elim|exact⟨_,rfl,h⟩
theorem c4m{K:List e1l→Prop}(h:onL d K):∃i,d=.list i∧K i:=by cases d <;> first|exact h.elim|exact⟨_,rfl,h⟩
theorem d4g{l:List e1l}{K:Prop}(h:on0 l K):l=[]∧K:=by cases l <;> first|exact h.elim|exact⟨rfl,h⟩
theorem d4t{l:List e1l}{K:e1l→Prop}(h:on1 l K):∃x,l=[x]∧K x:=by
 cases l with
 |nil=>exact h.elim
 |cons x r=>obtain⟨rfl,h⟩:=d4g h; exact⟨_,rfl,h⟩
theorem d4e{l:List e1l}{K:e1l→e1l→Prop}(h:on2 l K):∃x y,l=[x,y]∧K x y:=by
 cases l with
 |nil=>exact h.elim
 |cons x r=>obtain⟨y,rfl,h⟩:=d4t h; exact⟨_,_,rfl,h⟩
theorem d8e{l:List e1l}{K:e1l→e1l→e1l→Prop}(h:on3 l K):∃x y z,l=[x,y,z]∧K x y z:=by
 cases l with
 |nil=>exact h.elim
 |cons x r=>obtain⟨y,z,rfl,h⟩:=d4e h; exact⟨_,_,_,rfl,h⟩
abbrev c9y(o:Op2)(p:Prop):Prop:=match o with|.add=>p|_=>False
abbrev d0v(o:Op2)(p:Prop):Prop:=match o with|.mul=>p|_=>False
theorem c0y{o:Op2}{p:Prop}(h:c9y o p):o=.add∧p:=by cases o <;> first|exact h.elim|exact⟨rfl,h⟩
theorem b9y{o:Op2}{p:Prop}(h:d0v o p):o=.mul∧p:=by cases o <;> first|exact h.elim|exact⟨rfl,h⟩
abbrev e0l(o:Op2)(x y:Int)(Q:e1l→Prop):Prop:=match o with
 |.add=>Q (.int (x+y))
 |.sub=>Q (.int (x-y))
 |.mul=>(x.natAbs<2^64∨y.natAbs<2^64)∧Q (.int (x*y))
 |.fdiv=>(y≠0∧y.natAbs<2^4000)∧Q (.int (x.fdiv y))
 |.mod=>y≠0∧Q (.int (x.fmod y))
 |.pow=>(0≤y∧y≤1000∧x.natAbs<2^64)∧Q (.int (x^y.toNat))
 |.shl=>(0≤y∧y≤1000∧x.natAbs<2^4000)∧Q (.int (x*2^y.toNat))
 |.shr=>0≤y∧Q (.int (x.fdiv (2^y.toNat)))
 |.band=>Q (.int (Builtin.bitAnd x y))
 |.bor=>Q (.int (Builtin.bitOr x y))
 |.bxor=>Q (.int (Builtin.bitXor x y))
def b2d(o:Op2)(a b:e1l)(Q:e1l→Prop):Prop:=match a with
 |.int x=>match b with
  |.int y=>e0l o x y Q
  |.bool y=>d0v o (Q (.int (x*b2i y)))
  |_=>False
 |.str x=>onS b fun y=>c9y o (x.length+y.length≤e2f∧Q (.str (x++y)))
 |.list x=>match b with
  |.list y=>c9y o (x.length+y.length≤1000000∧Q (.list (x++y)))
  |.int y=>d0v o ((0≤y∧y≤1000000∧x.length*y.toNat≤1000000)∧Q (.list (List.replicate y.toNat x).flatten))
  |_=>False
 |_=>False
section
variable {x y:Int} {Q:e1l→Prop}
theorem b_add:b2d .add (.int x) (.int y) Q=Q (.int (x+y)):=rfl
theorem b_sub:b2d .sub (.int x) (.int y) Q=Q (.int (x-y)):=rfl
theorem b_mul:b2d .mul (.int x) (.int y) Q=((x.natAbs<2^64∨y.natAbs<2^64)∧Q (.int (x*y))):=rfl
theorem b_fdiv:b2d .fdiv (.int x) (.int y) Q=((y≠0∧y.natAbs<2^4000)∧Q (.int (x.fdiv y))):=rfl
theorem b_mod:b2d .mod (.int x) (.int y) Q=(y≠0∧Q (.int (x.fmod y))):=rfl
theorem b_pow:b2d .pow (.int x) (.int y) Q=((0≤y∧y≤1000∧x.natAbs<2^64)∧Q (.int (x^y.toNat))):=rfl
theorem b_shl:b2d .shl (.int x) (.int y) Q=((0≤y∧y≤1000∧x.natAbs<2^4000)∧Q (.int (x*2^y.toNat))):=rfl
theorem b_shr:b2d .shr (.int x) (.int y) Q=(0≤y∧Q (.int (x.fdiv (2^y.toNat)))):=rfl
theorem b_and:b2d .band (.int x) (.int y) Q=Q (.int (Builtin.bitAnd x y)):=rfl
theorem b_or:b2d .bor (.int x) (.int y) Q=Q (.int (Builtin.bitOr x y)):=rfl
theorem b_xor:b2d .bxor (.int x) (.int y) Q=Q (.int (Builtin.bitXor x y)):=rfl
theorem b_str{x y:Str}:b2d .add (.str x) (.str y) Q=(x.length+y.length≤e2f∧Q (.str (x++y))):=rfl
theorem b_list{x y:List e1l}:b2d .add (.list x) (.list y) Q=(x.length+y.length≤1000000∧Q (.list (x++y))):=rfl
theorem b_bool{y:Bool}:b2d .mul (.int x) (.bool y) Q=Q (.int (x*b2i y)):=rfl
theorem b_rep{x:List e1l}:b2d .mul (.list x) (.int y) Q=((0≤y∧y≤1000000∧x.length*y.toNat≤1000000)∧Q (.list (List.replicate y.toNat x).flatten)):=rfl
end
abbrev e1f(o:Op2)(x y:Int)(Q:e1l→Prop):Prop:=match o with
 |.add=>Q (.int (x+y))
 |.sub=>Q (.int (x-y))
 |.shl=>(0≤y∧y≤1000∧x.natAbs<2^4000)∧Q (.int (x*2^y.toNat))
 |.bor=>Q (.int (Builtin.bitOr x y))
 |_=>False
def d0u(o:Op2)(a b:e1l)(Q:e1l→Prop):Prop:=onI a fun x=>onI b fun y=>e1f o x y Q
section
variable {x y:Int} {Q:e1l→Prop}
theorem a_add:d0u .add (.int x) (.int y) Q=Q (.int (x+y)):=rfl
theorem a_sub:d0u .sub (.int x) (.int y) Q=Q (.int (x-y)):=rfl
theorem a_shl:d0u .shl (.int x) (.int y) Q=((0≤y∧y≤1000∧x.natAbs<2^4000)∧Q (.int (x*2^y.toNat))):=rfl
theorem a_or:d0u .bor (.int x) (.int y) Q=Q (.int (Builtin.bitOr x y)):=rfl
end
def a5d(d:e1l)(Q:Bool→Prop):Prop:=match d with
 |.none=>Q false
 |.bool b=>Q b
 |.int i=>Q (i != 0)
 |.str s=>s.length≤1000000∧Q ((s.length:Int) != 0)
 |.list l=>l.length≤1000000∧Q ((l.length:Int) != 0)
 |_=>False
section
variable {Q:Bool→Prop} {b:Bool} {i:Int} {s:Str} {l:List e1l}
theorem tw_n:a5d .none Q=Q false:=rfl
theorem tw_b:a5d (.bool b) Q=Q b:=rfl
theorem tw_i:a5d (.int i) Q=Q (i != 0):=rfl
theorem tw_s:a5d (.str s) Q=(s.length≤1000000∧Q ((s.length:Int) != 0)):=rfl
theorem tw_l:a5d (.list l) Q=(l.length≤1000000∧Q ((l.length:Int) != 0)):=rfl
end
def truthV(d:Option e1l)(Q:Bool→Prop):Prop:=match d with
 |some d=>a5d d Q
 |none=>False
noncomputable def a2r(n:Nat)(i:Int):Option Nat:=if 0≤i then(if i.toNat<n then some i.toNat else none)else if -(n:Int)≤i then some (i+n).toNat else none
noncomputable def c4g(n:Nat)(i:Int):Nat:=if 0≤i then min i.toNat n else(i+n).toNat
noncomputable def cut{α:Type}(l:List α)(lo hi:Option Int):List α:=
 (l.take (match hi with|none=>l.length|some i=>c4g l.length i)).drop (match lo with|none=>0|some i=>c4g l.length i)
noncomputable def b8h:List e1l→Option Int
 |[.int i]=>some i
 |.int i::r=>(b8h r).map (min i ·)
 |_=>none
noncomputable def b2t:List e1l→Option (List Str)
 |[]=>some []
 |.str s::r=>(b2t r).map (s :: ·)
 |_=>none
noncomputable def b9w(a:Int)(n:Nat):List e1l:=(List.range n).map fun(k:Nat)=>.int (a+(k:Int))
noncomputable def a8v(l:List e1l):List e1l:=(List.range l.length).zipWith (fun(k:Nat) d=>.tuple [.int (k:Int),d]) l
noncomputable def c1q(l m:List e1l):List e1l:=l.zipWith (fun a b=>.tuple [a,b]) m
noncomputable def b5n:e1l→Bool|.none=>true|_=>false
abbrev eqP(a b:e1l)(Q:Bool→Prop):Prop:=
 let K:=(SeqAt.shaped a=true∧SeqAt.shaped b=true)∧Q (PyData.eqv a b)
 match a with
 |.int x=>match b with|.int y=>Q (x==y)|_=>K
 |.str x=>match b with|.str y=>Q (x==y)|_=>K
 |_=>K
abbrev isP(a b:e1l)(Q:Bool→Prop):Prop:=match b with
 |.none=>Q (b5n a)
 |.bool y=>onB a fun x=>Q (x==y)
 |_=>False
abbrev inP(a b:e1l)(Q:Bool→Prop):Prop:=match b with
 |.str y=>onS a fun x=>Q (Txt.contains y x)
 |.list l=>(SeqAt.shaped a=true∧SeqAt.shaped (.list l)=true)∧Q (l.any fun y=>PyData.eqv y a)
 |_=>False
abbrev niP(a b:e1l)(Q:Bool→Prop):Prop:=match b with
 |.str y=>onS a fun x=>Q (!Txt.contains y x)
 |.tuple l=>(SeqAt.shaped a=true∧SeqAt.shaped (.tuple l)=true)∧Q (!l.any fun y=>PyData.eqv y a)
 |_=>False
def b2c(o:Cmp)(a b:e1l)(Q:Bool→Prop):Prop:=match o with
 |.eq=>eqP a b Q
 |.lt=>onI a fun x=>onI b fun y=>Q (decide (x<y))
 |.le=>onI a fun x=>onI b fun y=>Q (decide (x≤y))
 |.gt=>onI a fun x=>onI b fun y=>Q (decide (y<x))
 |.ge=>onI a fun x=>onI b fun y=>Q (decide (y≤x))
 |.is=>isP a b Q
 |.isin=>inP a b Q
 |.notin=>niP a b Q
section
variable {x y:Int} {s t:Str} {a b:e1l} {l:List e1l} {u v:Bool} {Q:Bool→Prop}
theorem c_eqi:b2c .eq (.int x) (.int y) Q=Q (x==y):=rfl
theorem c_eqs:b2c .eq (.str s) (.str t) Q=Q (s==t):=rfl
theorem c_eql:b2c .eq (.list l) b Q=((SeqAt.shaped (.list l)=true∧SeqAt.shaped b=true)∧Q (PyData.eqv (.list l) b)):=rfl
theorem c_eqb:b2c .eq (.bool u) b Q=((SeqAt.shaped (.bool u)=true∧SeqAt.shaped b=true)∧Q (PyData.eqv (.bool u) b)):=rfl
theorem c_lt:b2c .lt (.int x) (.int y) Q=Q (decide (x<y)):=rfl
theorem c_le:b2c .le (.int x) (.int y) Q=Q (decide (x≤y)):=rfl
theorem c_gt:b2c .gt (.int x) (.int y) Q=Q (decide (y<x)):=rfl
theorem c_ge:b2c .ge (.int x) (.int y) Q=Q (decide (y≤x)):=rfl
theorem c_isb:b2c .is (.bool u) (.bool v) Q=Q (u==v):=rfl
theorem c_isn:b2c .is a .none Q=Q (b5n a):=rfl
theorem c_ins:b2c .isin (.str s) (.str t) Q=Q (Txt.contains t s):=rfl
theorem c_inl:b2c .isin a (.list l) Q=((SeqAt.shaped a=true∧SeqAt.shaped (.list l)=true)∧Q (l.any fun y=>PyData.eqv y a)):=rfl
theorem c_nis:b2c .notin (.str s) (.str t) Q=Q (!Txt.contains t s):=rfl
theorem c_nit:b2c .notin a (.tuple l) Q=((SeqAt.shaped a=true∧SeqAt.shaped (.tuple l)=true)∧Q (!l.any fun y=>PyData.eqv y a)):=rfl
end
abbrev atP(a:e1l)(k:Int)(Q:e1l→Prop):Prop:=match a with
 |.list l=>(-1000000≤k∧k≤1000000)∧match (a2r l.length k).bind (l[·]?)with|some d=>Q d|none=>False
 |.tuple l=>(-1000000≤k∧k≤1000000)∧match (a2r l.length k).bind (l[·]?)with|some d=>Q d|none=>False
 |_=>False
abbrev atO(a:Option e1l)(k:Int)(Q:e1l→Prop):Prop:=match a with|some d=>atP d k Q|none=>False
abbrev ix2(va:V)(a:Option e1l)(k:Int)(Q:e1l→Prop):Prop:=match va with
 |.tab kvs=>match Spec.lookup (.int k) kvs with|some (.str s)=>Q (.str s)|_=>False
 |_=>atO a k Q
def d0w(va:V)(a:Option e1l)(i:Option e1l)(Q:e1l→Prop):Prop:=match i with|some d=>onI d fun k=>ix2 va a k Q|none=>False
section
variable {k:Int} {l:List e1l} {d:e1l} {a:Option e1l} {kvs:List (e1l×e1l)} {j:Nat} {Q:e1l→Prop}
theorem i_tab:d0w (.tab kvs) a (some (.int k)) Q=match Spec.lookup (.int k) kvs with|some (.str s)=>Q (.str s)|_=>False:=rfl
theorem i_dl:d0w (.dat d) (some (.list l)) (some (.int k)) Q=((-1000000≤k∧k≤1000000)∧match (a2r l.length k).bind (l[·]?)with|some d=>Q d|none=>False):=rfl
theorem i_dt:d0w (.dat d) (some (.tuple l)) (some (.int k)) Q=((-1000000≤k∧k≤1000000)∧match (a2r l.length k).bind (l[·]?)with|some d=>Q d|none=>False):=rfl
theorem i_ol:d0w (.own j) (some (.list l)) (some (.int k)) Q=((-1000000≤k∧k≤1000000)∧match (a2r l.length k).bind (l[·]?)with|some d=>Q d|none=>False):=rfl
end
noncomputable def bdD:e1l→Option Int
 |.int i=>some i
 |_=>none
def sl2(a:e1l)(lo hi:Option Int)(Q:e1l→Prop):Prop:=match a with
 |.list l=>l.length≤1000000∧Q (.list (cut l lo hi))
 |.str s=>s.length≤1000000∧Q (.str ⟨(cut s.cps.toList lo hi).toArray⟩)
 |_=>False
theorem sl_l{l:List e1l}{lo hi:Option Int}{Q:e1l→Prop}:sl2 (.list l) lo hi Q=(l.length≤1000000∧Q (.list (cut l lo hi))):=rfl
theorem sl_s{s:Str}{lo hi:Option Int}{Q:e1l→Prop}:sl2 (.str s) lo hi Q=(s.length≤1000000∧Q (.str ⟨(cut s.cps.toList lo hi).toArray⟩)):=rfl
inductive B|len|min|divmod|isint
abbrev e0w(d:e1l)(Q:e1l→Prop):Prop:=match d with
 |.list l=>l.length≤1000000∧Q (.int l.length)
 |.str s=>s.length≤1000000∧Q (.int s.length)
 |_=>False
abbrev e1i(d:e1l)(Q:e1l→Prop):Prop:=match d with
 |.int _=>Q (.bool true)
 |.list _=>Q (.bool false)
 |_=>False
def bi2(b:B)(as:List e1l)(Q:e1l→Prop):Prop:=match b with
 |.len=>on1 as fun d=>e0w d Q
 |.min=>on1 as fun d=>onL d fun l=>match b8h l with|some i=>Q (.int i)|none=>False
 |.divmod=>on2 as fun a b=>onI a fun x=>onI b fun y=>(y≠0∧y.natAbs<2^4000)∧Q (.tuple [.int (x.fdiv y),.int (x.fmod y)])
 |.isint=>on1 as fun d=>e1i d Q
section
variable {x y:Int} {s:Str} {l:List e1l} {Q:e1l→Prop}
theorem f_lenl:bi2 .len [.list l] Q=(l.length≤1000000∧Q (.int l.length)):=rfl
theorem f_lens:bi2 .len [.str s] Q=(s.length≤1000000∧Q (.int s.length)):=rfl
theorem f_min:bi2 .min [.list l] Q=match b8h l with|some i=>Q (.int i)|none=>False:=rfl
theorem f_dm:bi2 .divmod [.int x,.int y] Q=((y≠0∧y.natAbs<2^4000)∧Q (.tuple [.int (x.fdiv y),.int (x.fmod y)])):=rfl
theorem f_ii:bi2 .isint [.int x] Q=Q (.bool true):=rfl
theorem f_il:bi2 .isint [.list l] Q=Q (.bool false):=rfl
end
inductive M|bitlen|join|starts|ends|find|split|index
abbrev meD(m:M)(d:e1l):Prop:=match m with
 |.bitlen=>onI d fun _=>True
 |.index=>onL d fun _=>True
 |_=>onS d fun _=>True
def c4h(m:M)(o:Option e1l):Prop:=match o with|some d=>meD m d|none=>False
section
variable {x:Int} {s:Str} {l:List e1l}
theorem m_bl:c4h .bitlen (some (.int x))=True:=rfl
theorem m_jn:c4h .join (some (.str s))=True:=rfl
theorem m_st:c4h .starts (some (.str s))=True:=rfl
theorem m_en:c4h .ends (some (.str s))=True:=rfl
theorem m_fi:c4h .find (some (.str s))=True:=rfl
theorem m_sp:c4h .split (some (.str s))=True:=rfl
theorem m_ix:c4h .index (some (.list l))=True:=rfl
end
noncomputable def b8g(x y:Str)(a b:Int):Int:=match Builtin.Str.occurrences x y a.toNat b.toNat 1 with
 |i::_=>i
 |[]=>-1
def me2(m:M)(o:e1l)(as:List e1l)(Q:e1l→Prop):Prop:=match m with
 |.bitlen=>onI o fun x=>on0 as (Q (.int (Builtin.Int.intBits x)))
 |.join=>onS o fun s=>on1 as fun d=>onL d fun l=>match b2t l with|some ss=>JoinOk s ss=true∧Q (.str (Txt.join s ss))|none=>False
 |.starts=>onS o fun s=>on1 as fun d=>onS d fun p=>Q (.bool (Txt.startswith s p))
 |.ends=>onS o fun s=>on1 as fun d=>onS d fun p=>Q (.bool (Txt.endswith s p))
 |.find=>onS o fun s=>on3 as fun d e f=>onS d fun p=>onI e fun a=>onI f fun b=>(0≤a∧a≤b∧b≤s.length)∧Q (.int (b8g s p a b))
 |.split=>onS o fun s=>on1 as fun d=>onS d fun p=>(0<p.length∧s.length≤1000000∧(Txt.split s p).length≤1000000)∧Q (.list ((Txt.split s p).map .str))
 |.index=>onL o fun l=>on1 as fun x=>(SeqAt.shaped x=true∧SeqAt.shaped (.list l)=true∧l.length≤1000000)∧match l.findIdx? (fun y=>PyData.eqv y x)with|some i=>Q (.int i)|none=>False
section
variable {x a b:Int} {d:e1l} {s p:Str} {l:List e1l} {Q:e1l→Prop}
theorem g_bl:me2 .bitlen (.int x) [] Q=Q (.int (Builtin.Int.intBits x)):=rfl
theorem g_jn:me2 .join (.str s) [.list l] Q=match b2t l with|some ss=>JoinOk s ss=true∧Q (.str (Txt.join s ss))|none=>False:=rfl
theorem g_st:me2 .starts (.str s) [.str p] Q=Q (.bool (Txt.startswith s p)):=rfl
theorem g_en:me2 .ends (.str s) [.str p] Q=Q (.bool (Txt.endswith s p)):=rfl
theorem g_fi:me2 .find (.str s) [.str p,.int a,.int b] Q=((0≤a∧a≤b∧b≤s.length)∧Q (.int (b8g s p a b))):=rfl
theorem g_sp:me2 .split (.str s) [.str p] Q=((0<p.length∧s.length≤1000000∧(Txt.split s p).length≤1000000)∧Q (.list ((Txt.split s p).map .str))):=rfl
theorem g_ix:me2 .index (.list l) [d] Q=((SeqAt.shaped d=true∧SeqAt.shaped (.list l)=true∧l.length≤1000000)∧match l.findIdx? (fun y=>PyData.eqv y d)with|some i=>Q (.int i)|none=>False):=rfl
end
inductive T|one(i:Nat)|tup (is:List Nat)
set_option genCtorIdx false in
mutual
inductive E
 |int (i:Int)|str (s:Str)|bool (b:Bool)|none
 |var (i:Nat)
 |gint (x:Str) (i:Int)
 |gstr (x:Str) (s:Str)
 |gfn (f:Nat)
 |bin (o:Op2) (a b:E)
 |not (a:E)|neg (a:E)|inv (a:E)
 |and (a b:E)|or (a b:E)
 |cmp (o:Cmp) (a b:E)
 |ite (c t f:E)
 |idx (a i:E)
 |sl (a:E) (lo hi:O)
 |list (es:Es)|tup (es:Es)
 |comp (g:G)
 |call (f:Nat) (as:Es)
 |callKw (f:Nat) (as:Es) (ks:List Str) (kvs:Es)
 |bi (b:B) (as:Es)
 |isint (e:E)
 |me (m:M) (o:E) (as:Es)
 |words (s:Str) (ws:List Str)
 |pop (i:Nat) (e:E)
 |pop0 (i:Nat)
 |next (i:Nat)
 |callV (i f:Nat) (as:Es)
inductive O|none|some(e:E)
inductive Es|nil|cons(e:E)(es:Es)
inductive G
 |elt (e:E)
 |for (t:T) (it:I) (g:G)
 |forIf (t:T) (it:I) (c:E) (g:G)
inductive I
 |over (e:E)|range (a:E)|range2 (a b:E)
 |enum (e:E)|zip (a b:E)|rev (e:E)
end
set_option genCtorIdx false in
mutual
inductive S
 |assign (i:Nat) (e:E)
 |assignOwn (i:Nat) (e:E)
 |assignTup (is:List Nat) (e:E)
 |multi (ms:Ms)
 |setIdx (i:Nat) (ix v:E)
 |augIdx (i:Nat) (ix:E) (o:Op2) (v:E)
 |aug (i:Nat) (o:Op2) (v:E)
 |ifs (c:E) (t f:Ss)
 |ret (e:E)
 |append (i:Nat) (e:E)
 |reverse (i:Nat)
 |delIdx (i:Nat) (k:Int)
 |for (t:T) (it:I) (b:Ss)
 |while (c:E) (b:Ss)
 |assert (c:E)
 |tryStop (pre:List Nat) (i:Nat) (h:Ss)
 |toks (i:Nat)
 |expr (e:E)
 |retNone
 |stuck
inductive Ss|nil|cons(s:S)(ss:Ss)
inductive Ms|nil|own(i:Nat)(e:E)(r:Ms)|iter (i:Nat) (e:E) (r:Ms)
end
noncomputable def T.ids:T→List Nat
 |.one i=>[i]
 |.tup is=>is
noncomputable def G.ids:G→List Nat
 |.elt _=>[]
 |.for t _ g=>t.ids++g.ids
 |.forIf t _ _ g=>t.ids++g.ids
noncomputable def St.clr(st:St)(is:List Nat):St:={ st with vars:=is.foldl (fun vs i=>vs.set i .undef) st.vars }
noncomputable abbrev Spec:=Bool→List Str→List V→List OV→(V→List OV→Prop)→Prop
noncomputable abbrev Ctx:=Nat→Spec
def bindT(t:T)(d:e1l)(st:St)(K:St→Prop):Prop:=match t,d with
 |.one i,d=>K (st.set i (.dat d))
 |.tup is,.tuple ds=>is.length=ds.length∧K ((is.zip ds).foldl (fun st p=>st.set p.1 (.dat p.2)) st)
 |.tup is,.list ds=>is.length=ds.length∧K ((is.zip ds).foldl (fun st p=>st.set p.1 (.dat p.2)) st)
 |_,_=>False
noncomputable def seqD:e1l→Option (List e1l)
 |.list l=>some l
 |.tuple l=>some l
 |_=>none
set_option genInjectivity true in
inductive Fl|next|ret(d:e1l)
noncomputable def a1n(body:e1l→St→List e1l→(List e1l→St→Prop)→Prop):List e1l→St→List e1l→(List e1l→St→Prop)→Prop
 |[],st,acc,K=>K acc st
 |d::ds,st,acc,K=>body d st acc fun acc st=>a1n body ds st acc K
noncomputable def a6f(body:e1l→St→(Fl→St→Prop)→Prop):List e1l→St→(Fl→St→Prop)→Prop
 |[],st,K=>K .next st
 |d::ds,st,K=>body d st fun f st=>match f with
  |.next=>a6f body ds st K
  |.ret r=>K (.ret r) st
noncomputable def a4h(c:St→(Bool→St→Prop)→Prop)(b:St→(Fl→St→Prop)→Prop):Nat→St→(Fl→St→Prop)→Prop
 |0,_,_=>False
 |n+1,st,K=>c st fun t st=>if t=true then b st (fun f st=>match f with
   |.next=>a4h c b n st K
   |.ret r=>K (.ret r) st)else K .next st
def argV(st:St)(v:V)(Q:V→St→Prop):Prop:=match v with
 |.own k=>match st.own[k]? with
  |some (.lst l)=>Q (.dat (.list l)) (st.setOwn k (.froz l))
  |some (.froz l)=>Q (.dat (.list l)) st
  |some (.iter _)=>Q (.own k) st
  |_=>False
 |.undef=>False
 |.twin _=>False
 |v=>Q v st
section
variable (Γ:Ctx) (tk:List (e1l×e1l))
mutual
noncomputable def wpE:E→St→(V→St→Prop)→Prop
 |.int i,st,Q=>Q (.dat (.int i)) st
 |.str s,st,Q=>Q (.dat (.str s)) st
 |.bool b,st,Q=>Q (.dat (.bool b)) st
 |.none,st,Q=>Q (.dat .none) st
 |.var i,st,Q=>match st.get i with
  |.undef=>False
  |v=>Q v st
 |.gint _ i,st,Q=>Q (.dat (.int i)) st
 |.gstr _ s,st,Q=>Q (.dat (.str s)) st
 |.gfn f,st,Q=>Q (.fn f) st
 |.bin o a b,st,Q=>wpE a st fun va st=>wpE b st fun vb st=>match st.dat? va,st.dat? vb with
  |some x,some y=>b2d o x y fun d=>Q (.dat d) st
  |_,_=>False
 |.not a,st,Q=>wpE a st fun v st=>truthV (st.dat? v) fun b=>Q (.dat (.bool !b)) st
 |.neg a,st,Q=>wpE a st fun v st=>match st.dat? v with
  |some (.int i)=>Q (.dat (.int (-i))) st
  |_=>False
 |.inv a,st,Q=>wpE a st fun v st=>match st.dat? v with
  |some (.int i)=>Q (.dat (.int (Builtin.bitNot i))) st
  |_=>False
 |.and a b,st,Q=>wpE a st fun v st=>truthV (st.dat? v) fun t=>if t=true then wpE b st Q else Q v st
 |.or a b,st,Q=>wpE a st fun v st=>truthV (st.dat? v) fun t=>if t=true then Q v st else wpE b st Q
 |.cmp o a b,st,Q=>wpE a st fun va st=>wpE b st fun vb st=>match st.dat? va,st.dat? vb with
  |some x,some y=>b2c o x y fun t=>Q (.dat (.bool t)) st
  |_,_=>False
 |.ite c t f,st,Q=>wpT c st fun b st=>if b=true then wpE t st Q else wpE f st Q
 |.idx a i,st,Q=>wpE a st fun va st=>wpE i st fun vi st=>d0w va (st.dat? va) (st.dat? vi) fun d=>Q (.dat d) st
 |.sl a lo hi,st,Q=>wpE a st fun va st=>wpO lo st fun l st=>wpO hi st fun h st=>match st.dat? va with
  |some d=>sl2 d l h fun d=>Q (.dat d) st
  |none=>False
 |.list es,st,Q=>wpEs es st [] fun ds st=>Q (.dat (.list ds)) st
 |.tup es,st,Q=>wpEs es st [] fun ds st=>Q (.dat (.tuple ds)) st
 |.comp g,st,Q=>wpG g (st.clr g.ids) [] fun acc st'=>Q (.dat (.list acc)) { st' with vars:=st.vars }
 |.call f as,st,Q=>wpAs as st [] fun vs st=>Γ f st.hz [] vs st.own fun v ow=>(∃d,v=.dat d)∧Q v { st with own:=ow }
 |.callKw f as ks kvs,st,Q=>wpAs as st [] fun vs st=>wpRs kvs st [] fun ws st=>Γ f st.hz ks (vs++ws) st.own fun v ow=>(∃d,v=.dat d)∧Q v { st with own:=ow }
 |.bi b as,st,Q=>wpRs as st [] fun vs st=>match st.datAll vs with
  |some ds=>bi2 b ds fun d=>Q (.dat d) st
  |none=>False
 |.isint e,st,Q=>wpE e st fun v st=>match st.dat? v with
  |some d=>bi2 .isint [d] fun r=>Q (.dat r) st
  |none=>False
 |.me m o as,st,Q=>wpE o st fun vo st=>c4h m (st.dat? vo)∧wpRs as st [] fun vs st=>match st.dat? vo,st.datAll vs with
  |some d,some ds=>me2 m d ds fun r=>Q (.dat r) st
  |_,_=>False
 |.words _ ws,st,Q=>Q (.dat (.list (ws.map .str))) st
 |.pop i e,st,Q=>match st.get i with
  |.own k=>(∃l,st.own[k]?=some (.lst l))∧wpE e st fun v st=>match st.dat? v,st.own[k]? with
   |some (.int j),some (.lst l)=>l.length≤1000000∧(-1000000≤j∧j≤1000000)∧match (a2r l.length j)with
    |some n=>match l[n]? with
     |some d=>Q (.dat d) (st.setOwn k (.lst (l.eraseIdx n)))
     |none=>False
    |none=>False
   |_,_=>False
  |_=>False
 |.pop0 i,st,Q=>match st.get i with
  |.own k=>match st.own[k]? with
   |some (.lst l)=>l.length≤1000000∧match l.getLast? with
    |some d=>Q (.dat d) (st.setOwn k (.lst l.dropLast))
    |none=>False
   |_=>False
  |_=>False
 |.next i,st,Q=>match st.get i with
  |.own k=>match st.own[k]? with
   |some (.iter (d::r))=>Q (.dat d) (st.setOwn k (.iter r))
   |_=>False
  |_=>False
 |.callV i f as,st,Q=>match st.get i with
  |.fn f'=>f'=f∧wpAs as st [] fun vs st=>Γ f st.hz [] vs st.own fun v ow=>(∃d,v=.dat d)∧Q v { st with own:=ow }
  |_=>False
noncomputable def wpO:O→St→(Option Int→St→Prop)→Prop
 |.none,st,Q=>Q none st
 |.some e,st,Q=>wpE e st fun v st=>match st.dat? v with
  |some (.int i)=>Q (some i) st
  |_=>False
noncomputable def wpT:E→St→(Bool→St→Prop)→Prop
 |.not a,st,Q=>wpT a st fun b st=>Q (!b) st
 |.and a b,st,Q=>wpT a st fun t st=>if t=true then wpT b st Q else Q false st
 |.or a b,st,Q=>wpT a st fun t st=>if t=true then Q true st else wpT b st Q
 |.cmp o a b,st,Q=>wpE a st fun va st=>wpE b st fun vb st=>match st.dat? va,st.dat? vb with
  |some x,some y=>b2c o x y fun t=>Q t st
  |_,_=>False
 |.var i,st,Q=>truthV (st.dat? (st.get i)) fun b=>Q b st
 |.call f as,st,Q=>wpAs as st [] fun vs st=>Γ f st.hz [] vs st.own fun v ow=>(∃d,v=.dat d)∧truthV (St.dat? { st with own:=ow } v) fun b=>Q b { st with own:=ow }
 |.idx a i,st,Q=>wpE a st fun va st=>wpE i st fun vi st=>d0w va (st.dat? va) (st.dat? vi) fun d=>truthV (st.dat? (.dat d)) fun b=>Q b st
 |.me m o as,st,Q=>wpE o st fun vo st=>c4h m (st.dat? vo)∧wpRs as st [] fun vs st=>match st.dat? vo,st.datAll vs with
  |some d,some ds=>me2 m d ds fun r=>truthV (st.dat? (.dat r)) fun b=>Q b st
  |_,_=>False
 |.bi b as,st,Q=>wpRs as st [] fun vs st=>match st.datAll vs with
  |some ds=>bi2 b ds fun d=>truthV (st.dat? (.dat d)) fun b=>Q b st
  |none=>False
 |.isint e,st,Q=>wpE e st fun v st=>match st.dat? v with
  |some d=>bi2 .isint [d] fun r=>truthV (st.dat? (.dat r)) fun b=>Q b st
  |none=>False
 |.bin o a b,st,Q=>wpE a st fun va st=>wpE b st fun vb st=>match st.dat? va,st.dat? vb with
  |some x,some y=>b2d o x y fun d=>truthV (st.dat? (.dat d)) fun b=>Q b st
  |_,_=>False
 |_,_,_=>False
noncomputable def wpEs:Es→St→List e1l→(List e1l→St→Prop)→Prop
 |.nil,st,acc,Q=>Q acc st
 |.cons e es,st,acc,Q=>wpE e st fun v st=>keepV st v fun d st=>wpEs es st (acc++[d]) Q
noncomputable def wpAs:Es→St→List V→(List V→St→Prop)→Prop
 |.nil,st,acc,Q=>Q acc st
 |.cons e es,st,acc,Q=>wpE e st fun v st=>argV st v fun v st=>wpAs es st (acc++[v]) Q
noncomputable def wpRs:Es→St→List V→(List V→St→Prop)→Prop
 |.nil,st,acc,Q=>Q acc st
 |.cons e es,st,acc,Q=>wpE e st fun v st=>wpRs es st (acc++[v]) Q
noncomputable def wpG:G→St→List e1l→(List e1l→St→Prop)→Prop
 |.elt e,st,acc,K=>wpE e st fun v st=>keepV st v fun d st=>acc.length<1000000∧K (acc++[d]) st
 |.for t it g,st,acc,K=>wpI it st fun ds st=>a1n (fun d st acc K=>bindT t d st fun st=>wpG g st acc K) ds st acc K
 |.forIf t it c g,st,acc,K=>wpI it st fun ds st=>a1n (fun d st acc K=>bindT t d st fun st=>wpT c st fun b st=>if b=true then wpG g st acc K else K acc st) ds st acc K
noncomputable def wpI:I→St→(List e1l→St→Prop)→Prop
 |.over e,st,Q=>wpE e st fun v st=>keepV st v fun d st=>match seqD d with
  |some l=>Q l st
  |none=>False
 |.range a,st,Q=>wpE a st fun v st=>match st.dat? v with
  |some (.int n)=>(-1000000≤n∧n≤1000000)∧Q (b9w 0 n.toNat) st
  |_=>False
 |.range2 a b,st,Q=>wpE a st fun va st=>wpE b st fun vb st=>match st.dat? va,st.dat? vb with
  |some (.int x),some (.int y)=>(-1000000≤x∧x≤1000000 ∧ -1000000≤y∧y≤1000000)∧Q (b9w x (y-x).toNat) st
  |_,_=>False
 |.enum e,st,Q=>wpE e st fun v st=>keepV st v fun d st=>match d with
  |.list l=>l.length≤1000000∧Q (a8v l) st
  |_=>False
 |.zip a b,st,Q=>wpE a st fun va st=>keepV st va fun x st=>wpE b st fun vb st=>keepV st vb fun y st=>match x,y with
  |.list l,.list m=>Q (c1q l m) st
  |_,_=>False
 |.rev e,st,Q=>wpE e st fun v st=>keepV st v fun d st=>match d with
  |.list l=>Q l.reverse st
  |_=>False
end
mutual
noncomputable def wpS:S→St→(Fl→St→Prop)→Prop
 |.assign i e,st,Q=>wpE Γ e st fun v st=>Q .next (st.set i v)
 |.assignOwn i e,st,Q=>wpE Γ e st fun v st=>match v with
  |.dat (.list l)=>Q .next ((st.push (.lst l)).set i (.own st.own.length))
  |_=>False
 |.assignTup is e,st,Q=>wpE Γ e st fun v st=>match (st.dat? v).bind seqD with
  |some ds=>is.length=ds.length∧Q .next ((is.zip ds).foldl (fun st p=>st.set p.1 (.dat p.2)) st)
  |none=>False
 |.multi ms,st,Q=>wpMs ms st [] fun bs st=>Q .next (bs.foldl (fun st p=>st.set p.1 p.2) st)
 |.setIdx i ix e,st,Q=>wpE Γ e st fun v st=>keepV st v fun d st=>match st.get i with
  |.own k=>wpE Γ ix st fun vi st=>match st.dat? vi,st.own[k]? with
   |some (.int j),some (.lst l)=>(0≤j∧j≤1000000)∧j.toNat<l.length∧Q .next (st.setOwn k (.lst (l.set j.toNat d)))
   |_,_=>False
  |_=>False
 |.augIdx i ix o e,st,Q=>match st.get i with
  |.own k=>wpE Γ ix st fun vi st=>match st.dat? vi,st.own[k]? with
   |some (.int j),some (.lst l)=>(0≤j∧j≤1000000)∧match l[j.toNat]? with
    |some d=>wpE Γ e st fun v st=>match st.dat? v,st.own[k]? with
     |some x,some (.lst l)=>j.toNat<l.length∧d0u o d x fun r=>Q .next (st.setOwn k (.lst (l.set j.toNat r)))
     |_,_=>False
    |none=>False
   |_,_=>False
  |_=>False
 |.aug i o e,st,Q=>match st.get i with
  |.dat d=>wpE Γ e st fun v st=>match st.dat? v with
   |some x=>d0u o d x fun r=>Q .next (st.set i (.dat r))
   |none=>False
  |_=>False
 |.ifs c t f,st,Q=>wpT Γ c st fun b st=>if b=true then a1f t st Q else a1f f st Q
 |.ret e,st,Q=>wpE Γ e st fun v st=>keepV st v fun d st=>Q (.ret d) st
 |.append i e,st,Q=>match st.get i with
  |.own k=>(∃l,st.own[k]?=some (.lst l))∧wpE Γ e st fun v st=>keepV st v fun d st=>match st.own[k]? with
   |some (.lst l)=>l.length<1000000∧Q .next (st.setOwn k (.lst (l++[d])))
   |_=>False
  |_=>False
 |.reverse i,st,Q=>match st.get i with
  |.own k=>match st.own[k]? with
   |some (.lst l)=>l.length≤1000000∧Q .next (st.setOwn k (.lst l.reverse))
   |_=>False
  |_=>False
 |.delIdx i j,st,Q=>match st.get i with
  |.own k=>match st.own[k]? with
   |some (.lst l)=>(l.length≤1000000 ∧ -1000000≤j∧j≤1000000)∧match a2r l.length j with
    |some n=>Q .next (st.setOwn k (.lst (l.eraseIdx n)))
    |none=>False
   |_=>False
  |_=>False
 |.for t it b,st,Q=>wpI Γ it st fun ds st=>a6f (fun d st K=>bindT t d st fun st=>a1f b st K) ds st Q
 |.while c b,st,Q=>∃n,a4h (fun st K=>wpT Γ c st K) (fun st K=>a1f b st K) n st Q
 |.assert c,st,Q=>wpT Γ c st fun b st=>b=true∧Q .next st
 |.tryStop pre i h,st,Q=>st.hz=true∧(∀j∈pre,∃v,st.get j=v∧(match v with|.undef=>False|_=>True))∧match st.get i with
  |.own k=>match st.own[k]? with
   |some (.iter [])=>a1f h { st.setOwn k .dead with hz:=false } fun f st=>Q f { st with hz:=true }
   |_=>False
  |_=>False
 |.toks i,st,Q=>Q .next (st.set i (.tab tk))
 |.expr e,st,Q=>wpE Γ e st fun _ st=>Q .next st
 |.retNone,st,Q=>Q (.ret .none) st
 |.stuck,_,_=>False
noncomputable def a1f:Ss→St→(Fl→St→Prop)→Prop
 |.nil,st,Q=>Q .next st
 |.cons s ss,st,Q=>wpS s st fun f st=>match f with
  |.next=>a1f ss st Q
  |.ret d=>Q (.ret d) st
noncomputable def wpMs:Ms→St→List (Nat×V)→(List (Nat×V)→St→Prop)→Prop
 |.nil,st,acc,Q=>Q acc st
 |.own i e r,st,acc,Q=>wpE Γ e st fun v st=>match v with
  |.dat (.list l)=>wpMs r (st.push (.lst l)) (acc++[(i,.own st.own.length)]) Q
  |_=>False
 |.iter i e r,st,acc,Q=>wpE Γ e st fun v st=>keepV st v fun d st=>match d with
  |.list l=>wpMs r (st.push (.iter l)) (acc++[(i,.own st.own.length)]) Q
  |_=>False
end
end
theorem ws1{Γ:Ctx}{st:St}{Q:Fl→St→Prop}:a1f Γ tk .nil st Q=Q .next st:=rfl
theorem ws2{Γ:Ctx}{s:S}{ss:Ss}{st:St}{Q:Fl→St→Prop}:a1f Γ tk (.cons s ss) st Q=wpS Γ tk s st fun f st=>match f with
  |.next=>a1f Γ tk ss st Q
  |.ret d=>Q (.ret d) st:=rfl
theorem wq1{Γ:Ctx}{st:St}{Q:Fl→St→Prop}(h:Q .next st):a1f Γ tk .nil st Q:=h
theorem wq2{Γ:Ctx}{s:S}{ss:Ss}{st:St}{Q:Fl→St→Prop}(h:wpS Γ tk s st fun f st=>match f with
 |.next=>a1f Γ tk ss st Q
 |.ret d=>Q (.ret d) st):a1f Γ tk (.cons s ss) st Q:=h
theorem ifp [Decidable c]{A B:Prop}(h:c)(k:A):if c then A else B:=(if_pos h).symm▸k
theorem ifn [Decidable c]{A B:Prop}(h:¬c)(k:B):if c then A else B:=(if_neg h).symm▸k
@[elab_as_elim] theorem e0c{α:Type}{P:List α→Prop}{l:List α}{n:Nat}(h:l.length=n+1)(k:∀a r,r.length=n→P (a::r)):P l:=List.casesOn (motive:=fun l=>l.length=n+1→P l) l (fun h=>Nat.noConfusion h) (fun a r h=>k a r (Nat.succ.inj h)) h
theorem two{α:Type}{l:List α}(h:l.length=2):∃a b,l=[a,b]:=e0c h fun a _ h=>e0c h fun b r h=>⟨a,b,congrArg (fun r=>a::b::r) (List.eq_nil_of_length_eq_zero h)⟩
theorem ff{P:Prop}(h:false=true):P:=nomatch h
theorem a0b{a b:Bool}(h:(a&&b)=true):a=true:=(Bool.and_eq_true_iff.mp h).1
theorem a0a{a b:Bool}(h:(a&&b)=true):b=true:=(Bool.and_eq_true_iff.mp h).2
noncomputable def isK(k:Nat)(x:Expr):Bool:=Nat.beq x.ctorIdx k
set_option backward.match.sparseCases false in
noncomputable def xN:Expr→Str|.Name y _=>y|_=>⟨#[]⟩
set_option backward.match.sparseCases false in
noncomputable def xs:Expr→List Expr|.BoolOp _ l _=>l|.Compare _ _ l _=>l|.Call _ l _ _=>l|.List l _=>l|.Tuple l _ _=>l|_=>[]
theorem c0l{x:Expr}(h:isK 23 x=true):∃y p,x=.Name y p:=Expr.Name.elim (motive_1:=fun x=>∃y p,x=.Name y p) x (Nat.eq_of_beq_eq_true h) fun y p=>⟨y,p,rfl⟩
theorem d7a{x:Expr}(h:isK 25 x=true):∃l k p,x=.Tuple l k p:=Expr.Tuple.elim (motive_1:=fun x=>∃l k p,x=.Tuple l k p) x (Nat.eq_of_beq_eq_true h) fun l k p=>⟨l,k,p,rfl⟩
end
section
def Sub(g h:Heap):Prop:=∀b o,g.get? b=some o→h.get? b=some o
theorem Sub.refl(g:Heap):Sub g g:=fun _ _ e=>e
theorem Sub.trans{a b c:Heap}(x:Sub a b)(y:Sub b c):Sub a c:=fun d o e=>y d o (x d o e)
def ND (g:Heap):Prop:=∀a o,g.get? a=some o→o.cls=.type "list" →(∃vs n,o.data=.seq vs n)→o.dict=Option.none
def RD(g:Heap)(v:e1n)(d:e1l):Prop:=∃as,Reads g v d as
def RDs(g:Heap)(vs:List e1n)(ds:List e1l):Prop:=∃as,ReadsAll g vs ds as
theorem RD.mono{g g':Heap}(s:Sub g g')(h:RD g v d):RD g' v d:=Exists.imp (fun _=>Reads.keeps s) h
theorem RDs.mono{g g':Heap}(s:Sub g g')(h:RDs g vs ds):RDs g' vs ds:=Exists.imp (fun _=>ReadsAll.keeps s) h
theorem RDs.nil:RDs g [] []:=⟨_,.nil⟩
theorem RDs.cons(h:RD g v d)(t:RDs g vs ds):RDs g (v::vs) (d::ds):=
 Exists.elim h fun _ r=>Exists.elim t fun _ q=>⟨_,.cons r q⟩
theorem RDs.cases{g:Heap}{v:e1n}{vs:List e1n}{ds:List e1l}(h:RDs g (v::vs) ds):∃d r,ds=d::r∧RD g v d∧RDs g vs r:=by
 obtain⟨as,h⟩:=h;cases h with
 |cons a b=>exact⟨_,_,rfl,⟨_,a⟩,⟨_,b⟩⟩
theorem RDs.length:∀{vs:List e1n} {ds:List e1l},RDs g vs ds→vs.length=ds.length
 |[],_,⟨_,h⟩=>by cases h; rfl
 |_::_,_,h=>by obtain⟨d,r,rfl,_,h2⟩:=h.cases; simp[RDs.length h2]
theorem RDs.append:∀{vs ws:List e1n} {ds es:List e1l},RDs g vs ds→RDs g ws es→RDs g (vs++ws) (ds++es)
 |[],_,_,_,⟨_,h⟩=>fun k=>by cases h; exact k
 |_::_,_,_,_,h=>fun k=>by obtain⟨d,r,rfl,h1,h2⟩:=h.cases; exact .cons h1 (RDs.append h2 k)
theorem RDs.one(h:RD g v d):RDs g [v] [d]:=.cons h .nil
theorem RDs.get:∀{vs:List e1n} {ds:List e1l} {k:Nat} {d:e1l},RDs g vs ds→ds[k]?=some d→∃v,vs[k]?=some v∧RD g v d
 |[],_,_,_,⟨_,h⟩=>fun e=>by cases h; simp at e
 |v::vs,_,k,d,h=>fun e=>by
  obtain⟨d',r,rfl,h1,h2⟩:=h.cases;cases k with
  |zero=>simp at e; subst e; exact⟨v,by simp,h1⟩
  |succ k=>simp at e; obtain⟨u,hu,hr⟩:=RDs.get h2 e; exact⟨u,by simpa using hu,hr⟩
theorem RDs.take:∀{vs:List e1n} {ds:List e1l} (n:Nat),RDs g vs ds→RDs g (vs.take n) (ds.take n)
 |[],_,n,⟨_,h⟩=>by cases h; simpa using RDs.nil
 |v::vs,_,n,h=>by
  obtain⟨d',r,rfl,h1,h2⟩:=h.cases;cases n with
  |zero=>simpa using RDs.nil
  |succ n=>simpa using RDs.cons h1 (RDs.take n h2)
theorem RDs.drop:∀{vs:List e1n} {ds:List e1l} (n:Nat),RDs g vs ds→RDs g (vs.drop n) (ds.drop n)
 |[],_,n,⟨_,h⟩=>by cases h; simpa using RDs.nil
 |v::vs,_,n,h=>by
  obtain⟨d',r,rfl,h1,h2⟩:=h.cases;cases n with
  |zero=>simpa using RDs.cons h1 h2
  |succ n=>simpa using RDs.drop n h2
theorem RDs.set:∀{vs:List e1n} {ds:List e1l} {v:e1n} {d:e1l} (n:Nat),RDs g vs ds→RD g v d→RDs g (vs.set n v) (ds.set n d)
 |[],_,_,_,n,⟨_,h⟩=>fun _=>by cases h; simpa using RDs.nil
 |_::_,_,_,_,n,h=>fun k=>by
  obtain⟨d',r,rfl,h1,h2⟩:=h.cases;cases n with
  |zero=>simpa using RDs.cons k h2
  |succ n=>simpa using RDs.cons h1 (RDs.set n h2 k)
theorem RDs.eraseIdx:∀{vs:List e1n} {ds:List e1l} (n:Nat),RDs g vs ds→RDs g (vs.eraseIdx n) (ds.eraseIdx n)
 |[],_,n,⟨_,h⟩=>by cases h; simpa using RDs.nil
 |_::_,_,n,h=>by
  obtain⟨d',r,rfl,h1,h2⟩:=h.cases;cases n with
  |zero=>simpa using h2
  |succ n=>simpa using RDs.cons h1 (RDs.eraseIdx n h2)
theorem RDs.reverse:∀{vs:List e1n} {ds:List e1l},RDs g vs ds→RDs g vs.reverse ds.reverse
 |[],_,⟨_,h⟩=>by cases h; simpa using RDs.nil
 |_::_,_,h=>by
  obtain⟨d',r,rfl,h1,h2⟩:=h.cases;simpa using RDs.append (RDs.reverse h2) (RDs.one h1)
theorem RD.int(i:Int)(t:Tok):RD g (.int i t) (.int i):=⟨_,.int i t⟩
theorem RD.bool(b:Bool):RD g (.bool b) (.bool b):=⟨_,.bool b⟩
theorem RD.str(s:Str)(t:Tok):RD g (.str s t) (.str s):=⟨_,.str s t⟩
theorem RD.none:RD g .none .none:=⟨_,.none⟩
theorem RD.list{a:Addr}{l:List e1l}(h:g.IsList a vs.toArray)(r:RDs g vs l):RD g (.ref a) (.list l):=by
 obtain⟨o,ho,hc,n,hd⟩:=h;obtain⟨as,r⟩:=r;exact⟨_,.list ho hc hd (by simpa using r)⟩
theorem RD.tuple{a:Addr}{l:List e1l}(h:g.IsTuple a vs.toArray)(r:RDs g vs l):RD g (.ref a) (.tuple l):=by
 obtain⟨o,ho,hc,n,hd⟩:=h;obtain⟨as,r⟩:=r;exact⟨_,.tuple ho hc hd (by simpa using r)⟩
theorem RD.intE{i:Int}(h:RD g v (.int i)):∃t,v=.int i t:=by obtain⟨_,h⟩:=h; cases h; exact⟨_,rfl⟩
theorem RD.boolE{b:Bool}(h:RD g v (.bool b)):v=.bool b:=by obtain⟨_,h⟩:=h; cases h; rfl
theorem RD.strE(h:RD g v (.str x)):∃t,v=.str x t:=by obtain⟨_,h⟩:=h; cases h; exact⟨_,rfl⟩
theorem RD.noneE(h:RD g v .none):v=.none:=by obtain⟨_,h⟩:=h; cases h; rfl
theorem RD.listE{l:List e1l}(h:RD g v (.list l)):∃a vs,v=.ref a∧g.IsList a vs.toArray∧RDs g vs l:=by
 obtain⟨_,h⟩:=h;cases h with
 |@list a o vs n xs as ho hc hd r=>exact⟨a,vs.toList,rfl,⟨o,ho,hc,n,by simpa using hd⟩,⟨_,r⟩⟩
theorem RD.tupleE{l:List e1l}(h:RD g v (.tuple l)):∃a vs,v=.ref a∧g.IsTuple a vs.toArray∧RDs g vs l:=by
 obtain⟨_,h⟩:=h;cases h with
 |@tuple a o vs n xs as ho hc hd r=>exact⟨a,vs.toList,rfl,⟨o,ho,hc,n,by simpa using hd⟩,⟨_,r⟩⟩
theorem a0d{g h:Heap}{a:Addr}{vs:Array e1n}(s:Sub g h)(x:g.IsList a vs):h.IsList a vs:=Exists.imp (fun _=>And.imp_left (s _ _)) x
theorem a0t{g h:Heap}{a:Addr}{vs:Array e1n}(s:Sub g h)(x:g.IsTuple a vs):h.IsTuple a vs:=Exists.imp (fun _=>And.imp_left (s _ _)) x
theorem a6v(h:Heap)(p:Addr→Bool):∃g:Heap,g.objs.size=h.objs.size∧∀b,g.get? b=if p b then h.get? b else none:=by
 refine⟨hideAll h ((List.range h.objs.size).filter fun b=>!p b),hideAll_size _ _,fun b=>?_⟩
 by_cases hp:p b=true
 ·rw[if_pos hp]
  cases e:h.get? b with
  |none=>
   cases e':(hideAll h ((List.range h.objs.size).filter fun b=>!p b)).get? b with
   |none=>rfl
   |some o=>rw[of_hideAll _ e']at e; cases e
  |some o=>exact hideAll_get _ e fun hm=>by simp[hp]at hm
 ·rw[if_neg hp]
  by_cases hs:b<h.objs.size
  ·exact hideAll_none _ (List.mem_filter.mpr ⟨List.mem_range.mpr hs,by simpa using hp⟩)
  ·cases e':(hideAll h ((List.range h.objs.size).filter fun b=>!p b)).get? b with
   |none=>rfl
   |some o=>exact absurd (Heap.lt_size (of_hideAll _ e')) hs
theorem b5y {g h:Heap} (s:Sub g h) (a:Addr) (hn:∀o,h.get? a=some o→o.cls=.type "list" →(∃vs n,o.data=.seq vs n)→o.dict=Option.none):∃g':Heap,Sub g g'∧Sub g' h∧g'.get? a=h.get? a∧(∀b,b≠a→g'.get? b=g.get? b)∧(ND g→ND g'):=by
 obtain⟨g',_,e⟩:=a6v h fun b=>(g.get? b).isSome||b==a
 have hb:∀b,b≠a→g'.get? b=g.get? b:=fun b hb=>by
  rw[e b];cases hg:g.get? b with
  |none=>
       have hf:(b==a)=false:=beq_false_of_ne hb;simp[hf]
  |some o=>simp[s b o hg]
 have ha:g'.get? a=h.get? a:=by rw[e a]; simp
 refine⟨g',fun b o hg=>?_,fun b o hg=>?_,ha,hb,fun nd b o e1 e2 e3=>?_⟩
 ·by_cases hba:b=a
  ·subst hba; rw[ha]; exact s _ _ hg
  ·rw[hb b hba]; exact hg
 ·rw[e b]at hg
  split at hg
  ·exact hg
  ·cases hg
 ·by_cases hba:b=a
  ·subst hba; exact hn o (ha▸e1) e2 e3
  ·exact nd b o (hb b hba▸e1) e2 e3
theorem a5o {g h:Heap} (s:Sub g h) (a:Addr) (hn:∀o,h.get? a=some o→o.cls=.type "list" →o.dict=Option.none):∃g':Heap,Sub g g'∧Sub g' h∧g'.get? a=h.get? a∧(∀b,b≠a→g'.get? b=g.get? b)∧(ND g→ND g'):=b5y s a fun o e1 e2 _=>hn o e1 e2
abbrev b9t(o:Obj):Prop:=∀es ep,o.data ≠ .dict es ep
structure Cfg where
 prog:Program
 w:World
 KI:Heap→Prop
 KM:∀g g',Sub g g'→KI g→KI g'
 base:List Addr
 p:Program
 loose:List Str
 mg:Str→Option e1n
 mb:Str→Option e1n
 tabs:List (Addr×Addr)
 fnv:Nat→e1n
 toks:List (e1l×e1l)
 tabOk:Heap→Addr→Obj→Prop
 tabMono:∀g g' P o,Sub g g'→tabOk g P o→tabOk g' P o
structure Cfg.Amb(C:Cfg)(g:Heap):Prop where
 K:C.KI g
 T:TopRead C.p C.loose C.mg C.mb g
theorem Cfg.Amb.mono{C:Cfg}{g g':Heap}(x:C.Amb g)(s:Sub g g'):C.Amb g':=⟨C.KM _ _ s x.K,x.T.keeps s⟩
noncomputable def Cfg.TA(C:Cfg):List Addr:=C.tabs.map (·.2)
def Cfg.Tabs(C:Cfg)(g h:Heap):Prop:=∀P∈C.TA,g.get? P=none∧∃o,h.get? P=some o∧b9t o∧C.tabOk g P o
structure SI where
 names:List (Str×NameKind)
 ids:List (Str×Nat)
 own:List Str
structure EnvOK(sc:SI)(env:Env):Prop where
 kind:env.scope.kind=.function
 names:env.scope.names=sc.names
 globals:env.globals=e1v
 builtins:env.builtins=builtinsNs
theorem EnvOK.kindOf{sc:SI}(e:EnvOK sc env)(x:Str):env.kindOf x=sc.names.lookup x:=by unfold Env.kindOf; rw[e.names]
def Look(env:Env)(h:Heap)(x:Str)(v:e1n):Prop:=
 (env.kindOf x=some .local∧∃m,h.Ns env.locals m∧m x=some v) ∨
 ((env.kindOf x=some .cell∨env.kindOf x=some .free)∧∃c,env.cells.lookup x=some c∧h.IsCell c (some v))
noncomputable def a4o(env:Env):List Addr:=env.locals::env.cells.map (·.2)
def d8j(C:Cfg)(g:Heap)(a:Addr)(kvs:List (e1l×e1l)):Prop:=IntTab C.prog C.w g a kvs
def InV(C:Cfg)(g:Heap)(al:List Addr)(v:e1n):V→Prop
 |.undef=>True
 |.dat d=>RD g v d
 |.own k=>∃a,al[k]?=some a∧v=.ref a
 |.fn f=>v=C.fnv f
 |.tab kvs=>∃a,v=.ref a∧d8j C g a kvs
 |.twin d=>∃a u,v=.ref a∧g.IsTuple a #[u,u]∧RD g u d
def OwnOK(g h:Heap)(a:Addr):OV→Prop
 |.lst l=>g.get? a=none∧∃vs:List e1n,h.PlainList a vs.toArray∧RDs g vs l
 |.froz l=>RD g (.ref a) (.list l)
 |.iter r=>g.get? a=none∧∃(b:Addr) (vs:List e1n) (i:Nat) (l:List e1l),h.IsListIter a b i∧g.IsList b vs.toArray∧RDs g vs l∧r=l.drop i
 |.dead=>g.get? a=none∧∃o,h.get? a=some o∧b9t o
structure Rel(C:Cfg)(sc:SI)(env:Env)(g h:Heap)(al:List Addr)(st:St):Prop where
 sub:Sub g h
 amb:C.Amb g
 nd:ND g
 tabs:C.Tabs g h
 ns:∃m,h.Ns env.locals m
 cell:∀x,sc.names.lookup x=some .cell∨sc.names.lookup x=some .free→∃c v,env.cells.lookup x=some c∧h.IsCell c v
 vars:∀x i,sc.ids.lookup x=some i→(∀u,st.get i=u→u=.undef)∨∃v,Look env h x v∧InV C g al v (st.get i)
 olen:al.length=st.own.length
 own:∀(k:Nat) (o:OV),st.own[k]?=some o→∃a,al[k]?=some a∧OwnOK g h a o
 alnd:al.Nodup
 pnd:(env.locals::env.cells.map (·.2)).Nodup
 pgl:g.get? env.locals=none
 pgc:∀x c,env.kindOf x=some .cell→env.cells.lookup x=some c→g.get? c=none
 plt:∀b∈a4o env,∃o,h.get? b=some o
 pal:∀b∈a4o env,b∉al
 pta:∀b∈a4o env,b∉C.TA
 ata:∀b∈al,b∉C.TA
 base:C.base <+: al
def KeptIn(h:Heap)(b:Addr)(o:Obj):Prop:=∃sl,h.get? b=some { o with slots:=sl } ∧ (b9t o→sl=o.slots)
theorem KeptIn.of{b:Addr}(e:h.get? b=some o):KeptIn h b o:=⟨o.slots,e,fun _=>rfl⟩
theorem KeptIn.exact{h:Heap}{b:Addr}{o:Obj}(k:KeptIn h b o)(hc:b9t o):h.get? b=some o:=by
 obtain⟨sl,e,hs⟩:=k;rw[hs hc]at e;exact e
theorem KeptIn.alive{b:Addr}(k:KeptIn h b o):∃o',h.get? b=some o':=Exists.elim k fun _ h=>⟨_,h.1⟩
theorem KeptIn.none{b:Addr}(k:KeptIn h b o)(e:h.get? b=none):False:=by
 obtain⟨o',ho'⟩:=k.alive; rw[ho']at e; cases e
theorem KeptIn.ns{h h':Heap}(hn:h.Ns L m)(k:∀o,h.get? L=some o→KeptIn h' L o):h'.Ns L m:=by
 obtain⟨o,es,ep,ho,hd,r⟩:=hn;obtain⟨sl,e,_⟩:=k o ho;exact⟨_,es,ep,e,hd,r⟩
theorem KeptIn.cell{h h':Heap}{c:Addr}{v:Option e1n}(hc:h.IsCell c v)(k:∀o,h.get? c=some o→KeptIn h' c o):h'.IsCell c v:=by
 obtain⟨o,ho,hd⟩:=hc;obtain⟨sl,e,_⟩:=k o ho;exact⟨_,e,hd⟩
structure Step(W:List Addr)(s:e1m)(g:Heap)(s':e1m)(g':Heap):Prop where
 same:∃h tk,s'={ s with heap:=h,toks:=tk }
 sub:Sub g g'
 keep:∀b o,b∉W→s.heap.get? b=some o→KeptIn s'.heap b o
 low:Sub g s.heap→Sub g' s'.heap
 fresh:∀b o,b∉W→s.heap.get? b=some o→g.get? b=none→g'.get? b=none
 nd:ND g→ND g'
theorem Step.refl{s:e1m} :Step W s g s g:=⟨⟨s.heap,s.toks,rfl⟩,.refl g,fun _ _ _ e=>.of e,id,fun _ _ _ _ e=>e,id⟩
theorem Step.trans{W W':List Addr}{s s₁ s₂:e1m}{g g₁ g₂:Heap}(x:Step W s g s₁ g₁)(y:Step W' s₁ g₁ s₂ g₂)(hw:∀b∈W',b∈W∨s.heap.get? b=none):Step W s g s₂ g₂ where
 same:=by obtain⟨h,tk,rfl⟩:=x.same; obtain⟨h',tk',rfl⟩:=y.same; exact⟨h',tk',rfl⟩
 sub:=x.sub.trans y.sub
 keep:=fun b o hb e=>by
  have hm:b∉W':=fun hm=>by
   rcases hw b hm with h|h
   ·exact hb h
   ·rw[h]at e; cases e
  obtain⟨sl,e1,h1⟩:=x.keep b o hb e;obtain⟨sl2,e2,h2⟩:=y.keep b _ hm e1;exact⟨sl2,e2,fun hc=>(h2 hc).trans (h1 hc)⟩
 low:=fun h=>y.low (x.low h)
 fresh:=fun b o hb e eg=>by
  have hm:b∉W':=fun hm=>by
   rcases hw b hm with h|h
   ·exact hb h
   ·rw[h]at e; cases e
  obtain⟨o',e1⟩:=(x.keep b o hb e).alive;exact y.fresh b o' hm e1 (x.fresh b o hb e eg)
 nd:=fun h=>y.nd (x.nd h)
theorem Step.tr{s s₁ s₂:e1m}{g g₁ g₂:Heap}(x:Step W s g s₁ g₁)(y:Step W s₁ g₁ s₂ g₂):Step W s g s₂ g₂:=x.trans y fun _ h=>.inl h
theorem Step.mono{W W':List Addr}{s s':e1m}{g g':Heap}(x:Step W s g s' g')(hw:∀b∈W,b∈W'):Step W' s g s' g':=
 ⟨x.same,x.sub,fun b o hb=>x.keep b o fun h=>hb (hw b h),x.low,fun b o hb=>x.fresh b o fun h=>hb (hw b h),x.nd⟩
theorem Step.nil{W':List Addr}{s s':e1m}{g g':Heap}(x:Step [] s g s' g'):Step W' s g s' g':=x.mono fun _ h=>nomatch h
def HOK(A:e1x)(g:Heap):Prop:=A.handled=none∨∃x o vs,A.handled=some (.ref x)∧g.get? x=some o∧o.data=.fields vs∧vs[2]?=some .none
theorem HOK.mono{g g':Heap}(s:Sub g g')(x:HOK A g):HOK A g':=x.imp id (Exists.imp fun _=>Exists.imp fun _=>Exists.imp fun _=>And.imp_right (And.imp_left (s _ _)))
structure AOK(A:e1x)(n:Nat)(hz:Bool)(g:Heap):Prop where
 depth:A.depth+n≤recursionLimit
 units:A.units+4*n+70<cLine
 none:hz=true→A.handled=none
 handled:HOK A g
theorem AOK.mono{n:Nat}{g g':Heap}(x:AOK A n hz g)(s:Sub g g'):AOK A n hz g':=⟨x.depth,x.units,x.none,x.handled.mono s⟩
section
variable {C:Cfg} {sc:SI} {env:Env} {g g' h h':Heap} {al:List Addr} {st:St}
theorem InV.mono{u:V}(s:Sub g g')(x:InV C g al v u):InV C g' al v u:=by
 cases u with
 |undef=>trivial
 |dat d=>exact RD.mono s x
 |own k=>exact x
 |fn f=>exact x
 |tab kvs=>obtain⟨a,e,hd⟩:=x; exact⟨a,e,hd.keep s⟩
 |twin d=>obtain⟨a,u,e,ht,r⟩:=x; exact⟨a,u,e,a0t s ht,r.mono s⟩
theorem Look.mono(l:Look env h x v)(hL:∀o,h.get? env.locals=some o→KeptIn h' env.locals o)
 (hc:∀c o,env.cells.lookup x=some c→h.get? c=some o→KeptIn h' c o):Look env h' x v:=by
 rcases l with⟨hk,m,hn,hm⟩|⟨hk,c,hl,hcell⟩
 ·exact .inl ⟨hk,m,KeptIn.ns hn hL,hm⟩
 ·exact .inr ⟨hk,c,hl,KeptIn.cell hcell fun o ho=>hc c o hl ho⟩
end
end
section
section
variable {C:Cfg} {sc:SI} {env:Env} {g g' h h':Heap} {al:List Addr} {st:St}
theorem OwnOK.keep{a:Addr}{o:OV}(x:OwnOK g h a o)(s:Sub g g')(hk:∀ob,h.get? a=some ob→KeptIn h' a ob)(hg:g.get? a=none→g'.get? a=none):OwnOK g' h' a o:=by
 cases o with
 |lst l=>obtain⟨h1,vs,⟨n,hp⟩,r⟩:=x; exact⟨hg h1,vs,⟨n,(hk _ hp).exact (by intro es ep h; cases h)⟩,r.mono s⟩
 |froz l=>exact RD.mono s x
 |iter r=>
  obtain⟨h1,b,vs,i,l,hi,hl,hr,e⟩:=x;exact⟨hg h1,b,vs,i,l,(by obtain⟨o,ho,hc,hd⟩:=hi; exact⟨o,(hk o ho).exact (by intro es ep; rw[hd]; simp),hc,hd⟩),a0d s hl,hr.mono s,e⟩
 |dead=>obtain⟨h1,o,ho,hn⟩:=x; exact⟨hg h1,o,(hk _ ho).exact hn,hn⟩
theorem RD.alive{a:Addr}(x:RD g (.ref a) d):∃o,g.get? a=some o:=by
 obtain⟨_,x⟩:=x;cases x with
 |list h=>exact⟨_,h⟩
 |tuple h=>exact⟨_,h⟩
 |dict h=>exact⟨_,h⟩
theorem OwnOK.alive{a:Addr}{o:OV}(s:Sub g h)(x:OwnOK g h a o):∃ob,h.get? a=some ob:=by
 cases o with
 |lst l=>obtain⟨_,vs,⟨n,hp⟩,_⟩:=x; exact⟨_,hp⟩
 |froz l=>obtain⟨o,ho⟩:=RD.alive x; exact⟨o,s _ _ ho⟩
 |iter r=>obtain⟨_,b,vs,i,l,⟨o,ho,_⟩,_⟩:=x; exact⟨o,ho⟩
 |dead=>obtain⟨_,o,ho,_⟩:=x; exact⟨o,ho⟩
theorem Rel.alh(R:Rel C sc env g h al st)(a:Addr)(ha:a∈al):∃o,h.get? a=some o:=by
 obtain⟨k,hk,e⟩:=List.getElem_of_mem ha;have hk':k<st.own.length:=R.olen▸hk;obtain⟨a',ha',q⟩:=R.own k _ (List.getElem?_eq_getElem hk');rw[List.getElem?_eq_getElem hk,e]at ha';cases ha';exact q.alive R.sub
theorem Cfg.Tabs.keep(x:C.Tabs g h)(s:Sub g g')(hk:∀P∈C.TA,∀ob,h.get? P=some ob→KeptIn h' P ob)(hg:∀P∈C.TA,g'.get? P=none):C.Tabs g' h':=fun P hP=>by
 obtain⟨h1,o,ho,hc,r⟩:=x P hP;exact⟨hg P hP,o,(hk P hP o ho).exact hc,hc,C.tabMono _ _ _ _ s r⟩
theorem Rel.up(R:Rel C sc env g h al st){ow:List OV}(sg:Sub g g')(nd:ND g')(sh:Sub g' h')(tb:C.Tabs g' h')
 (hk:∀b o,b∉al++C.TA→h.get? b=some o→KeptIn h' b o) (hp:∀b∈a4o env,g.get? b=none→g'.get? b=none)
 (ol:al.length=ow.length) (own:∀(k:Nat) (o:OV),ow[k]?=some o→∃a,al[k]?=some a∧OwnOK g' h' a o):Rel C sc env g' h' al { st with own:=ow } where
 sub:=sh
 amb:=R.amb.mono sg
 nd:=nd
 tabs:=tb
 ns:=by
  obtain⟨m,hm⟩:=R.ns;exact⟨m,KeptIn.ns hm fun o e=>hk _ o (by simp only[List.mem_append,not_or]; exact⟨R.pal _ (.head _),R.pta _ (.head _)⟩) e⟩
 cell:=fun x hx=>by
  obtain⟨c,v,hc,hcell⟩:=R.cell x hx;have hm:c∈a4o env:=List.mem_cons_of_mem _ (List.mem_map.mpr ⟨(x,c),e1r hc,rfl⟩);exact⟨c,v,hc,KeptIn.cell hcell fun o ho=>hk c o (by simp only[List.mem_append,not_or]; exact⟨R.pal _ hm,R.pta _ hm⟩) ho⟩
 vars:=fun x i hi=>by
  rcases R.vars x i hi with hu|⟨v,hl,hv⟩
  ·exact .inl hu
  ·refine .inr ⟨v,hl.mono (fun o e=>hk _ o (by simp only[List.mem_append,not_or]; exact⟨R.pal _ (.head _),R.pta _ (.head _)⟩) e) (fun c o hc e=>?_),hv.mono sg⟩
   have hm:c∈a4o env:=List.mem_cons_of_mem _ (List.mem_map.mpr ⟨(x,c),e1r hc,rfl⟩);exact hk c o (by simp only[List.mem_append,not_or]; exact⟨R.pal _ hm,R.pta _ hm⟩) e
 olen:=ol
 own:=own
 alnd:=R.alnd
 pnd:=R.pnd
 pgl:=hp _ (.head _) R.pgl
 pgc:=fun x c hk hc=>hp _ (List.mem_cons_of_mem _ (List.mem_map.mpr ⟨_,e1r hc,rfl⟩)) (R.pgc x c hk hc)
 plt:=fun b hb=>(R.plt b hb).elim fun o ho=>(hk b o (by simp only[List.mem_append,not_or]; exact⟨R.pal _ hb,R.pta _ hb⟩) ho).alive
 pal:=R.pal
 pta:=R.pta
 ata:=R.ata
 base:=R.base
theorem Rel.pfresh{s s':e1m}(R:Rel C sc env g s.heap al st)(x:Step W s g s' g')(hw:∀b∈W,b∈al∨b∈C.TA):∀b∈a4o env,g.get? b=none→g'.get? b=none:=fun b hb hg=>by
 obtain⟨o,ho⟩:=R.plt b hb;exact x.fresh b o (fun hm=>(hw b hm).elim (R.pal b hb) (R.pta b hb)) ho hg
theorem Rel.step{s s':e1m}(R:Rel C sc env g s.heap al st)(x:Step [] s g s' g')(sh:Sub g' s'.heap):Rel C sc env g' s'.heap al st:=by
 have hk:∀b o,s.heap.get? b=some o→KeptIn s'.heap b o:=fun b o=>x.keep b o (by simp)
 refine R.up x.sub (x.nd R.nd) sh (R.tabs.keep x.sub (fun P _ ob=>hk P ob) fun P hP=>?_) (fun b o _=>hk b o) (R.pfresh x fun b hb=>by simp at hb) R.olen fun k o e=>?_
 ·obtain⟨h1,o,ho,_⟩:=R.tabs P hP
  exact x.fresh P o (by simp) ho h1
 ·obtain⟨a,ha,q⟩:=R.own k o e
  obtain⟨ob,hob⟩:=q.alive R.sub;exact⟨a,ha,q.keep x.sub (fun ob=>hk a ob) (x.fresh a ob (by simp) hob)⟩
theorem Step.toks{W:List Addr}{s:e1m}{g:Heap}{t:Nat}:Step W s g { s with toks:=t } g:=⟨⟨s.heap,t,rfl⟩,.refl g,fun _ _ _ e=>.of e,id,fun _ _ _ _ e=>e,id⟩
theorem Step.grow {s:e1m} {g h':Heap} {tk:Nat} {a:Addr} (sg:Sub g s.heap) (hk:Sub s.heap h') (ha:s.heap.get? a=none) (hn:∀o,h'.get? a=some o→o.cls=.type "list" →o.dict=Option.none) :
  ∃g',Step [] s g { s with heap:=h',toks:=tk } g'∧Sub g' h'∧g'.get? a=h'.get? a:=by
 obtain⟨g',h1,h2,h3,h4,h5⟩:=a5o (sg.trans hk) a hn;exact⟨g',⟨⟨h',tk,rfl⟩,h1,fun b o _ e=>.of (hk b o e),fun _=>h2,fun b o _ hb e=>(h4 b fun q=>by rw[q,ha]at hb; cases hb).trans e,h5⟩,h2,h3⟩
theorem Step.ext{s:e1m}{g h':Heap}{tk:Nat}(hk:Sub s.heap h'):Step [] s g { s with heap:=h',toks:=tk } g:=
 ⟨⟨h',tk,rfl⟩,.refl g,fun b o _ e=>.of (hk b o e),fun h=>h.trans hk,fun _ _ _ _ e=>e,id⟩
theorem a0f{h:Heap}(o:Obj):Sub h (h.push o):=fun _ _ e=>Heap.get?_push_of_some _ e
theorem Rel.turn{s s':e1m}(R:Rel C sc env g s.heap al st)(x:Step W s g s' g')(sh:Sub g' s'.heap){k:Nat}{a:Addr}{o':OV}(ha:al[k]?=some a)(hW:∀b∈W,b=a)
 (ho:OwnOK g' s'.heap a o'):Rel C sc env g' s'.heap al (st.setOwn k o'):=by
 have hne:∀b,b≠a→b∉W:=fun b hb hm=>hb (hW b hm);have ham:=List.mem_of_getElem? ha;refine R.up x.sub (x.nd R.nd) sh (R.tabs.keep x.sub (fun P hP ob=>x.keep P ob (hne P fun q=>R.ata a ham (q▸hP))) fun P hP=>?_)
  (fun b o hb=>x.keep b o (hne b fun q=>hb (List.mem_append_left _ (q▸ham)))) (R.pfresh x fun b hb=>.inl (hW b hb▸ham)) (by simpa using R.olen) fun j o e=>?_
 ·obtain⟨h1,o,ho,_⟩:=R.tabs P hP
  exact x.fresh P o (hne P fun q=>R.ata a ham (q▸hP)) ho h1
 ·rw[List.getElem?_set]at e
  split at e
  ·rename_i hkj
   subst hkj
   split at e
   ·cases e; exact⟨a,ha,ho⟩
   ·cases e
  ·rename_i hkj
   obtain⟨b,hb,q⟩:=R.own j o e;have hba:b≠a:=fun q'=>by
    subst q';obtain⟨h1,e1⟩:=List.getElem?_eq_some_iff.mp ha;obtain⟨h2,e2⟩:=List.getElem?_eq_some_iff.mp hb;exact hkj ((List.getElem_inj (h₀:=h1) (h₁:=h2) R.alnd).mp (e1.trans e2.symm))
   obtain⟨ob,hob⟩:=q.alive R.sub;exact⟨b,hb,q.keep x.sub (fun ob=>x.keep b ob (hne b hba)) (x.fresh b ob (hne b hba) hob)⟩
theorem Rel.freezeOwn{s:e1m}(R:Rel C sc env g s.heap al st){k:Nat}{l:List e1l}(e:st.own[k]?=some (.lst l)) :
  ∃a g',al[k]?=some a∧Step [a] s g s g'∧RD g' (.ref a) (.list l)∧Rel C sc env g' s.heap al (st.setOwn k (.froz l)):=by
 obtain⟨a,ha,h1,vs,⟨n,hp⟩,r⟩:=R.own k _ e;obtain⟨g',s1,s2,s3,s4,s5⟩:=a5o R.sub a (fun o e _=>by rw[hp]at e; cases e; rfl)
 have x:Step [a] s g s g':=⟨⟨s.heap,s.toks,rfl⟩,s1,fun _ _ _ e=>.of e,fun _=>s2,fun b o hb _ e=>(s4 b (by simpa using hb)).trans e,s5⟩
 have rd:RD g' (.ref a) (.list l):=RD.list ⟨_,s3.trans hp,rfl,n,rfl⟩ (r.mono s1);exact⟨a,g',ha,x,rd,R.turn x s2 ha (by simp) rd⟩
theorem Rel.keepV{s:e1m}(R:Rel C sc env g s.heap al st){u:V}(hv:InV C g al v u){Q:e1l→St→Prop}(h:keepV st u Q) :
  ∃d st' g',st'.vars=st.vars∧Q d st'∧RD g' v d∧Step (al++C.TA) s g s g'∧Rel C sc env g' s.heap al st':=by
 cases u with
 |dat d=>exact⟨d,st,g,rfl,h,hv,.refl,R⟩
 |own k=>
  obtain⟨a,ha,rfl⟩:=hv;dsimp only[Mw.Internal.keepV]at h;cases e:st.own[k]? with
  |none=>rw[e]at h; exact h.elim
  |some o=>
   rw[e]at h;cases o with
   |lst l=>
    obtain⟨a',g',ha',x,rd,R'⟩:=R.freezeOwn e;rw[ha]at ha'; cases ha';exact⟨_,st.setOwn k (.froz l),g',rfl,h,rd,x.mono fun b hb=>by simp at hb; subst hb; exact List.mem_append_left _ (List.mem_of_getElem? ha),R'⟩
   |froz l=>
    obtain⟨a',ha',q⟩:=R.own k _ e;rw[ha]at ha'; cases ha';exact⟨_,_,g,rfl,h,q,.refl,R⟩
   |_=>exact h.elim
 |_=>exact h.elim
theorem Rel.argV{s:e1m}(R:Rel C sc env g s.heap al st){u:V}(hv:InV C g al v u){Q:V→St→Prop}(h:argV st u Q) :
  ∃d st' g',st'.vars=st.vars∧Q d st'∧InV C g' al v d∧Step (al++C.TA) s g s g'∧Rel C sc env g' s.heap al st':=by
 cases u with
 |own k=>
  obtain⟨a,ha,rfl⟩:=hv;dsimp only[Mw.Internal.argV]at h;cases e:st.own[k]? with
  |none=>rw[e]at h; exact h.elim
  |some o=>
   rw[e]at h;cases o with
   |lst l=>
    obtain⟨a',g',ha',x,rd,R'⟩:=R.freezeOwn e;rw[ha]at ha'; cases ha';exact⟨.dat (.list l),st.setOwn k (.froz l),g',rfl,h,rd,x.mono fun b hb=>by simp at hb; subst hb; exact List.mem_append_left _ (List.mem_of_getElem? ha),R'⟩
   |froz l=>
    obtain⟨a',ha',q⟩:=R.own k _ e;rw[ha]at ha'; cases ha';exact⟨.dat (.list l),_,g,rfl,h,q,.refl,R⟩
   |iter _=>exact⟨_,_,g,rfl,h,⟨a,ha,rfl⟩,.refl,R⟩
   |dead=>exact h.elim
 |undef=>exact h.elim
 |twin _=>exact h.elim
 |dat d=>exact⟨_,st,g,rfl,h,hv,.refl,R⟩
 |fn d=>exact⟨_,st,g,rfl,h,hv,.refl,R⟩
 |tab d=>exact⟨_,st,g,rfl,h,hv,.refl,R⟩
def RDH(g h:Heap)(v:e1n):e1l→Prop
 |.list l=>∃a vs,v=.ref a∧h.IsList a (List.toArray vs)∧RDs g vs l
 |d=>RD g v d
theorem RDH.rd{g h:Heap}(s:Sub g h)(x:RDH g h v d):RD h v d:=by
 cases d with
 |list l=>obtain⟨a,vs,rfl,hl,r⟩:=x; exact RD.list hl (r.mono s)
 |_=>exact RD.mono s x
theorem RDH.of{g h:Heap}(s:Sub g h)(x:RD g v d):RDH g h v d:=by
 cases d with
 |list l=>obtain⟨a,vs,rfl,hl,r⟩:=x.listE; exact⟨a,vs,rfl,a0d s hl,r⟩
 |_=>exact x
theorem Rel.dat?(R:Rel C sc env g h al st){u:V}(hv:InV C g al v u)(e:st.dat? u=some d):RDH g h v d:=by
 cases u with
 |dat d'=>exact Option.some.inj e ▸ .of R.sub hv
 |own k=>
  obtain⟨a,ha,rfl⟩:=hv;dsimp only[St.dat?]at e;cases e':st.own[k]? with
  |none=>rw[e']at e; exact nomatch e
  |some o=>
   rw[e']at e;cases o with
   |lst l=>
    obtain⟨a',ha',_,vs,⟨n,hp⟩,r⟩:=R.own k _ e';rw[ha]at ha'; cases ha';exact Option.some.inj e▸⟨a,vs,rfl,⟨_,hp,rfl,n,rfl⟩,r⟩
   |froz l=>
    obtain⟨a',ha',q⟩:=R.own k _ e';rw[ha]at ha'; cases ha';exact Option.some.inj e ▸ .of R.sub q
   |_=>exact nomatch e
 |_=>cases e
end
end
section
noncomputable def c5o:Op2→Operator
 |.add=>.Add|.sub=>.Sub|.mul=>.Mult|.fdiv=>.FloorDiv|.mod=>.Mod|.pow=>.Pow|.shl=>.LShift|.shr=>.RShift
 |.band=>.BitAnd|.bor=>.BitOr|.bxor=>.BitXor
section
variable {C:Cfg} {A:e1x} {E:e1n→e1m→Prop} {s:e1m} {g:Heap}
def To(C:Cfg)(A:e1x)(E:e1n→e1m→Prop)(g:Heap)(s:e1m)(t:Sem e1n)(d:e1l):Prop:=
 ∀Q:e1n→e1m→Prop,(∀v s' g',Step [] s g s' g'→Sub g' s'.heap→RD g' v d→Q v s')→e1p (model C.prog C.w) A t Q E s
def ToF(C:Cfg)(A:e1x)(E:e1n→e1m→Prop)(g:Heap)(s:e1m)(t:Sem e1n)(l:List e1l):Prop:=
 ∀Q:e1n→e1m→Prop,(∀a vs h' tk,Sub s.heap h'→s.heap.get? a=none→h'.PlainList a (List.toArray vs)→RDs g vs l→Q (.ref a) { s with heap:=h',toks:=tk })→e1p (model C.prog C.w) A t Q E s
theorem ToF.to{t:Sem e1n}{l:List e1l}(sg:Sub g s.heap)(x:ToF C A E g s t l):To C A E g s t (.list l):=fun Q h=>by
 refine x Q fun a vs h' tk hk ha ⟨n,hp⟩ r=>?_;obtain⟨g',x1,x2,x3⟩:=Step.grow (tk:=tk) sg hk ha (fun o e _=>by rw[hp]at e; cases e; rfl)
 exact h _ _ g' x1 x2 (RD.list ⟨_,x3.trans hp,rfl,n,rfl⟩ (r.mono x1.sub))
theorem a0e(h:Heap):h.get? h.objs.size=none:=by
 cases e:h.get? h.objs.size with
 |none=>rfl
 |some o=>exact absurd (Heap.lt_size e) (Nat.lt_irrefl _)
theorem To.k{t:Sem e1n}{d:e1l}(sg:Sub g s.heap)(h:∀Q:e1n→e1m→Prop,(∀v k,RD g v d→Q v { s with toks:=k })→e1p (model C.prog C.w) A t Q E s):To C A E g s t d:=
 fun Q hQ=>h Q fun v k r=>hQ v _ g .toks sg r
theorem To.kh{t:Sem e1n}(sg:Sub g s.heap)(h:∀Q:e1n→e1m→Prop,(∀v h' k,Sub s.heap h'→RD g v d→Q v { s with heap:=h',toks:=k })→e1p (model C.prog C.w) A t Q E s):To C A E g s t d:=
 fun Q hQ=>h Q fun v h' k hk r=>hQ v _ g (.ext hk) (sg.trans hk) r
theorem b9k{l b:Addr}{vs ws:List e1n}{ds es:List e1l}(hl:s.heap.IsList l vs.toArray)(hb:s.heap.IsList b ws.toArray)(r:RDs g vs ds)(q:RDs g ws es)
 (hsz:ds.length+es.length≤1000000):ToF C A E g s (binaryOp .Add (.ref l) (.ref b)) (ds++es):=fun Q h=>by
 obtain⟨⟨cls,dd,data,sl⟩,ho,hc,n,hd⟩:=id hl;obtain⟨⟨cls2,dd2,data2,sl2⟩,ho2,hc2,n2,hd2⟩:=id hb;simp only at hc hd hc2 hd2;subst hc hd hc2 hd2;have e:vs.toArray++ws.toArray=(vs++ws).toArray:=by simp
 have hz:vs.length+ws.length≤e2f:=by rw[r.length,q.length]; exact Nat.le_trans hsz (by decide)
 refine concat_meets ⟨_,ho,rfl⟩ ⟨_,ho2,rfl⟩ noFill_list_add seq_list_add PySem.F.slot_list_add PySem.F.entry_list_add (PySem.F.args_list_add_2 _ _) (list_addW l b vs.toArray ws.toArray n n2 dd dd2 sl sl2 (by simpa using hz)) ⟨ho,ho2,?_⟩
 rw[e];exact h _ _ _ s.toks (a0f _) (a0e _) ⟨0,Heap.get?_push_size _ rfl⟩ (r.append q)
theorem RDs.rep(r:RDs g vs ds):∀n:Nat,RDs g (List.replicate n vs).flatten (List.replicate n ds).flatten
 |0=>by simpa using RDs.nil
 |n+1=>by simpa[List.replicate_succ]using r.append (RDs.rep r n)
theorem b3u{l:Addr}{x:Int}{u:Tok}(hl:s.heap.IsList l vs.toArray)(r:RDs g vs ds)(h0:0≤x)(hsz:ds.length*x.toNat≤1000000)(hx:x<2^63) :
  ToF C A E g s (binaryOp .Mult (.ref l) (.int x u)) (List.replicate x.toNat ds).flatten:=fun Q h=>by
 obtain⟨⟨cls,d,data,sl⟩,ho,hcl,k,hd⟩:=id hl;simp only at hcl hd;subst hcl hd;have hsz':vs.toArray.size*x.toNat≤2^24:=by have:=r.length; simp only[List.size_toArray,this]; omega
 refine wpAny_binaryOp_repeat_ref (T:="list") (U:="int") (by decide) ⟨_,ho,rfl⟩ (fun s'=>typeIs_int s' x u) noFill_list_mul F.fills_int_mul F.slot_int_rmul repeat_list F.slot_int_index.lookup
  (call_meets F.slot_int_rmul (typeIs_int s x u) F.entry_int_rmul (F.args_int_rmul_2 _ _) (lm_int_rmul_list_any x u l vs.toArray k d sl)
   ⟨ho,rfl,⟨_,ho,rfl⟩,call_meets F.slot_list_mul ⟨_,ho,rfl⟩ F.entry_list_mul (F.args_list_mul_2 _ _)
    (lm_list_mul_any l vs.toArray k d sl x u (by simp[Builtin.List.listFitsIndex]; exact lc2 1 [] [_] (.a (.l (.z (Int.neg 9223372036854775808)) Z0) (.t Z0 (.z 9223372036854775808))) (.l (.z 0) Z0) (.t Z0 (.z (Int.pow 2 63))) h0 hx) (by omega) (by simp[Builtin.List.listTooLong,e2f]; omega))
    ⟨ho,?_⟩⟩)
 refine h _ (List.replicate x.toNat vs).flatten _ s.toks (a0f _) (a0e _) ⟨0,?_⟩ (r.rep _);rw[←listMul_foldl_if];exact Heap.get?_push_size _ rfl
theorem a4l{x:Int}{n:Nat}(hx:x.natAbs<2^n):Builtin.Int.intBits x≤n:=by
 unfold Builtin.Int.intBits;split
 ·exact Nat.zero_le _
 ·rename_i h
  have h0:x.natAbs≠0:=by intro e; apply h; simp[Int.natAbs_eq_zero.mp e]
  exact(Nat.log2_lt h0).mpr hx
theorem b0b{y:Int}{n:Nat}(hn:0<n)(hy:y.natAbs<2^n):y.natAbs.log2<n:=by
 by_cases h0:y.natAbs=0
 ·rw[h0]; simpa using hn
 ·exact(Nat.log2_lt h0).mpr hy
theorem b8e{o:Op2}{a b:e1n}{x y:Int}{Q:e1l→Prop}(sg:Sub g s.heap)(ha:RDH g s.heap a (.int x))(hb:RDH g s.heap b (.int y))(h:e0l o x y Q) :
  ∃d,Q d∧To C A E g s (binaryOp (c5o o) a b) d:=by
 obtain⟨t,rfl⟩:=RD.intE ha; obtain⟨u,rfl⟩:=RD.intE hb;have kk {Q:e1n→e1m→Prop} {i:Int} {t:Tok} {k:Nat} (hQ:∀v k,RD g v (.int i)→Q v { s with toks:=k }):Q (.int i t) { s with toks:=k }:=hQ _ _ (.int _ _)
 cases o with
 |add=>exact⟨_,h,.k sg fun Q hQ=>add_int (kk hQ)⟩
 |sub=>exact⟨_,h,.k sg fun Q hQ=>sub_int (kk hQ)⟩
 |mul=>exact⟨_,h.2,.k sg fun Q hQ=>mul_int (kk hQ) (h.1.elim (fun e=>.of_left (a4l e)) fun e=>.of_right (a4l e))⟩
 |fdiv=>exact⟨_,h.2,.k sg fun Q hQ=>floordiv_int h.1.1 (kk hQ) (.inl (PyProof.noPylong_of_log2 (Nat.lt_of_lt_of_le (b0b (n:=4000) (by decide) h.1.2) (by decide))))⟩
 |mod=>exact⟨_,h.2,.k sg fun Q hQ=>mod_int' h.1 (kk hQ)⟩
 |pow=>exact⟨_,h.2,.k sg fun Q hQ=>pow_int_small h.1.1 (by have:=h.1.2.1; omega) h.1.2.2 (kk hQ)⟩
 |shl=>exact⟨_,h.2,.k sg fun Q hQ=>lshift_int h.1.1 (by have:=a4l h.1.2.2; have:=h.1.2.1; omega) (kk hQ)⟩
 |shr=>exact⟨_,h.2,.k sg fun Q hQ=>rshift_int h.1 (kk hQ)⟩
 |band=>exact⟨_,h,.k sg fun Q hQ=>and_int (kk hQ)⟩
 |bor=>exact⟨_,h,.k sg fun Q hQ=>or_int (kk hQ)⟩
 |bxor=>exact⟨_,h,.k sg fun Q hQ=>xor_int (kk hQ)⟩
theorem b8d{o:Op2}{a b:e1n}{x y:e1l}{Q:e1l→Prop}(sg:Sub g s.heap)(ha:RDH g s.heap a x)(hb:RDH g s.heap b y)(h:b2d o x y Q) :
  ∃d,Q d∧To C A E g s (binaryOp (c5o o) a b) d:=by
 cases x with
 |int x=>
  cases y with
  |int y=>exact b8e sg ha hb h
  |bool y=>
   obtain⟨rfl,h1⟩:=b9y h; obtain⟨t,rfl⟩:=RD.intE ha; obtain rfl:=RD.boolE hb;exact⟨_,h1,.k sg fun Q hQ=>IntBool.mul_int_bool (hQ _ _ (.int _ _))⟩
  |_=>exact h.elim
 |str x=>
  obtain⟨y,rfl,h1⟩:=a8y h; obtain⟨rfl,h2⟩:=c0y h1; obtain⟨t,rfl⟩:=RD.strE ha; obtain⟨u,rfl⟩:=RD.strE hb;exact⟨_,h2.2,.k sg fun Q hQ=>add_str (fun t' tk=>hQ _ _ (.str _ _)) h2.1⟩
 |list x=>
  obtain⟨l,vs,rfl,hl,r⟩:=ha;cases y with
  |list y=>obtain⟨rfl,h1⟩:=c0y h; obtain⟨m,ws,rfl,hm,q⟩:=hb; exact⟨_,h1.2,(b9k hl hm r q h1.1).to sg⟩
  |int y=>obtain⟨rfl,⟨h1,h2,h3⟩,h4⟩:=b9y h; obtain⟨u,rfl⟩:=RD.intE hb; exact⟨_,h4,(b3u hl r h1 h3 (by exact a6c (.t Z0 (.z (Int.pow 2 63))) (.l Z0 (.z 1000000)) h2)).to sg⟩
  |_=>exact h.elim
 |_=>exact h.elim
end
section
variable {C:Cfg} {A:e1x} {E:e1n→e1m→Prop} {s:e1m} {g:Heap}
theorem a4r{Q:Bool→Prop}(hv:RDH g s.heap v d)(h:a5d d Q) :
  ∃b,Q b∧∀R:Bool→e1m→Prop,(∀k,R b { s with toks:=k })→e1p (model C.prog C.w) A (truthy v) R E s:=by
 cases d with
 |none=>obtain rfl:=RD.noneE hv; exact⟨_,h,fun R hR=>truthy_none (hR s.toks)⟩
 |bool b=>obtain rfl:=RD.boolE hv; exact⟨_,h,fun R hR=>wpAny_truthy_bool (hR s.toks)⟩
 |int i=>obtain⟨t,rfl⟩:=RD.intE hv; exact⟨_,h,fun R hR=>truthy_int (hR s.toks)⟩
 |str x=>
  obtain⟨t,rfl⟩:=RD.strE hv;exact⟨_,h.2,fun R hR=>P.truthy_str (by have:=h.1; exact a0o (.n (.l (.z (Int.pow 2 63)) (.c N0))) (.l N0 (.k 1000000)) this) (hR _)⟩
 |list l=>
  obtain⟨a,vs,rfl,hl,r⟩:=hv;refine⟨_,h.2,fun R hR=>wpAny_truthy_list hl (by have:=h.1; rw[List.size_toArray,r.length]; omega) ?_⟩
  have e:(!vs.toArray.isEmpty)=((l.length:Int) != 0):=by
   rw[←r.length];cases vs <;> rfl
  rw[e]; exact hR _
 |_=>exact h.elim
theorem c1l{Q:Bool→Prop}(sg:Sub g s.heap)(hv:RDH g s.heap v d)(h:a5d d Q):∃b,Q b∧To C A E g s (unaryOp .Not v) (.bool !b):=by
 obtain⟨b,hb,k⟩:=a4r (C:=C) (A:=A) (E:=E) hv h;exact⟨b,hb,.k sg fun Q hQ=>not_of (k _ fun t=>hQ _ t (.bool _))⟩
theorem c0g{i:Int}(sg:Sub g s.heap)(hv:RDH g s.heap v (.int i)):To C A E g s (unaryOp .USub v) (.int (-i)):=by
 obtain⟨t,rfl⟩:=RD.intE hv; exact .k sg fun Q hQ=>neg_int (hQ _ _ (.int _ _))
theorem c3h{i:Int}(sg:Sub g s.heap)(hv:RDH g s.heap v (.int i)):To C A E g s (unaryOp .Invert v) (.int (Builtin.bitNot i)):=by
 obtain⟨t,rfl⟩:=RD.intE hv; exact .k sg fun Q hQ=>invert_int (hQ _ _ (.int _ _))
noncomputable def a9a:Cmp→CmpOp
 |.eq=>.Eq|.lt=>.Lt|.le=>.LtE|.gt=>.Gt|.ge=>.GtE|.is=>.Is|.isin=>.In|.notin=>.NotIn
theorem a9c{l:List e1l}(h:SeqAt.shaped (.list l)=true):PyData.canLayAll0 l=true∧PyData.depthAll l≤63:=by
 have h1:=SeqAt.canLay_of_shaped h;have h2:=SeqAt.depth_of_shaped h;simp only[PyData.canLay0]at h1;simp only[PyData.depth]at h2;exact⟨h1,by exact a0o (.l N0 (.k 63)) (.l (.p N0 O1) (.k 64)) h2⟩
theorem b6b{l:List e1l}(h:SeqAt.shaped (.tuple l)=true):PyData.canLayAll0 l=true∧PyData.depthAll l≤63:=by
 have h1:=SeqAt.canLay_of_shaped h;have h2:=SeqAt.depth_of_shaped h;simp only[PyData.canLay0]at h1;simp only[PyData.depth]at h2;exact⟨h1,by exact a0o (.l N0 (.k 63)) (.l (.p N0 O1) (.k 64)) h2⟩
theorem a5y(h:SeqAt.shaped d=true):d.canLay0=true:=by
 unfold SeqAt.shaped at h;simp only[Bool.and_eq_true]at h;exact h.1
theorem a4m{o:Cmp}{a b:e1n}{x y:e1l}{p:Int→Int→Bool}{Q:Bool→Prop}(sg:Sub g s.heap)(ha:RDH g s.heap a x)(hb:RDH g s.heap b y)(h:onI x fun x=>onI y fun y=>Q (p x y))
 (k:∀{x y:Int} {t u:Tok} {Q:e1n→e1m→Prop},Q (.bool (p x y)) s→e1p (model C.prog C.w) A (compareOp (a9a o) (.int x t) (.int y u)) Q E s) :
  ∃t,Q t∧To C A E g s (compareOp (a9a o) a b) (.bool t):=by
 obtain⟨x,rfl,h1⟩:=a7z h; obtain⟨y,rfl,h2⟩:=a7z h1;obtain⟨t,rfl⟩:=RD.intE ha; obtain⟨u,rfl⟩:=RD.intE hb;exact⟨_,h2,.k sg fun Q hQ=>k (hQ _ s.toks (.bool _))⟩
theorem c5z{g:Heap}{a:e1n}{x:e1l}{as:List Addr}(r:Reads g a x as):(a==Value.none)=b5n x:=by cases r <;> rfl
theorem a9t{o:Cmp}{a b:e1n}{x y:e1l}{Q:Bool→Prop}{n:Nat}(ok:AOK A n hz g)(sg:Sub g s.heap)(ha:RDH g s.heap a x)(hb:RDH g s.heap b y)(h:b2c o x y Q) :
  ∃t,Q t∧To C A E g s (compareOp (a9a o) a b) (.bool t):=by
 have hu:A.units+64<cLine:=by have:=ok.units; exact a2c (.t (.p N0 (.k 64)) N1) (.t (.p (.p N0 (.m 0 4 N2)) (.k 70)) N1) this
 obtain⟨as,ra⟩:=ha.rd sg; obtain⟨bs,rb⟩:=hb.rd sg;have fin {t:Bool} {m:Sem e1n} (hm:∀{Q:e1n→e1m→Prop},Q (.bool t) s→e1p (model C.prog C.w) A m Q E s):To C A E g s m (.bool t):=.k sg fun Q hQ=>hm (hQ _ s.toks (.bool _));cases o with
 |eq=>
  have gen (h:(SeqAt.shaped x=true∧SeqAt.shaped y=true)∧Q (PyData.eqv x y)):∃t,Q t∧To C A E g s (compareOp .Eq a b) (.bool t):=⟨_,h.2,fin (eq_dataH ra rb h.1.1 h.1.2 hu)⟩;cases x with
  |int x=>
   cases y with
   |int y=>obtain⟨t,rfl⟩:=RD.intE ha; obtain⟨u,rfl⟩:=RD.intE hb; exact⟨_,h,fin eq_int⟩
   |_=>exact gen h
  |str x=>
   cases y with
   |str y=>obtain⟨t,rfl⟩:=RD.strE ha; obtain⟨u,rfl⟩:=RD.strE hb; exact⟨_,h,fin eq_str⟩
   |_=>exact gen h
  |_=>exact gen h
 |lt=>exact a4m (o:=.lt) sg ha hb h lt_int
 |le=>exact a4m (o:=.le) sg ha hb h le_int
 |gt=>exact a4m (o:=.gt) sg ha hb h gt_int
 |ge=>exact a4m (o:=.ge) sg ha hb h ge_int
 |is=>
  cases y with
  |none=>
   obtain rfl:=RD.noneE hb;have e:=c5z ra;exact⟨_,h,.k sg fun Q hQ=>is_none_gen (e▸hQ _ s.toks (.bool _))⟩
  |bool y=>obtain⟨x,rfl,h1⟩:=d8f h; obtain rfl:=RD.boolE ha; obtain rfl:=RD.boolE hb; exact⟨_,h1,fin is_bool⟩
  |_=>exact h.elim
 |isin=>
  cases y with
  |str y=>obtain⟨x,rfl,h1⟩:=a8y h; obtain⟨t,rfl⟩:=RD.strE ha; obtain⟨u,rfl⟩:=RD.strE hb; exact⟨_,h1,fin SB.contains⟩
  |list l=>have h3:=a9c h.1.2; exact⟨_,h.2,fin (SeqAt.in_list_reads rb ra h3.1 (a5y h.1.1) (by exact b2a (.t (.p (.p N0 O1) (.b 2 N1 N2)) N3) (.t (.p N0 (.k 64)) N3) (.l N1 (.k 63)) hu h3.2))⟩
  |_=>exact h.elim
 |notin=>
  cases y with
  |str y=>obtain⟨x,rfl,h1⟩:=a8y h; obtain⟨t,rfl⟩:=RD.strE ha; obtain⟨u,rfl⟩:=RD.strE hb; exact⟨_,h1,fin SB.notContains⟩
  |tuple l=>have h3:=b6b h.1.2; exact⟨_,h.2,fin (SeqAt.notIn_tuple_reads rb ra h3.1 (a5y h.1.1) (by exact b2a (.t (.p (.p N0 O1) (.b 2 N1 N2)) N3) (.t (.p N0 (.k 64)) N3) (.l N1 (.k 63)) hu h3.2))⟩
  |_=>exact h.elim
end
end
section
section
variable {C:Cfg} {A:e1x} {E:e1n→e1m→Prop} {s:e1m} {g:Heap}
theorem a7g{value slice:Expr}{o i:e1n}{T id:String}{Q:e1n→e1m→Prop}(hT:s.TypeIs o T)
 (hl:typeLookup (.type T) "__getitem__" = pure (some (.builtin id))) (h:e1p (model C.prog C.w) A (getItem o i) Q E s):e1p (model C.prog C.w) A (subscriptTail value slice o i) Q E s:=by
 unfold subscriptTail;refine e1k ?_;rw[getitemInPython_of_ne hT.not_modules];refine e1k (wpAny_specialOf hT hl ?_);have fin:∀vs,e1p (model C.prog C.w) A (operate vs (getItem o i)) (fun r s₃=>e1p (model C.prog C.w) A (letTemporaryGo value o r >>= fun _=>pure r) Q E s₃) E s:=fun vs=>
  wpAny_operating (e1w h (fun r s₃ h₃=>e1k (wpAny_letTemporaryGo (e1o h₃))) fun _ _ x=>x)
 have e:subscripted slice false o i=operate [o,i] (getItem o i)∨subscripted slice false o i=operate [i,o] (getItem o i):=by
  cases slice with
  |Slice l u st p=>cases st <;> first|exact .inl rfl|exact .inr rfl
  |_=>first|exact .inl rfl|exact .inr rfl
 refine e1o (e1k ?_)
 rcases e with e|e <;> (first|rw[e]|(show e1p _ _ (subscripted slice false o i) _ _ _; rw[e])) <;> exact fin _
theorem c3l{n:Nat}{k:Int}(h:a2r n k=some j):(0≤k∧k.toNat=j∧j<n)∨(k<0 ∧ -(n:Int)≤k∧(k+n).toNat=j∧j<n):=by
 unfold a2r at h
 split at h
 ·split at h
  ·cases h; exact .inl ⟨by assumption,rfl,by assumption⟩
  ·cases h
 ·split at h
  ·cases h; exact .inr ⟨by exact a6c (.t Z0 (.z 0)) (.n (.l (.z 0) Z0)) ‹_›,by assumption,rfl,by omega⟩
  ·cases h
theorem a3k(k:Int)(n:Nat):seqIndex? k n=a2r n k:=by
 have e (i:Int):(decide (0≤i)&&decide (i<n))=true ↔ 0≤i∧i<n:=by rw[Bool.and_eq_true,decide_eq_true_eq,decide_eq_true_eq]
 unfold seqIndex? a2r
 by_cases h0:k<0
 ·rw[if_pos h0,if_neg (show ¬0≤k by exact a6c (.n (.l (.z 0) Z0)) (.t Z0 (.z 0)) h0)]
  by_cases h1:-(n:Int)≤k
  ·rw[if_pos h1]; exact if_pos ((e _).mpr (by exact lc2 1 [_] [_] (.a (.l (.z 0) (.P Z0 (.c N0))) (.t (.P Z0 (.c N0)) (.c N0))) (.t Z0 (.z 0)) (.l (.N (.c N0)) Z0) h0 h1))
  ·rw[if_neg h1]; exact if_neg fun h=>h1 (by have:=(e _).mp h; omega)
 ·rw[if_neg h0,if_pos (show 0≤k by exact a6c (.l (.z 0) Z0) (.n (.t Z0 (.z 0))) h0)]
  by_cases h1:k.toNat<n
  ·rw[if_pos h1]; exact if_pos ((e _).mpr (by exact lc2 1 [_] [_] (.a (.l (.z 0) Z0) (.t Z0 (.c N0))) (.n (.t Z0 (.z 0))) (.t (.u 0 Z0) N0) h0 h1))
  ·rw[if_neg h1]; exact if_neg fun h=>h1 (by have:=(e _).mp h; omega)
theorem c0n{va:V}{al:List Addr}{a i:e1n}{x y:Option e1l}{Q:e1l→Prop}{value slice:Expr}(sg:Sub g s.heap)(hva:InV C g al a va)
 (ha:∀d,x=some d→RDH g s.heap a d) (hi:∀d,y=some d→RDH g s.heap i d) (h:d0w va x y Q) :
  ∃d,Q d∧To C A E g s (subscriptTail value slice a i) d:=by
 cases y with
 |none=>exact h.elim
 |some y=>
 obtain⟨k,rfl,h0⟩:=a7z h;obtain⟨t,rfl⟩:=RD.intE (hi _ rfl);have gen (h:atO x k Q):∃d,Q d∧To C A E g s (subscriptTail value slice a (.int k t)) d:=by
  cases x with
  |none=>exact h.elim
  |some x=>
  have ha:=ha _ rfl;cases x with
  |list l=>
   obtain⟨b,vs,rfl,hl,r⟩:=ha;obtain⟨hb,h⟩:=h;cases hd:(a2r l.length k).bind (l[·]?)with
   |none=>rw[hd]at h; exact h.elim
   |some d=>
    rw[hd]at h;obtain⟨j,hj,hd⟩:=Option.bind_eq_some_iff.mp hd;obtain⟨v,hv,rv⟩:=r.get hd;refine⟨_,h,.k sg fun Q hQ=>a7g hl.typeIs list_getitem_lookup ?_⟩;have hlen:=r.length
    rcases c3l hj with⟨h0,h1,_⟩|⟨h0,h1,h2,_⟩
    ·exact wpAny_getItem_list hl h0 (by exact a6c (.t Z0 (.z (Int.pow 2 63))) (.a (.l (.z (Int.neg 1000000)) Z0) (.l Z0 (.z 1000000))) hb) (x:=v) (by rw[h1,List.getElem?_toArray]; exact hv) (hQ _ s.toks rv)
    ·exact wpAny_getItem_list_neg hl h0 (by rw[List.size_toArray,hlen]; exact h1) (by exact a6c (.l (.z (- (2^63))) Z0) (.a (.l (.z (Int.neg 1000000)) Z0) (.l Z0 (.z 1000000))) hb) (x:=v) (by rw[List.size_toArray,hlen,h2,List.getElem?_toArray]; exact hv) (hQ _ s.toks rv)
  |tuple l=>
   obtain⟨b,vs,rfl,hl,r⟩:=RD.tupleE ha;obtain⟨hb,h⟩:=h;cases hd:(a2r l.length k).bind (l[·]?)with
   |none=>rw[hd]at h; exact h.elim
   |some d=>
    rw[hd]at h;obtain⟨j,hj,hd⟩:=Option.bind_eq_some_iff.mp hd;obtain⟨v,hv,rv⟩:=r.get hd;have hl':=a0t sg hl;refine⟨_,h,.k sg fun Q hQ=>a7g (T:="tuple") hl'.typeIs slot_tuple_getitem.lookup (getItem_tuple hl' (by omega) (by omega) (j:=j) ?_ (x:=v) (List.getElem?_toArray.trans hv) (hQ _ s.toks rv))⟩
    rw[List.size_toArray,r.length,a3k]; exact hj
  |_=>exact h.elim
 cases va with
 |tab kvs=>
  obtain⟨d,rfl,ht⟩:=hva;have h0:match Spec.lookup (.int k) kvs with|some (.str s)=>Q (.str s)|_=>False:=h0
  cases hx:Spec.lookup (.int k) kvs with
  |none=>rw[hx]at h0; exact h0.elim
  |some d=>
   rw[hx]at h0;obtain⟨x,rfl,h1⟩:=a8y (K:=fun s=>Q (.str s)) (d:=d) (by cases d <;> exact h0)
   refine⟨_,h1,.k sg fun Q hQ=>?_⟩;obtain⟨_,kvs',hd,_⟩:=ht.keep sg;refine a7g hd.typeIs slot_dict_getitem.lookup (getItem_tab (knd:=intKind _ _) (enc:=PyData.int) PyProof.V.same_int (intKind_is _ _ _ _) (ht.keep sg) hx fun v hv=>?_);exact hQ _ _ ⟨_,hv g⟩
 |_=>exact gen h0
theorem c4v(n:Nat)(i:Int):max 0 (min (if i<0 then i+(n:Int)else i) (n:Int))=(c4g n i:Int)∧c4g n i≤n:=by
 unfold c4g
 by_cases h:i<0
 ·have h1:i+(n:Int)≤n:=by have:=Int.add_le_add_right (Int.le_of_lt h) (n:Int); rwa[Int.zero_add]at this
  rw[if_pos h,if_neg (Int.not_le.mpr h),Int.min_eq_left h1,Int.max_comm,Int.toNat_eq_max];exact⟨rfl,Int.toNat_le.mpr h1⟩
 ·rw[if_neg h,if_pos (Int.not_lt.mp h)]
  obtain⟨k,rfl⟩:=Int.eq_ofNat_of_zero_le (Int.not_lt.mp h);rw[Int.toNat_natCast]
  rcases Nat.le_total k n with hk|hk
  ·rw[Nat.min_eq_left hk,Int.min_eq_left (Int.ofNat_le.mpr hk),Int.max_eq_right (Int.natCast_nonneg _)]; exact⟨rfl,hk⟩
  ·rw[Nat.min_eq_right hk,Int.min_eq_right (Int.ofNat_le.mpr hk),Int.max_eq_right (Int.natCast_nonneg _)]; exact⟨rfl,Nat.le_refl _⟩
theorem a9j(n:Nat)(lo hi:Option Int):∃a b:Nat,a≤n∧b≤n∧(sliceBounds lo hi none n).1=(a:Int)∧(sliceBounds lo hi none n).2.1=(b:Int)∧∀{α:Type} {l:List α},l.length=n→cut l lo hi=(l.take b).drop a:=by
 refine⟨lo.elim 0 (c4g n),hi.elim n (c4g n),?_,?_,?_,?_,fun h=>?_⟩
 ·cases lo with
  |none=>exact Nat.zero_le _
  |some i=>exact(c4v n i).2
 ·cases hi with
  |none=>exact Nat.le_refl _
  |some i=>exact(c4v n i).2
 ·cases lo with
  |none=>rfl
  |some i=>exact(c4v n i).1
 ·cases hi with
  |none=>rfl
  |some i=>exact(c4v n i).1
 ·subst h; cases lo <;> cases hi <;> rfl
theorem d1t(a b:Nat):(if (1:Int)>0 then(if (a:Int)<b then((b:Int)-a+1-1)/1 else 0)else(if (a:Int)>b then((a:Int)-b-1-1)/(-1)else 0)).toNat=b-a:=by
 rw[if_pos (by decide)]
 by_cases h:(a:Int)<b
 ·rw[if_pos h,Int.add_sub_cancel,Int.ediv_one,Int.toNat_sub]
 ·rw[if_neg h,Nat.sub_eq_zero_of_le (Int.ofNat_le.mp (Int.not_lt.mp h))]; rfl
theorem d0x(a k:Nat):((a:Int)+1*(k:Int)).toNat=a+k:=by rw[Int.one_mul]; rfl
theorem range_one(a b:Nat):sliceRange (a:Int) (b:Int) 1=(List.range (b-a)).map fun k=>a+k:=by
 unfold sliceRange;dsimp only;rw[d1t];exact List.map_congr_left fun k _=>d0x a k
theorem b6u{α:Type}(l:List α)(lo hi:Option Int) :
  (sliceRange (sliceBounds lo hi none l.length).1 (sliceBounds lo hi none l.length).2.1 1).filterMap (l[·]?)=cut l lo hi:=by
 obtain⟨a,b,ha,hb,e1,e2,e3⟩:=a9j l.length lo hi;rw[e1,e2,e3 rfl,range_one]
 by_cases hab:a≤b
 ·rw[StrLaws.picks l (b-a) a (by exact a2a (.l (.p N0 (.s N1 N0)) N2) (.l N0 N2) (.l N1 N2) ha hb),List.drop_take]
 ·rw[Nat.sub_eq_zero_of_le (by exact a1b (.l N0 N1) (.n (.l N1 N0)) hab),List.drop_eq_nil_of_le (by rw[List.length_take]; exact a2c (.l (.b 2 N0 N1) N2) (.n (.l N2 N0)) hab)]; rfl
theorem c4w{α:Type}(l:List α)(lo hi:Option Int):(sliceRange (sliceBounds lo hi none l.length).1 (sliceBounds lo hi none l.length).2.1 1).length=(cut l lo hi).length:=by
 obtain⟨a,b,ha,hb,e1,e2,e3⟩:=a9j l.length lo hi;rw[e1,e2,e3 rfl,range_one,List.length_map,List.length_range,List.length_drop,List.length_take,Nat.min_eq_left hb]
theorem RDs.cut{vs:List e1n}{ds:List e1l}(r:RDs g vs ds)(lo hi:Option Int):RDs g (cut vs lo hi) (cut ds lo hi):=by
 unfold Mw.Internal.cut;rw[r.length];exact(r.take _).drop _
end
end
section
section
variable {C:Cfg} {A:e1x} {E:e1n→e1m→Prop} {s:e1m} {g:Heap}
def PartV(v:e1n):Option Int→Prop
 |none=>v=.none
 |some i=>∃t,v=.int i t
theorem PartV.is{o:Option Int}(h:PartV v o):IsPart v o:=by
 cases o with
 |none=>cases h; exact .none
 |some i=>obtain⟨t,rfl⟩:=h; exact .int i t
theorem b8s(x:Str)(lo hi:Option Int):Txt.slice x lo hi=⟨(cut x.cps.toList lo hi).toArray⟩:=by
 have e:Builtin.Str.strSliceIndices lo hi 1 x.length=sliceRange (sliceBounds lo hi none x.cps.toList.length).1 (sliceBounds lo hi none x.cps.toList.length).2.1 1:=by
  cases lo <;> cases hi <;> rfl
 have key:(Builtin.Str.strSliceIndices lo hi 1 x.length).filterMap (x.cps[·]?)=cut x.cps.toList lo hi:=by
  rw[←b6u x.cps.toList lo hi,e];simp only[Array.getElem?_toList]
 unfold Txt.slice;split
 ·rename_i hl
  have hl:((Builtin.Str.strSliceIndices lo hi 1 x.length).length==x.length)=true:=hl;have h1:=beq_iff_eq.mp hl;have hs:(cut x.cps.toList lo hi).Sublist x.cps.toList:=(List.drop_sublist _ _).trans (List.take_sublist _ _);rw[hs.eq_of_length ?_];rw[e,c4w]at h1;exact h1
 ·rw[key]
theorem PartV.pv{o:Option Int}(h:PartV v o):∃l:Option (Int×Tok),v=partValue l∧o=l.map (·.1):=by
 cases o with
 |none=>cases h; exact⟨none,rfl,rfl⟩
 |some i=>obtain⟨u,rfl⟩:=h; exact⟨some (i,u),rfl,rfl⟩
theorem c5j{a vl vu:e1n}{lo hi:Option Int}{Q:e1l→Prop}{value slice:Expr}(sg:Sub g s.heap)(ha:RDH g s.heap a d)(pl:PartV vl lo)(pu:PartV vu hi)(h:sl2 d lo hi Q) :
  ∃r,Q r∧∀R:e1n→e1m→Prop,(∀v s' g',Step [] s g s' g'→Sub g' s'.heap→RD g' v r→R v s')→
   e1p (model C.prog C.w) A (subscriptTail value slice a (.ref s.heap.objs.size)) R E { s with heap:=s.heap.push { cls:=.type "slice",data:=.fields #[vl,vu,.none] } }:=by
 cases d with
 |list l=>
  obtain⟨l,vs,rfl,hl,r⟩:=ha;have hl':(s.heap.push { cls:=.type "slice",data:=.fields #[vl,vu,.none] }).IsList l vs.toArray:=a0d (a0f _) hl;refine⟨_,h.2,fun R hR=>a7g (s:={ s with heap:=s.heap.push _ }) (T:="list") hl'.typeIs list_getitem_lookup
   (wpAny_getItem_list_slice hl' (Heap.IsSliceOf.new ..) pl.is pu.is .none (by simp) ?_ (by have:=r.length; simp only[List.size_toArray,this]; exact Nat.le_trans h.1 (by decide)))⟩
  have hsub:Sub s.heap ((s.heap.push { cls:=.type "slice",data:=.fields #[vl,vu,.none] }).push { cls:=.type "list",data:=.seq (slicePick vs.toArray lo hi none) }):=(a0f _).trans (a0f _);have hnew:s.heap.get? (s.heap.objs.size+1)=none:=by
   cases e:s.heap.get? (s.heap.objs.size+1)with
   |none=>rfl
   |some o=>exact absurd (Heap.lt_size e) (Nat.not_lt.mpr (Nat.le_succ _))
  have hget:=Heap.get?_push_size (s.heap.push { cls:=.type "slice",data:=.fields #[vl,vu,.none] }) (o:={ cls:=.type "list",data:=.seq (slicePick vs.toArray lo hi none) }) rfl;rw[Heap.size_push]at hget;obtain⟨g',x1,x2,x3⟩:=Step.grow (tk:=s.toks) (g:=g) sg hsub hnew (fun o e _=>by rw[hget]at e; cases e; rfl)
  refine hR _ _ g' (by simpa[Heap.size_push]using x1) x2 ?_
  have e:slicePick vs.toArray lo hi none=(cut vs lo hi).toArray:=by
   unfold slicePick
   have:=b6u vs lo hi
   simp only[List.size_toArray,List.getElem?_toArray]at *;have e2:(sliceBounds lo hi none vs.length).2.2=1:=rfl;rw[e2,this]
  dsimp only;rw[Heap.size_push];exact RD.list ⟨_,x3.trans hget,rfl,0,by rw[e]⟩ ((r.mono x1.sub).cut lo hi)
 |str x=>
  obtain⟨t,rfl⟩:=RD.strE ha;have hx:x.length≤e2f:=Nat.le_trans h.1 (by decide)
  refine⟨_,h.2,fun R hR=>?_⟩;have fin:∀h' t' k,Sub s.heap h'→R (.str (Txt.slice x lo hi) t') { s with heap:=h',toks:=k }:=fun h' t' k hs=>by
   rw[b8s];exact hR _ _ g (.ext (tk:=k) hs) (sg.trans hs) (.str _ _)
  obtain⟨l,rfl,rfl⟩:=pl.pv;obtain⟨u,rfl,rfl⟩:=pu.pv;exact a7g (T:="str") (typeIs_str _ _ _) F.slot_str_getitem.lookup (wpAny_getItem_str_slice (l:=l) (u:=u) (st:=none) ⟨_,Heap.get?_push_size _ rfl,rfl,rfl⟩ rfl
   (post_val_or_str ⟨Nat.le_trans (Txt.slice_le x _ _) hx,fun t' k=>fin _ t' k (a0f _)⟩))
 |_=>exact h.elim
noncomputable def d8z:B→e1n
 |.len=>.builtin "len" |.min=>.builtin "min"
 |.divmod=>.builtin "divmod" |.isint=>.builtin "isinstance"
noncomputable def biX:B→List e1n|.isint=>[.type "int"]|_=>[]
inductive RDHs(g h:Heap):List e1n→List e1l→Prop
 |nil:RDHs g h [] []
 |cons {v:e1n} {d:e1l} {vs:List e1n} {ds:List e1l}:RDH g h v d→RDHs g h vs ds→RDHs g h (v::vs) (d::ds)
theorem RDHs.one(x:RDHs g h vs [d]):∃v,vs=[v]∧RDH g h v d:=by cases x with|cons a b=>cases b; exact⟨_,rfl,a⟩
theorem RDHs.two{d e:e1l}(x:RDHs g h vs [d,e]):∃v u,vs=[v,u]∧RDH g h v d∧RDH g h u e:=by
 cases x with|cons a b=>obtain⟨u,rfl,hu⟩:=b.one; exact⟨_,u,rfl,a,hu⟩
theorem RDHs.none(x:RDHs g h vs []):vs=[]:=by cases x; rfl
theorem c9q{l:List e1l}(r:RDs g vs l)(hi:∀d∈l,∃j:Int,d=.int j):∃xs:Array (Int×Tok),vs.toArray=intItems xs∧l=xs.toList.map fun p=>PyData.int p.1:=by
 induction vs generalizing l with
 |nil=>obtain⟨_,r⟩:=r; cases r; exact⟨#[],by simp[intItems],by simp⟩
 |cons v vs ih=>
  obtain⟨d,l',rfl,h1,h2⟩:=r.cases;obtain⟨j,rfl⟩:=hi _ (.head _);obtain⟨t,rfl⟩:=h1.intE;obtain⟨xs,e1,e2⟩:=ih h2 fun d hd=>hi d (.tail _ hd);refine⟨#[(j,t)]++xs,?_,by simp[e2]⟩
  have:(Value.int j t::vs).toArray=#[Value.int j t]++vs.toArray:=by simp
  rw[this,e1]; simp[intItems]
theorem b4e{xs:Array (Int×Tok)}(hj:j<xs.size):numAt xs j=(xs[j]'hj).1:=by simp[numAt,hj]
theorem c2k{f:List e1l→Option Int}(h1:∀d r i,f (d::r)=some i→(∃j:Int,d=.int j)∧(r=[]∨∃k,f r=some k)):∀{l:List e1l} {i:Int},f l=some i→∀d∈l,∃j:Int,d=.int j
 |[],_,_=>fun _ hd=>nomatch hd
 |d::r,i,h=>fun e he=>by
  obtain⟨h2,h3⟩:=h1 d r i h;cases he with
  |head=>exact h2
  |tail _ he=>exact h3.elim (fun h=>by subst h; cases he) fun h=>h.elim fun k hk=>c2k h1 hk e he
theorem b3p{r:List e1l}{i:Int}(h:b8h (d::r)=some i):∃p:Int,d=.int p∧((r=[]∧i=p)∨∃k,b8h r=some k∧min p k=i):=by
 cases d with
 |int p=>
  cases r with
  |nil=>cases h; exact⟨_,rfl,.inl ⟨rfl,rfl⟩⟩
  |cons q l=>exact⟨_,rfl,.inr (Option.map_eq_some_iff.mp h)⟩
 |_=>cases h
theorem c7m{l:List e1l}{i:Int}:b8h l=some i→∀d∈l,∃j:Int,d=.int j:=
 c2k fun _ _ _ h=>(b3p h).elim fun p h=>⟨⟨p,h.1⟩,h.2.imp And.left (Exists.imp fun _=>And.left)⟩
theorem b6o{f:List e1l→Option Int}{R:Int→Int→Prop}(tr:∀{a b c},R a b→R b c→R a c)(rf:∀a,R a a)
  (h1:∀d r i,f (d::r)=some i→∃p:Int,d=.int p∧((r=[]∧i=p)∨∃k,f r=some k∧(i=p∨i=k)∧R i p∧R i k)) (h0:∀i,f []≠some i) :
  ∀{l:List (Int×Tok)} {i:Int},f (l.map fun p=>PyData.int p.1)=some i→i∈l.map (·.1)∧∀j∈l.map (·.1),R i j
 |[],i,h=>absurd h (h0 i)
 |p::l,i,h=>by
  obtain⟨_,e,h2|⟨k,hk,he,hp,hq⟩⟩:=h1 _ _ _ h <;> cases e
  ·obtain⟨e,rfl⟩:=h2
   cases l with
   |nil=>exact⟨.head _,fun j hj=>by cases List.mem_singleton.mp hj; exact rf _⟩
   |cons _ _=>cases e
  ·obtain⟨h3,h4⟩:=b6o (R:=R) tr rf h1 h0 hk
   refine⟨?_,fun j hj=>?_⟩
   ·rcases he with e|e <;> rw[e]
    ·exact .head _
    ·exact .tail _ h3
   ·cases hj with
    |head=>exact hp
    |tail _ hj=>exact tr hq (h4 j hj)
theorem c2w{l:List (Int×Tok)}{i:Int}:b8h (l.map fun p=>PyData.int p.1)=some i→i∈l.map (·.1)∧∀j∈l.map (·.1),i≤j:=
 b6o (R:=fun a b=>a≤b) (fun h g=>Int.le_trans h g) Int.le_refl (fun _ _ _ h=>(b3p h).imp fun p=>And.imp_right (Or.imp id (Exists.imp fun k=>And.imp_right fun e=>by exact lc1 3 [] [_,_,_] (.a (.b 1 (.e Z0 Z1) (.e Z0 Z2)) (.a (.l Z0 Z1) (.l Z0 Z2))) (.e (.d 2 Z1 Z2) Z0) e))) fun _ h=>nomatch h
theorem RDHs.one'{K:e1l→Prop}(x:RDHs g h vs ds)(k:on1 ds K):∃v d,vs=[v]∧RDH g h v d∧K d:=by
 obtain⟨d,rfl,k⟩:=d4t k; obtain⟨v,rfl,hv⟩:=x.one; exact⟨v,d,rfl,hv,k⟩
theorem RDHs.int2{K:Int→Int→Prop}(x:RDHs g h vs ds)(k:on2 ds fun a b=>onI a fun x=>onI b fun y=>K x y):∃x y t u,vs=[.int x t,.int y u]∧K x y:=by
 obtain⟨d,e,rfl,k⟩:=d4e k; obtain⟨i,rfl,k⟩:=a7z k; obtain⟨j,rfl,k⟩:=a7z k;obtain⟨v,u,rfl,hv,hu⟩:=x.two; obtain⟨t,rfl⟩:=RD.intE hv; obtain⟨t',rfl⟩:=RD.intE hu; exact⟨_,_,_,_,rfl,k⟩
theorem d0i{xs:Array (Int×Tok)}{i:Int}{R:Int→Int→Prop}{b:Nat→Nat→Bool}(as:∀{a b},R a b→R b a→a=b)(m1:i∈xs.toList.map (·.1))(m2:∀j∈xs.toList.map (·.1),R i j)
 (hb:argBest b (xs.size-1)≤xs.size-1∧∀j,j≤xs.size-1→R (numAt xs (argBest b (xs.size-1))) (numAt xs j)):numAt xs (argBest b (xs.size-1))=i:=by
 obtain⟨p,hp,rfl⟩:=List.mem_map.mp m1;obtain⟨j,hj,rfl⟩:=List.getElem_of_mem hp;have hj':j<xs.size:=hj;have hlt:argBest b (xs.size-1)<xs.size:=by exact a2a (.t N0 N1) (.l N0 (.s N1 O1)) (.t N2 N1) hb.1 hj'
 have h1:=m2 (numAt xs (argBest b (xs.size-1))) (by rw[b4e hlt]; exact List.mem_map.mpr ⟨_,Array.getElem_mem_toList hlt,rfl⟩)
 have h2:=hb.2 j (by exact a1b (.l N0 (.s N1 O1)) (.t N0 N1) hj')
 rw[b4e hj']at h2;exact as h2 h1
theorem c4r{xs:Array (Int×Tok)}{i:Int}(m1:i∈xs.toList.map (·.1)):0<xs.size:=by
 obtain⟨p,hp,_⟩:=List.mem_map.mp m1;exact List.length_pos_of_mem hp
theorem b7d{b:B}{Q:e1l→Prop}(hh:A.handled=none)(sg:Sub g s.heap)(hv:RDHs g s.heap vs ds)(h:bi2 b ds Q) :
  ∃d,Q d∧To C A E g s (call (d8z b) (vs++biX b)) d:=by
 cases b with
 |len=>
  obtain⟨v,d,rfl,hv1,h1⟩:=hv.one' h;cases d with
  |list l=>
   obtain⟨a,ws,rfl,hl,r⟩:=hv1;have hlen:=r.length;exact⟨_,h1.2,.k sg fun Q hQ=>call_len_list hl (by have:=h1.1; rw[List.size_toArray,hlen]; omega) (by rw[List.size_toArray,hlen]; exact hQ _ _ (.int _ _))⟩
  |str x=>obtain⟨t,rfl⟩:=RD.strE hv1; exact⟨_,h1.2,.k sg fun Q hQ=>P.len_str (by have:=h1.1; exact a0o (.n (.l (.z (Int.pow 2 63)) (.c N0))) (.l N0 (.k 1000000)) h1.1) (hQ _ _ (.int _ _))⟩
  |_=>exact h1.elim
 |min=>
  obtain⟨v,d,rfl,hv1,h1⟩:=hv.one' h;obtain⟨l,rfl,h2⟩:=c4m h1;obtain⟨a,ws,rfl,hl,r⟩:=hv1;cases hi:b8h l with
  |none=>rw[hi]at h2; exact h2.elim
  |some i=>
   rw[hi]at h2;refine⟨_,h2,.kh sg fun Q hQ=>?_⟩;obtain⟨xs,e1,rfl⟩:=c9q r (c7m hi);rw[e1]at hl;obtain⟨m1,m2⟩:=c2w hi;refine min_intList hh hl (c4r m1) fun v h' tk hv hk=>?_;obtain⟨t,rfl⟩:=intItems_at hv;rw[d0i (R:=fun a b=>a≤b) Int.le_antisymm m1 m2 (argBest_lt (numAt xs) (xs.size-1))]; exact hQ _ _ _ hk (.int _ _)
 |divmod=>
  obtain⟨x,y,t,t',rfl,⟨h1,h2⟩,h⟩:=hv.int2 h;refine⟨_,h,fun Q hQ=>divmod_int h1 ?_ (.inl (PyProof.noPylong_of_log2 (Nat.lt_of_lt_of_le (b0b (n:=4000) (by decide) h2) (by decide))))⟩
  have hget:=Heap.get?_push_size s.heap (o:={ cls:=.type "tuple",data:=.seq #[.int (x.fdiv y) s.toks,.int (x.fmod y) (s.toks+1)] }) rfl;obtain⟨g',x1,x2,x3⟩:=Step.grow (tk:=s.toks+1+1) (g:=g) sg (a0f _) (a0e _) (fun o e hc=>by rw[hget]at e; cases e; exact absurd (Value.type.inj hc) (by decide))
  exact hQ _ _ g' x1 x2 (RD.tuple (vs:=[.int (x.fdiv y) s.toks,.int (x.fmod y) (s.toks+1)]) ⟨_,x3.trans hget,rfl,0,rfl⟩ (.cons (.int _ _) (.one (.int _ _))))
 |isint=>
  obtain⟨v,d,rfl,hv1,h1⟩:=hv.one' h;cases d with
  |int x=>obtain⟨t,rfl⟩:=RD.intE hv1; exact⟨_,h1,.k sg fun Q hQ=>IsiPair.int_int (hQ _ s.toks (.bool _))⟩
  |list l=>obtain⟨a,ws,rfl,⟨o,ho,hc,_⟩,r⟩:=hv1; exact⟨_,h1,.k sg fun Q hQ=>IsiPair.list_int ho hc (hQ _ _ (.bool _))⟩
  |_=>exact h1.elim
end
end
section
section
variable {C:Cfg} {A:e1x} {E:e1n→e1m→Prop} {s:e1m} {g:Heap}
noncomputable def meT:M→String
 |.bitlen=>"int" |.join=>"str" |.starts=>"str" |.ends=>"str" |.find=>"str" |.split=>"str" |.index=>"list"
noncomputable def meN:M→String
 |.bitlen=>"bit_length" |.join=>"join" |.starts=>"startswith" |.ends=>"endswith" |.find=>"find" |.split=>"split" |.index=>"index"
noncomputable def meI:M→String
 |.bitlen=>"int.bit_length" |.join=>"str.join" |.starts=>"str.startswith" |.ends=>"str.endswith" |.find=>"str.find" |.split=>"str.split" |.index=>"list.index"
theorem b6f (m:M):PlainAttrs (meT m)∧Slot (meT m) (meN m) (meI m)∧typeOf (.builtin (meI m))=pure (.type "method_descriptor"):=by
 cases m with
 |bitlen=>exact⟨F.plainAttrs_int,F.slot_int_bit_length,F.type_int_bit_length⟩
 |join=>exact⟨F.plainAttrs_str,F.slot_str_join,F.type_str_join⟩
 |starts=>exact⟨F.plainAttrs_str,F.slot_str_startswith,F.type_str_startswith⟩
 |ends=>exact⟨F.plainAttrs_str,F.slot_str_endswith,F.type_str_endswith⟩
 |find=>exact⟨F.plainAttrs_str,F.slot_str_find,F.type_str_find⟩
 |split=>exact⟨F.plainAttrs_str,F.slot_str_split,F.type_str_split⟩
 |index=>exact⟨F.plainAttrs_list,F.slot_list_index,F.type_list_index⟩
def NoD (h:Heap) (v:e1n):Prop:=∀a,v=.ref a→∃o,h.get? a=some o∧(o.cls=.type "list" →o.dict=none)
theorem c3b{m:M}(hv:RDH g s.heap v d)(hn:NoD s.heap v)(h:c4h m (some d)):s.TypeIs v (meT m)∧∀a,v=.ref a→∃o,s.heap.get? a=some o∧o.dict=none:=by
 have str (h:onS d fun _=>True):s.TypeIs v "str" ∧ ∀a,v=.ref a→∃o,s.heap.get? a=some o∧o.dict=none:=by
  obtain⟨x,rfl,_⟩:=a8y h; obtain⟨t,rfl⟩:=RD.strE hv; exact⟨typeIs_str _ _ _,fun a e=>nomatch e⟩
 cases m with
 |bitlen=>obtain⟨x,rfl,_⟩:=a7z h; obtain⟨t,rfl⟩:=RD.intE hv; exact⟨typeIs_int _ _ _,fun a e=>nomatch e⟩
 |index=>
  obtain⟨x,rfl,_⟩:=c4m h;obtain⟨a,vs,rfl,hl,r⟩:=hv;refine⟨hl.typeIs,fun b e=>?_⟩;obtain⟨o,ho,hc⟩:=hn b e;cases e;obtain⟨o',ho',hc',_⟩:=hl;rw[ho]at ho'; cases ho';exact⟨o,ho,hc hc'⟩
 |_=>exact str h
theorem d0k{l:List e1l}{ss:List Str}(r:RDs g vs l)(hi:b2t l=some ss):∃xs:List (Str×Tok),vs=strValues xs∧xs.map (·.1)=ss:=by
 induction vs generalizing l ss with
 |nil=>obtain⟨_,r⟩:=r; cases r; cases hi; exact⟨[],rfl,rfl⟩
 |cons v vs ih=>
  obtain⟨d,l',rfl,h1,h2⟩:=r.cases;cases d with
  |str x=>
   obtain⟨ys,hy,rfl⟩:=Option.map_eq_some_iff.mp hi;obtain⟨t,rfl⟩:=h1.strE;obtain⟨xs,e1,e2⟩:=ih h2 hy;exact⟨(x,t)::xs,by rw[e1]; rfl,by rw[←e2]; rfl⟩
  |_=>cases hi
theorem RDs.strs(xs:List (Str×Tok)):RDs g (strValues xs) ((xs.map (·.1)).map PyData.str):=by
 induction xs with
 |nil=>exact .nil
 |cons p xs ih=>exact .cons (.str _ _) ih
theorem b4v(x y:Str)(a b:Int)(t u v v':Tok)(ha:0≤a)(hb:0≤b)(hl:b≤x.length):Gives (Builtin.«str.find» ⟨[.str x t,.str y u,.int a v,.int b v'],[]⟩) (.int (b8g x y a b)):=by
 show Gives (match Builtin.Str.occurrences x y (fromIndex x.length a) (min (fromIndex x.length b) x.length) 1 with|k::_=>retInt k|[]=>(do rule "str.find.not-found"; retInt (-1))) _
 have e1:fromIndex x.length a=a.toNat:=by unfold fromIndex; rw[if_neg (by exact a6c (.n (.t Z0 (.z 0))) (.l (.z 0) Z0) ha)]; exact lc0 1 [] [_] (.e (.u 0 (.d 3 (.z 0) Z0)) (.u 0 Z0))
 have e2:min (fromIndex x.length b) x.length=b.toNat:=by unfold fromIndex; rw[if_neg (by exact a6c (.n (.t Z0 (.z 0))) (.l (.z 0) Z0) hb)]; exact e0m (.e (.b 2 (.u 0 (.d 3 (.z 0) Z0)) N0) (.u 0 Z0)) (.l Z0 (.c N0)) hl
 rw[e1,e2];unfold b8g;cases Builtin.Str.occurrences x y a.toNat b.toNat 1 with
 |nil=>exact .rule (.of_eq rfl)
 |cons k _=>exact .of_eq rfl
theorem c3u{x y:Str}(h:(Txt.split x y).length≤e2f)(h1:(decide (x.length<y.length)||decide (Builtin.Str.strKind x<Builtin.Str.strKind y))=false)
 (hf:(Builtin.Str.occurrences x y 0 x.length (x.length+1)).isEmpty=false):(Builtin.Str.partsBetween x (Builtin.Str.occurrences x y 0 x.length (x.length+1)) y.length).length≤e2f:=by
 unfold Txt.split at h;rwa[if_neg (ne_true_of_eq_false h1),if_neg (ne_true_of_eq_false hf)]at h
theorem b4a{x y:Str}{t u:Tok}(hy:0<y.length)(hx:x.length≤e2f)(hs:(Txt.split x y).length≤e2f) :
  ToF C A E g s (call (.builtin "str.split") [.str x t,.str y u]) ((Txt.split x y).map .str):=fun Q h=>by
 have hy':(y.length==0)=false:=by simp; exact a0o (.n (.e N0 (.k 0))) (.t (.k 0) N0) hy
 have fin:∀(xs:List (Str×Tok)) tk,xs.map (·.1)=Txt.split x y→Q (.ref s.heap.objs.size) { s with heap:=s.heap.push { cls:=.type "list",data:=.seq (strValues xs).toArray },toks:=tk }:=fun xs tk e=>
  h _ (strValues xs) _ tk (a0f _) (a0e _) ⟨0,Heap.get?_push_size _ rfl⟩ (e▸RDs.strs xs)
 cases h1:(decide (x.length<y.length)||decide (Builtin.Str.strKind x<Builtin.Str.strKind y))
 ·cases hf:(Builtin.Str.occurrences x y 0 x.length (x.length+1)).isEmpty
  ·refine call_meets F.slot_str_split (typeIs_str _ _ _) F.entry_str_split (F.args_str_split_2 _ _) (meets_str_split_sep x y t u h1 hy' hf hx (c3u hs h1 hf)) ?_
   rw[strsFrom_eq];exact fin _ _ ((numbered_texts _ _).trans ((if_neg (ne_true_of_eq_false h1)).trans (if_neg (ne_true_of_eq_false hf))).symm)
  ·exact call_meets F.slot_str_split (typeIs_str _ _ _) F.entry_str_split (F.args_str_split_2 _ _) (meets_str_split_not_found x y t u h1 hy' hf) (fin [(x,t)] _ ((if_neg (ne_true_of_eq_false h1)).trans (if_pos hf)).symm)
 ·exact call_meets F.slot_str_split (typeIs_str _ _ _) F.entry_str_split (F.args_str_split_2 _ _) (meets_str_split_cannot_occur x y t u h1) (fin [(x,t)] _ (if_pos h1).symm)
theorem RDHs.str2{K:Str→Str→Prop}(x:RDHs g h vs ds)(hv:RDH g h v d)(k:onS d fun s=>on1 ds fun d=>onS d fun p=>K s p):∃s p t u,v=.str s t∧vs=[.str p u]∧K s p:=by
 obtain⟨s,rfl,k1⟩:=a8y k; obtain⟨v,e,rfl,hu,k2⟩:=x.one' k1; obtain⟨p,rfl,k3⟩:=a8y k2;obtain⟨t,rfl⟩:=RD.strE hv; obtain⟨u,rfl⟩:=RD.strE hu; exact⟨_,_,_,_,rfl,rfl,k3⟩
theorem c5c{m:M}{Q:e1l→Prop}{n:Nat}(ok:AOK A n hz g)(sg:Sub g s.heap)(hv:RDH g s.heap v d)(hvs:RDHs g s.heap vs ds)(h:me2 m d ds Q) :
  ∃r,Q r∧To C A E g s (call (.builtin (meI m)) (v::vs)) r:=by
 cases m with
 |bitlen=>
  obtain⟨x,rfl,h1⟩:=a7z h; obtain⟨rfl,h2⟩:=d4g h1; obtain rfl:=hvs.none; obtain⟨t,rfl⟩:=RD.intE hv;exact⟨_,h2,.k sg fun Q hQ=>call_int_bit_length (hQ _ _ (.int _ _))⟩
 |join=>
  obtain⟨x,rfl,h1⟩:=a8y h; obtain⟨u,d,rfl,hu,h2⟩:=hvs.one' h1; obtain⟨l,rfl,h3⟩:=c4m h2; obtain⟨t,rfl⟩:=RD.strE hv;obtain⟨a,ws,rfl,hl,r⟩:=hu;cases hss:b2t l with
  |none=>rw[hss]at h3; exact h3.elim
  |some ss=>
   rw[hss]at h3;obtain⟨xs,rfl,e⟩:=d0k r hss;exact⟨_,h3.2,.k sg fun Q hQ=>SC.join hl e h3.1 fun t' k=>hQ _ _ (.str _ _)⟩
 |starts=>
  obtain⟨x,y,t,t',rfl,rfl,h⟩:=hvs.str2 hv h;exact⟨_,h,.k sg fun Q hQ=>SC.startswith (hQ _ s.toks (.bool _))⟩
 |ends=>
  obtain⟨x,y,t,t',rfl,rfl,h⟩:=hvs.str2 hv h;exact⟨_,h,.k sg fun Q hQ=>SC.endswith (hQ _ s.toks (.bool _))⟩
 |find=>
  obtain⟨x,rfl,h1⟩:=a8y h; obtain⟨y,a,b,rfl,h1⟩:=d8e h1; obtain⟨y,rfl,h1⟩:=a8y h1; obtain⟨a,rfl,h1⟩:=a7z h1; obtain⟨b,rfl,h1⟩:=a7z h1;cases hvs with
  |cons h2 hvs=>
   obtain⟨v2,v3,rfl,h3,h4⟩:=hvs.two;obtain⟨t,rfl⟩:=RD.strE hv; obtain⟨t1,rfl⟩:=RD.strE h2; obtain⟨t2,rfl⟩:=RD.intE h3; obtain⟨t3,rfl⟩:=RD.intE h4;exact⟨_,h1.2,.k sg fun Q hQ=>call_gives F.slot_str_find (typeIs_str _ _ _) F.entry_str_find (F.args_str_find_4 _ _ _ _) (b4v x y a b t t1 t2 t3 h1.1.1 (Int.le_trans h1.1.1 h1.1.2.1) h1.1.2.2) (hQ _ _ (.int _ _))⟩
 |split=>
  obtain⟨x,y,t,t',rfl,rfl,⟨h1,h2,h3⟩,h⟩:=hvs.str2 hv h;exact⟨_,h,(b4a h1 (Nat.le_trans h2 (by decide)) (Nat.le_trans h3 (by decide))).to sg⟩
 |index=>
  obtain⟨l,rfl,h1⟩:=c4m h; obtain⟨u,x,rfl,hu,⟨s1,s2,s3⟩,h2⟩:=hvs.one' h1;obtain⟨a,ws,rfl,hl,r⟩:=hv;cases hj:l.findIdx? (fun y=>PyData.eqv y x)with
  |none=>rw[hj]at h2; exact h2.elim
  |some j=>
   rw[hj]at h2;refine⟨_,h2,.k sg fun Q hQ=>?_⟩;obtain⟨as,rx⟩:=hu.rd sg;obtain⟨bs,rs⟩:=(r.mono sg);have hall:=a9c s2;obtain⟨⟨cls,dd,data,sl⟩,ho,hc,n,hd⟩:=id hl;simp only at hc hd;subst hc hd;have hu':A.units+65<cLine:=by have:=ok.units; omega
   have hmap:=SeqAt.readsAll_map l ws _ hall.1 rs;obtain⟨hjl,hp,hno⟩:=List.findIdx?_eq_some_iff_getElem.mp hj;have hlen:ws.length=l.length:=by rw[←hmap,List.length_map]
   have hget:∀i (hi:i<ws.toArray.size),SeqAt.readOf s.heap (ws.toArray[i])=l[i]'(by rw[←hlen]; exact hi):=fun i hi=>by
    have e:=List.getElem_map (SeqAt.readOf s.heap) (l:=ws) (i:=i) (h:=by rw[List.length_map]; exact hi)
    exact e.symm.trans (List.getElem_of_eq hmap _)
   exact call_meets F.slot_list_index hl.typeIs F.entry_list_index (F.args_list_index_2 _ _)
    (SeqAt.list_indexAt a ws.toArray n dd sl u (fun y=>PyData.eqv (SeqAt.readOf s.heap y) x) j (by rw[List.size_toArray]; omega) (by omega)
     (by rw[hget]; exact hp) (fun i hi hij=>by rw[hget]; exact Bool.eq_false_iff.mpr (hno i hij)))
    ⟨ho,SeqAt.items_eqAt (xs:=l) (d:=x) rs rx hall.1 (a5y s1) (by omega),hQ _ _ (.int _ _)⟩
end
end
section
section
variable {C:Cfg} {A:e1x} {E:e1n→e1m→Prop} {s:e1m} {g:Heap}
theorem b2s{o:Op2}{a b:e1n}{x y:e1l}{Q:e1l→Prop}(sg:Sub g s.heap)(ha:RDH g s.heap a x)(hb:RDH g s.heap b y)(h:d0u o x y Q) :
  ∃d,Q d∧To C A E g s (inplaceOp (c5o o) a b) d:=by
 obtain⟨x,rfl,h1⟩:=a7z h; obtain⟨y,rfl,h2⟩:=a7z h1;obtain⟨t,rfl⟩:=RD.intE ha; obtain⟨u,rfl⟩:=RD.intE hb;cases o with
 |add=>exact⟨_,h2,.k sg fun Q hQ=>P.iadd_int (hQ _ _ (.int _ _))⟩
 |sub=>exact⟨_,h2,.k sg fun Q hQ=>P.isub_int (hQ _ _ (.int _ _))⟩
 |shl=>exact⟨_,h2.2,.k sg fun Q hQ=>ilshift_int h2.1.1 (by have:=a4l h2.1.2.2; have:=h2.1.2.1; omega) (hQ _ _ (.int _ _))⟩
 |bor=>exact⟨_,h2,.k sg fun Q hQ=>ior_int (hQ _ _ (.int _ _))⟩
 |_=>exact h2.elim
theorem Step.one{a:Addr}{tk:Nat}(sg:Sub g s.heap)(ha:g.get? a=none)(hs:Heap.SameBut a s.heap h'):Step [a] s g { s with heap:=h',toks:=tk } g∧Sub g h':=by
 refine⟨⟨⟨h',tk,rfl⟩,.refl g,fun b o hb e=>.of ((hs.2 b (by simpa using hb)).trans e),fun sg b o e=>(hs.2 b fun q=>by rw[q,ha]at e; cases e).trans (sg b o e),fun _ _ _ _ e=>e,id⟩,fun b o e=>?_⟩
 exact(hs.2 b fun q=>by rw[q,ha]at e; cases e).trans (sg b o e)
def d7c(C:Cfg)(A:e1x)(E:e1n→e1m→Prop)(g:Heap)(s:e1m){α:Type}(t:Sem α)(a:Addr)(o:OV)(r:α):Prop:=
 ∀Q:α→e1m→Prop,(∀s',Step [a] s g s' g→Sub g s'.heap→OwnOK g s'.heap a o→Q r s')→e1p (model C.prog C.w) A t Q E s
theorem b4o(vs:List e1n)(k:Nat):vs.toArray.eraseIdxIfInBounds k=(vs.eraseIdx k).toArray:=by
 by_cases h:k<vs.length
 ·simp[Array.eraseIdxIfInBounds,h]
 ·simp[Array.eraseIdxIfInBounds,h,List.eraseIdx_of_length_le (Nat.not_lt.mp h)]
theorem a7d{a:Addr}{l:List e1l}(sg:Sub g s.heap)(o:OwnOK g s.heap a (.lst l))(hv:RD g v d)(hl:l.length<1000000) :
  d7c C A E g s (call (.builtin "list.append") [.ref a,v]) a (.lst (l++[d])) .none:=fun Q hQ=>by
 obtain⟨hg,vs,hp,r⟩:=o;refine wpAny_list_append_plain hp (fun h' hp' hs=>?_) (by have:=r.length; simp only[List.size_toArray,this]; exact Nat.le_trans (Nat.le_of_lt hl) (by decide))
 obtain⟨x,y⟩:=Step.one (tk:=s.toks) sg hg hs;exact hQ _ x y ⟨hg,vs++[v],by simpa using hp',r.append (.one hv)⟩
theorem a7i{a:Addr}{vs ws:List e1n}{f:Array e1n→Array e1n}(hp:s.heap.PlainList a vs.toArray)(e:f vs.toArray=ws.toArray) :
  (s.heap.update a (Obj.mapSeq f)).PlainList a ws.toArray∧Heap.SameBut a s.heap (s.heap.update a (Obj.mapSeq f)):=by
 obtain⟨n,ho⟩:=hp;refine⟨?_,Heap.SameBut.update ..⟩
 have:=IsL.update (n:=n) ho f
 exact⟨_,e▸this⟩
theorem c6n{a:Addr}{l:List e1l}{j:Int}{t:Tok}{n:Nat}(sg:Sub g s.heap)(o:OwnOK g s.heap a (.lst l))(hl:l.length≤1000000)(hj:-1000000≤j∧j≤1000000)(hn:a2r l.length j=some n)(hd:l[n]?=some d)
 (Q:e1n→e1m→Prop) (hQ:∀v s',RD g v d→Step [a] s g s' g→Sub g s'.heap→OwnOK g s'.heap a (.lst (l.eraseIdx n))→Q v s') :
  e1p (model C.prog C.w) A (call (.builtin "list.pop") [.ref a,.int j t]) Q E s:=by
 obtain⟨hg,vs,hp,r⟩:=o;obtain⟨v,hv,rv⟩:=r.get hd;obtain⟨m,ho⟩:=id hp;have hlen:=r.length;refine call_meets F.slot_list_pop ⟨_,ho,rfl⟩ F.entry_list_pop (F.args_list_pop_2 _ _) (MeetsSeq.list_pop_at a vs.toArray m j t n v (by simp[Builtin.List.listFitsIndex]; exact a6c (.a (.l (.z (Int.neg 9223372036854775808)) Z0) (.t Z0 (.z 9223372036854775808))) (.a (.l (.z (Int.neg 1000000)) Z0) (.l Z0 (.z 1000000))) hj) (by rw[a3k]; simpa[hlen]using hn) (by simpa using hv)
  (by simp only[List.size_toArray,hlen]; exact Nat.le_trans hl (by decide))) ⟨ho,?_⟩
 obtain⟨hp',hs⟩:=a7i hp (f:=fun xs=>xs.eraseIdxIfInBounds n) (b4o vs n);obtain⟨x,y⟩:=Step.one (tk:=s.toks) sg hg hs;exact hQ v _ rv x y ⟨hg,_,hp',r.eraseIdx n⟩
theorem c3n{a:Addr}{l:List e1l}(sg:Sub g s.heap)(o:OwnOK g s.heap a (.lst l))(hl:l.length≤1000000)(hd:l.getLast?=some d)
 (Q:e1n→e1m→Prop) (hQ:∀v s',RD g v d→Step [a] s g s' g→Sub g s'.heap→OwnOK g s'.heap a (.lst l.dropLast)→Q v s') :
  e1p (model C.prog C.w) A (call (.builtin "list.pop") [.ref a]) Q E s:=by
 obtain⟨hg,vs,hp,r⟩:=o;rw[List.getLast?_eq_getElem?]at hd;obtain⟨v,hv,rv⟩:=r.get hd;obtain⟨m,ho⟩:=id hp;have hlen:=r.length;refine call_meets F.slot_list_pop ⟨_,ho,rfl⟩ F.entry_list_pop (F.args_list_pop_1 _) (MeetsSeq.list_pop_last a vs.toArray m v (by simpa[hlen]using hv)
  (by simp only[List.size_toArray,hlen]; exact Nat.le_trans hl (by decide))) ⟨ho,?_⟩
 have e:vs.toArray.eraseIdxIfInBounds (vs.toArray.size-1)=vs.dropLast.toArray:=by
  rw[b4o,List.size_toArray,List.eraseIdx_length_sub_one]
 obtain⟨hp',hs⟩:=a7i hp (f:=fun xs=>xs.eraseIdxIfInBounds (vs.toArray.size-1)) e;obtain⟨x,y⟩:=Step.one (tk:=s.toks) sg hg hs;refine hQ v _ rv x y ⟨hg,_,hp',?_⟩
 have:=r.eraseIdx (vs.length-1)
 rwa[List.eraseIdx_length_sub_one,hlen,List.eraseIdx_length_sub_one]at this
theorem b2f{a:Addr}{l:List e1l}(sg:Sub g s.heap)(o:OwnOK g s.heap a (.lst l))(hl:l.length≤1000000) :
  d7c C A E g s (call (.builtin "list.reverse") [.ref a]) a (.lst l.reverse) .none:=fun Q hQ=>by
 obtain⟨hg,vs,hp,r⟩:=o;obtain⟨m,ho⟩:=id hp;have hlen:=r.length;refine call_meets F.slot_list_reverse ⟨_,ho,rfl⟩ F.entry_list_reverse (F.args_list_reverse_1 _) (AutoSeq1.list_reverse_list_0 a vs.toArray m (by simp only[List.size_toArray,hlen]; exact Nat.le_trans hl (by decide))) ⟨ho,?_⟩
 obtain⟨hp',hs⟩:=a7i hp (f:=fun x=>x.reverse) (ws:=vs.reverse) (by simp)
 obtain⟨x,y⟩:=Step.one (tk:=s.toks) sg hg hs;exact hQ _ x y ⟨hg,_,hp',r.reverse⟩
theorem b2k{a:Addr}{l:List e1l}{j:Int}{t:Tok}{n:Nat}(sg:Sub g s.heap)(o:OwnOK g s.heap a (.lst l))(hl:l.length≤1000000)(hj:-1000000≤j∧j≤1000000)(hn:a2r l.length j=some n) :
  d7c C A E g s (delItem (.ref a) (.int j t)) a (.lst (l.eraseIdx n)) ():=fun Q hQ=>by
 obtain⟨hg,vs,hp,r⟩:=o;have hlen:=r.length;refine wpAny_delItem_plain hp (k:=n) (by simp[Builtin.List.listFitsIndex]; exact a6c (.a (.l (.z (Int.neg 9223372036854775808)) Z0) (.t Z0 (.z 9223372036854775808))) (.a (.l (.z (Int.neg 1000000)) Z0) (.l Z0 (.z 1000000))) hj) (by rw[a3k]; simpa[hlen]using hn) (fun h' hp' hs=>?_) (by simp only[List.size_toArray,hlen]; exact Nat.le_trans hl (by decide))
 obtain⟨x,y⟩:=Step.one (tk:=s.toks) sg hg hs;exact hQ _ x y ⟨hg,_,b4o vs n▸hp',r.eraseIdx n⟩
theorem b0u{l:Addr}{k:Int}{t:Tok}{Q:Unit→e1m→Prop}(hp:s.heap.PlainList l items)
 (h0:0≤k) (hfit:k<2^63) (hn:k<items.size)
 (hQ:∀h',h'.PlainList l (items.setIfInBounds k.toNat v)→Heap.SameBut l s.heap h'→Q () { s with heap:=h' }) :
  e1p (model C.prog C.w) A (setItem (.ref l) (.int k t) v) Q E s:=by
 obtain⟨ne,ho⟩:=id hp;have hl:s.heap.IsList l items:=⟨_,ho,rfl,ne,rfl⟩;have hd:({ cls:=.type "list",data:=.seq items ne }:Obj).data=.seq items ne:=rfl;unfold setItem
 try with_reducible refine e1s ?_
 first|refine e1k (e1o ?_)|skip
 refine e1k (wpAny_sequenceKey hl.typeIs (by decide) ?_)
 refine e1k (wpAny_callSpecial?_slot (name:=Str.ofString "__setitem__") hl.typeIs slot_list_setitem
  (wpAny_call_entry slot_list_setitem hl.typeIs entry_list_setitem ?_ (args_list_setitem _ _ _)))
 show e1p _ _ (Builtin.List.listSubscript? (.int k t) >>= _) _ _ s;refine e1k (wpAny_listSubscript_int (fitsIndex_of h0 hfit) ?_);clear hfit;obtain⟨j,rfl⟩:=Int.eq_ofNat_of_zero_le h0;have hj:j<items.size:=by exact a1b (.t N0 N1) (.t (.c N0) (.c N1)) hn
 have hx':items[j]?=some items[j]:=Array.getElem?_eq_getElem hj;show e1p _ _ ((seqItemAt l j >>= fun r=>pure (r.map (j,·))) >>= _) _ _ s;refine e1k (e1k (wpAny_seqItemAt ho hd (e1o ?_)));rw[hx'];show e1p _ _ (setSeqItemAt l j v >>= _) _ _ s;have hfin:(s.heap.update l (Obj.mapSeq (·.setIfInBounds j v))).PlainList l (items.setIfInBounds j v):=⟨_,IsL.update (n:=ne) ho _⟩;refine e1k (wpAny_setSeqItemAt ho hd ?_)
 first
  |exact e1k (e1o (e1o ⟨.none,rfl,e1o (hQ _ hfin (Heap.SameBut.update ..))⟩))
  |exact e1o ⟨.none,rfl,e1o (hQ _ hfin (Heap.SameBut.update ..))⟩
theorem a6k{a:Addr}{l:List e1l}{j:Int}{t:Tok}(sg:Sub g s.heap)(o:OwnOK g s.heap a (.lst l))(hj:0≤j∧j≤1000000)(hn:j.toNat<l.length)(hv:RD g v d) :
  d7c C A E g s (setItem (.ref a) (.int j t) v) a (.lst (l.set j.toNat d)) ():=fun Q hQ=>by
 obtain⟨hg,vs,hp,r⟩:=o;have hlen:=r.length;refine b0u hp hj.1 (by exact a6c (.t Z0 (.z (Int.pow 2 63))) (.a (.l (.z 0) Z0) (.l Z0 (.z 1000000))) hj) (by simp only[List.size_toArray,hlen]; exact e0m (.t Z0 (.c N0)) (.t (.u 0 Z0) N0) hn) fun h' hl' hs=>?_
 obtain⟨x,y⟩:=Step.one (tk:=s.toks) sg hg hs;have e:vs.toArray.setIfInBounds j.toNat v=(vs.set j.toNat v).toArray:=by simp
 exact hQ _ x y ⟨hg,_,e▸hl',r.set _ hv⟩
theorem b3q:builtinKind "next" = none:=by decide +kernel
theorem a9i:plainId "next" = true:=by decide +kernel
theorem a9w:entryFor table "next" = some Builtin.«next»:=entryFor_of_tree (by kernel_rfl)
theorem b3m (a:e1n):argsOk "next" ⟨[a],[]⟩:=by unfold argsOk; kernel_rfl
theorem c0a{a:Addr}{r:List e1l}(sg:Sub g s.heap)(o:OwnOK g s.heap a (.iter (d::r)))
 (Q:e1n→e1m→Prop) (hQ:∀v s',RD g v d→Step [a] s g s' g→Sub g s'.heap→OwnOK g s'.heap a (.iter r)→Q v s') :
  e1p (model C.prog C.w) A (call (.builtin "next") [.ref a]) Q E s:=by
 obtain⟨hg,b,vs,i,l,hit,hl,hr,e⟩:=o;have hd:l[i]?=some d:=by rw[←List.head?_drop,←e]; rfl
 have hr':r=l.drop (i+1):=by
  have:=congrArg List.tail e
  rw[List.tail_drop]at this
  simpa using this
 obtain⟨v,hv,rv⟩:=hr.get hd;refine Calls.call_function_entry b3q a9i a9w (b3m _) ?_;unfold Builtin.«next»;refine e1k (m:=someArgs "next" 1 2 _) (e1o ?_);refine e1k (wpAny_specialOf hit.typeIs slot_listiter_next.lookup ?_);obtain⟨ob,ho,hc,hdat⟩:=id hit;obtain⟨ol,hol,_,nl,hdl⟩:=a0d sg hl;refine e1k (m:=callSpecial? (.ref a) (Str.ofString "__next__")) (wpAny_callSpecial?_slot (name:=Str.ofString "__next__") hit.typeIs slot_listiter_next
  (wpAny_call_entry slot_listiter_next hit.typeIs entry_listiter_next ?_ (args_listiter_next _)))
 show e1p _ _ (field (.ref a) 0 >>= _) _ _ s;refine e1k (e2d ho hdat (x:=.ref b) rfl ?_);show e1p _ _ (if (Value.ref b==Value.none)=true then _ else _) _ _ s
 show e1p _ _ (field (.ref a) 1 >>= _) _ _ s;refine e1k (e2d ho hdat (x:=.int i 0) rfl ?_);show e1p _ _ (seqItems? (.ref b) >>= _) _ _ s;refine e1k (wpAny_seqItems hol hdl ?_);have hx:vs.toArray[i]?=some v:=by simpa using hv
 simp only[Int.toNat_natCast,hx];obtain⟨x,y⟩:=Step.one (h':=s.heap.update a (Obj.mapFields fun vs=>vs.setIfInBounds 1 (rawInt (i+1)))) (tk:=s.toks) sg hg (Heap.SameBut.update ..);refine e1k (wpAny_setField ho hdat (by simp) (e1o ⟨v,rfl,e1o ⟨v,rfl,hQ v _ rv x y ?_⟩⟩))
 refine⟨hg,b,vs,i+1,l,?_,hl,hr,hr'⟩;exact⟨_,Heap.get?_update_self _ ho (Obj.isFreed_of_fields (Obj.data_mapFields hdat _)),(Obj.cls_mapFields ..).trans hc,by
  rw[Obj.data_mapFields hdat]; simp[rawInt]⟩
end
end
section
theorem b0v:entryFor table "proto.unchain" = some Builtin.«proto.unchain»:=entryFor_of_tree (by kernel_rfl)
section
variable {C:Cfg} {A:e1x} {E:e1n→e1m→Prop} {s:e1m} {g:Heap}
theorem a6s{α:Type}{Q:α→e1m→Prop}(hk:HOK A g)(sg:Sub g s.heap)
 (h:∀h' e,Sub s.heap h'→(∃o,h'.get? e=some o∧o.cls=.type "StopIteration")→E (.ref e) { s with heap:=h' }) :
  e1p (model C.prog C.w) A (newExc (.type "StopIteration") [] >>= fun e=>(raiseNew e:Sem α)) Q E s:=by
 refine e1k ?_;refine e1k (wpAny_newObj_type ?_ (by size_fits))
 refine e1k (m:=firstArgMember _ _) (e2c (a:=Value.none) (by first|rfl|(simp only[firstArgMember]; rfl)) ?_)
 refine wpAny_newObj_type ?_ (by size_fits)
 dsimp only[raiseNew];refine e1k (wpAny_handled ?_);generalize hH:(s.heap.push { cls:=.type "tuple",dict:=none,data:=.seq ([]:List e1n).toArray })=H;have hH':Sub s.heap H:=hH▸a0f _;have hget:∀vs:Array e1n,(H.push { cls:=.type "StopIteration",data:=.fields vs }).get? H.objs.size=some { cls:=.type "StopIteration",data:=.fields vs }:=fun vs=>Heap.get?_push_size _ rfl
 rcases hk with hk|⟨x,o,vs,hx,ho,hd,hv⟩
 ·rw[hk]
  refine e1k (e1o (wpAny_throw (h _ _ (hH'.trans (a0f _)) ⟨_,hget _,rfl⟩)))
 ·rw[hx]
  have hne:(Value.ref x != Value.ref H.objs.size)=true:=by
   have:x≠H.objs.size:=Nat.ne_of_lt (Heap.lt_size (hH' _ _ (sg _ _ ho)))
   simp[this]
  have ho':=a0f (h:=H) { cls:=.type "StopIteration",data:=.fields (#[.ref s.heap.objs.size,.none,.none,.none,.bool false,.none]++ownMembersOf (.type "StopIteration") []) } _ _ (hH' _ _ (sg _ _ ho));show e1p _ _ (if (Value.ref x != Value.ref H.objs.size)=true then _ else _) _ _ _
  rw[if_pos hne];refine e1k (e1s (wpAny_runValue (codeAny_builtin b0v ?_)));unfold Builtin.«proto.unchain»;show e1p _ _ (field (.ref x) 2 >>= _) _ _ _;refine e1k (e2d ho' hd hv ?_);show e1p _ _ (ret .none) _ _ _;refine e1o ?_;show e1p _ _ (setField (.ref H.objs.size) 2 (.ref x) >>= _) _ _ _;refine e1k (wpAny_setField (hget _) rfl (by simp; exact a3f (.t (.k 2) (.p (.k 6) N0))) ?_)
  refine wpAny_throw (h _ _ (fun b o e=>?_) ⟨_,Heap.get?_update_self _ (hget _) rfl,rfl⟩);have hb:b≠H.objs.size:=Nat.ne_of_lt (Heap.lt_size (hH' _ _ e));exact(Heap.get?_update_ne _ _ _ _ hb).trans (a0f _ _ _ (hH' _ _ e))
theorem a5l{it l:Addr}{Q:Option e1n→e1m→Prop}(hk:HOK A g)(sg:Sub g s.heap)(hg:g.get? it=none)
 (hit:s.heap.IsListIter it l i) (hl:s.heap.IsList l items) (hx:items[i]?=none)
 (hQ:∀h',Heap.ExtBut it s.heap h'→Q none { s with heap:=h' }):e1p (model C.prog C.w) A (pyNext (.ref it)) Q E s:=by
 obtain⟨o,ho,hc,hd⟩:=id hit;obtain⟨ol,hol,_,nl,hdl⟩:=hl;unfold pyNext;refine e1k (wpAny_attempt (wpAny_callSpecial?_slot (name:=Str.ofString "__next__") hit.typeIs slot_listiter_next
  (wpAny_call_entry slot_listiter_next hit.typeIs entry_listiter_next ?_ (args_listiter_next _))))
 show e1p _ _ (field (.ref it) 0 >>= _) _ _ s;refine e1k (e2d ho hd (x:=.ref l) rfl ?_);show e1p _ _ (if (Value.ref l==Value.none)=true then _ else _) _ _ s
 show e1p _ _ (field (.ref it) 1 >>= _) _ _ s;refine e1k (e2d ho hd (x:=.int i 0) rfl ?_);show e1p _ _ (seqItems? (.ref l) >>= _) _ _ s;refine e1k (wpAny_seqItems hol hdl ?_);simp only[Int.toNat_natCast,hx];refine e1k (wpAny_rule (e1k (wpAny_setField ho hd (by simp) ?_)))
 have hs:Heap.SameBut it s.heap (s.heap.update it (Obj.mapFields fun vs=>vs.setIfInBounds 0 .none)):=Heap.SameBut.update ..;obtain⟨_,sg'⟩:=Step.one (tk:=s.toks) sg hg hs;refine a6s (A:=A.in1) hk sg' fun h' e hsub ⟨oe,hoe,hce⟩=>?_;refine e1k (wpAny_isInstance (T:="StopIteration") (b:=true) ⟨oe,hoe,hce⟩ isSubtype_stop ?_);exact e1o (hQ _ fun b o hb e=>hsub _ _ ((hs.2 b hb).trans e))
theorem a2w{it l:Addr}{Q:Option e1n→e1m→Prop}(hk:HOK A g)(sg:Sub g s.heap)(hg:g.get? it=none)
 (hit:s.heap.IsTupleIter it l i) (hl:s.heap.IsTuple l items) (hx:items[i]?=none)
 (hQ:∀h',Heap.ExtBut it s.heap h'→Q none { s with heap:=h' }):e1p (model C.prog C.w) A (pyNext (.ref it)) Q E s:=by
 obtain⟨o,ho,hc,hd⟩:=id hit;obtain⟨ol,hol,_,nl,hdl⟩:=hl;unfold pyNext;refine e1k (wpAny_attempt (wpAny_callSpecial?_slot (name:=Str.ofString "__next__") hit.typeIs F.slot_tuple_iterator_next
  (wpAny_call_entry F.slot_tuple_iterator_next hit.typeIs F.entry_tuple_iterator_next ?_ (F.args_tuple_iterator_next_1 _))))
 show e1p _ _ (field (.ref it) 0 >>= _) _ _ s;refine e1k (e2d ho hd (x:=.ref l) rfl ?_);show e1p _ _ (if (Value.ref l==Value.none)=true then _ else _) _ _ s
 show e1p _ _ (field (.ref it) 1 >>= _) _ _ s;refine e1k (e2d ho hd (x:=.int i 0) rfl ?_);show e1p _ _ (seqItems? (.ref l) >>= _) _ _ s;refine e1k (wpAny_seqItems hol hdl ?_);simp only[Int.toNat_natCast,hx];refine e1k (wpAny_rule (e1k (wpAny_setField ho hd (by simp) ?_)))
 have hs:Heap.SameBut it s.heap (s.heap.update it (Obj.mapFields fun vs=>vs.setIfInBounds 0 .none)):=Heap.SameBut.update ..;obtain⟨_,sg'⟩:=Step.one (tk:=s.toks) sg hg hs;refine a6s (A:=A.in1) hk sg' fun h' e hsub ⟨oe,hoe,hce⟩=>?_;refine e1k (wpAny_isInstance (T:="StopIteration") (b:=true) ⟨oe,hoe,hce⟩ isSubtype_stop ?_);exact e1o (hQ _ fun b o hb e=>hsub _ _ ((hs.2 b hb).trans e))
theorem b1q{e it l:Addr}{old:e1n}{Q:Option e1n→e1m→Prop}(hk:HOK A g)(sg:Sub g s.heap)(hg:g.get? it=none)
 (he:IsEnum s.heap e it i old) (hit:s.heap.IsListIter it l i) (hl:s.heap.IsList l items) (hx:items[i]?=none)
 (hQ:∀h',Heap.ExtBut it s.heap h'→Q none { s with heap:=h' }):e1p (model C.prog C.w) A (pyNext (.ref e)) Q E s:=by
 have hT:s.TypeIs (.ref e) "enumerate" :=⟨_,he,rfl⟩;obtain⟨o,ho,hc,hd⟩:=id hit;obtain⟨ol,hol,_,nl,hdl⟩:=hl;unfold pyNext;refine e1k (wpAny_attempt (wpAny_callSpecial?_slot (name:=Str.ofString "__next__") hT F.slot_enumerate_next
  (wpAny_call_entry F.slot_enumerate_next hT F.entry_enumerate_next ?_ (F.args_enumerate_next_1 _))))
 show e1p _ _ (field (.ref e) 2 >>= _) _ _ _;refine e1k (e2d he rfl (x:=.ref it) rfl ?_);refine e1k ?_;unfold Builtin.SmallTypes.nextOf;refine e1k (wpAny_callSpecial?_slot (name:=Str.ofString "__next__") hit.typeIs slot_listiter_next
  (wpAny_call_entry slot_listiter_next hit.typeIs entry_listiter_next ?_ (args_listiter_next _)))
 show e1p _ _ (field (.ref it) 0 >>= _) _ _ s;refine e1k (e2d ho hd (x:=.ref l) rfl ?_);show e1p _ _ (if (Value.ref l==Value.none)=true then _ else _) _ _ s
 show e1p _ _ (field (.ref it) 1 >>= _) _ _ s;refine e1k (e2d ho hd (x:=.int i 0) rfl ?_);show e1p _ _ (seqItems? (.ref l) >>= _) _ _ s;refine e1k (wpAny_seqItems hol hdl ?_);simp only[Int.toNat_natCast,hx];refine e1k (wpAny_rule (e1k (wpAny_setField ho hd (by simp) ?_)))
 have hs:Heap.SameBut it s.heap (s.heap.update it (Obj.mapFields fun vs=>vs.setIfInBounds 0 .none)):=Heap.SameBut.update ..;obtain⟨_,sg'⟩:=Step.one (tk:=s.toks) sg hg hs;refine a6s (A:=A.in1.in1) hk sg' fun h' e hsub ⟨oe,hoe,hce⟩=>?_;refine e1k (wpAny_isInstance (T:="StopIteration") (b:=true) ⟨oe,hoe,hce⟩ isSubtype_stop ?_);exact e1o (hQ _ fun b o hb e=>hsub _ _ ((hs.2 b hb).trans e))
theorem b4c{it l:Addr}{items:Array e1n}(hne:l≠it):∀(n i:Nat) (s:e1m) (Q:List e1n→e1m→Prop),s.heap.IsListIter it l i→s.heap.IsList l items→i+n≤items.size→
  (∀h',h'.IsListIter it l (i+n)→Heap.SameBut it s.heap h'→Q ((items.toList.drop i).take n) { s with heap:=h' })→e1p (model C.prog C.w) A (draw (.ref it) n) Q E s
 |0=>fun i s Q hit _ _ hQ=>by
  show e1p _ _ (pure []) Q E s;exact e1o (by simpa using hQ s.heap hit (Heap.SameBut.refl ..))
 |n+1=>fun i s Q hit ht hle hQ=>by
  have hlt:i<items.size:=by exact a2c (.t N0 N1) (.l (.p N0 (.p N2 O1)) N1) hle
  show e1p _ _ (pyNext (.ref it) >>= _) Q E s;refine e1k (wpAny_pyNext_list_item hit ht (x:=items[i]) (by simp[hlt]) fun h₁ hit₁ hs₁=>?_)
  refine e1k (e1s (b4c hne n (i+1) _ _ hit₁ (ht.extBut hs₁.extBut hne) (by exact a2c (.l (.p (.p N0 O1) N1) N2) (.l (.p N0 (.p N1 O1)) N2) hle) fun h₂ hit₂ hs₂=>e1o ?_))
  have hd:items.toList.drop i=items[i]::items.toList.drop (i+1):=by simp[List.drop_eq_getElem_cons,hlt]
  have:=hQ h₂ (by rw[show i+(n+1)=i+1+n by exact b2b (.e (.p N0 (.p N1 O1)) (.p (.p N0 O1) N1))]; exact hit₂) (hs₁.trans hs₂)
  rw[hd,List.take_succ_cons]at this
  exact this
theorem a5v{Q:List e1n→e1m→Prop}(hk:HOK A g)(sg:Sub g s.heap)(hv:RDH g s.heap v d)(hd:seqD d=some ds)
 (hQ:∀vs h',Sub s.heap h'→RDs g vs ds→Q vs { s with heap:=h' }):e1p (model C.prog C.w) A (unpackItems v ds.length none) Q E s:=by
 have hnew:∀b o,s.heap.get? b=some o→b≠s.heap.objs.size:=fun b o e=>Nat.ne_of_lt (Heap.lt_size e);have hgn:g.get? s.heap.objs.size=none:=by
  cases e:g.get? s.heap.objs.size with
  |none=>rfl
  |some o=>exact absurd (Heap.lt_size (sg _ _ e)) (Nat.lt_irrefl _)
 cases d with
 |tuple l=>
  simp only[seqD,Option.some.injEq]at hd; subst hd;obtain⟨t,vs,rfl,ht,r⟩:=RD.tupleE hv;have ht':=a0t sg ht;have hlen:vs.toArray.size=l.length:=by simpa using r.length
  have hlt:t≠s.heap.objs.size:=by obtain⟨o,ho,_⟩:=ht'; exact hnew _ _ ho
  unfold unpackItems;refine e1k ?_;unfold notIterableAtAll;refine e1k (wpAny_specialOf ht'.typeIs F.slot_tuple_iter.lookup ?_);refine e1o ?_;refine e1k (e1s (wpAny_pyIter_tuple ht' ?_));rw[←hlen];refine e1k (e1s (wpAny_draw_tuple hlt vs.toArray.size 0 _ _ ⟨_,Heap.get?_push_size _ rfl,rfl,rfl⟩ (ht'.push _) (by exact a3f (.l (.p (.k 0) N0) N0)) fun h₁ hit₁ hs₁=>?_))
  have hall:List.take vs.toArray.size (List.drop 0 vs.toArray.toList)=vs.toArray.toList:=by
   rw[List.drop_zero]; exact List.take_of_length_le (by simp)
  rw[hall];rw[if_neg (by simp)]
  have ht₁:h₁.IsTuple t vs.toArray:=(ht'.push _).extBut hs₁.extBut hlt;have sg₁:Sub g h₁:=fun b o e=>(hs₁.2 b (hnew b o (sg _ _ e))).trans (a0f _ _ _ (sg _ _ e));refine e1k (e1s (a2w hk sg₁ hgn hit₁ ht₁ (by simp) fun h₂ he₂=>?_))
  exact e1o (hQ _ h₂ (fun b o e=>he₂ b o (hnew b o e) (hs₁.extBut b o (hnew b o e) (a0f _ _ _ e))) (by simpa using r))
 |list l=>
  simp only[seqD,Option.some.injEq]at hd; subst hd;obtain⟨t,vs,rfl,ht',r⟩:=hv;have hlen:vs.toArray.size=l.length:=by simpa using r.length
  have hlt:t≠s.heap.objs.size:=by obtain⟨o,ho,_⟩:=ht'; exact hnew _ _ ho
  unfold unpackItems;refine e1k ?_;unfold notIterableAtAll;refine e1k (wpAny_specialOf ht'.typeIs slot_list_iter.lookup ?_);refine e1o ?_;refine e1k (e1s (wpAny_pyIter_list ht' ?_));rw[←hlen];refine e1k (e1s (b4c hlt vs.toArray.size 0 _ _ ⟨_,Heap.get?_push_size _ rfl,rfl,rfl⟩ (a0d (a0f _) ht') (by exact a3f (.l (.p (.k 0) N0) N0)) fun h₁ hit₁ hs₁=>?_))
  have hall:List.take vs.toArray.size (List.drop 0 vs.toArray.toList)=vs.toArray.toList:=by
   rw[List.drop_zero]; exact List.take_of_length_le (by simp)
  rw[hall];rw[if_neg (by simp)]
  have ht₁:h₁.IsList t vs.toArray:=(a0d (a0f _) ht').extBut hs₁.extBut hlt;have sg₁:Sub g h₁:=fun b o e=>(hs₁.2 b (hnew b o (sg _ _ e))).trans (a0f _ _ _ (sg _ _ e));refine e1k (e1s (a5l hk sg₁ hgn hit₁ ht₁ (by simp) fun h₂ he₂=>?_))
  exact e1o (hQ _ h₂ (fun b o e=>he₂ b o (hnew b o e) (hs₁.extBut b o (hnew b o e) (a0f _ _ _ e))) (by simpa using r))
 |_=>cases hd
end
end
section
structure IterOK(C:Cfg)(A:e1x)(target:Expr)(I:Addr)(ws:List Addr)(ds:List e1l)(IS:Nat→Heap→Heap→Prop):Prop where
 frame:∀i g h g' h',IS i g h→Sub g g'→(∀b∈ws,∀o,h.get? b=some o→h'.get? b=some o)→(∀b∈ws,g'.get? b=none)→IS i g' h'
 here:∀i g h,IS i g h→∀b∈ws,g.get? b=none∧∃o,h.get? b=some o∧b9t o
 item:∀i d (s:e1m) g (Q:e1n→e1m→Prop) (E:e1n→e1m→Prop),ds[i]?=some d→Sub g s.heap→IS i g s.heap→
  (∀v s' g',Step ws s g s' g'→Sub g' s'.heap→RD g' v d→IS (i+1) g' s'.heap→Q v s')→
  e1p (model C.prog C.w) A (pyNext (.ref I)) (fun r s₁=>match r with
   |some v=>e1p (model C.prog C.w) A (letOwnedTupleGo target (.ref I) v) (fun _ s₂=>Q v s₂) E s₁
   |none=>False) E s
 done:∀(s:e1m) g (Q:e1m→Prop) (E:e1n→e1m→Prop),Sub g s.heap→HOK A g→IS ds.length g s.heap→
  (∀s',Step ws s g s' g→Sub g s'.heap→Q s')→e1p (model C.prog C.w) A (pyNext (.ref I)) (fun r s₁=>match r with|none=>Q s₁|some _=>False) E s
 self:∀i (s:e1m) g (Q:e1n→e1m→Prop) (E:e1n→e1m→Prop),IS i g s.heap→Q (.ref I) s→e1p (model C.prog C.w) A (pyIter (.ref I)) Q E s
set_option backward.match.sparseCases false in
noncomputable def a0l(x:Expr):Bool:=isK 23 x||isK 25 x
section
variable {C:Cfg} {A:e1x} {E:e1n→e1m→Prop} {s:e1m} {g:Heap}
theorem a3m{I:Addr}{T:String}{Q:Unit→e1m→Prop}(ht:a0l target=true)(ho:s.heap.get? I=some o)(hc:o.cls=.type T)
 (hT:(["enumerate", "zip", "dict_itemiterator", "dict_reverseitemiterator", "odict_iterator", "itertools.zip_longest", "itertools.pairwise"].contains T)=false) (hQ:Q () s) :
  e1p (model C.prog C.w) A (letOwnedTupleGo target (.ref I) v) Q E s:=by
 rcases Bool.or_eq_true_iff.mp ht with h|h
 ·obtain⟨y,p,rfl⟩:=c0l h
  exact e1o hQ
 ·obtain⟨elts,x,pos,rfl⟩:=d7a h
  unfold letOwnedTupleGo;cases v with
  |ref a=>
   refine e1k (wpAny_load ho ?_);rw[hc];cases hd:o.data with
   |fields vs=>
    show e1p _ A (if (["enumerate", "zip", "dict_itemiterator", "dict_reverseitemiterator", "odict_iterator", "itertools.zip_longest", "itertools.pairwise"].contains T&&vs[0]? == some (rawInt a))=true then _ else _) Q E s
    rw[hT,Bool.false_and,if_neg (by simp)]
    exact e1o hQ
   |_=>exact e1o hQ
  |_=>exact e1o hQ
theorem a5p{I:Addr}{tk:Nat}(sg:Sub g s.heap)(hg:g.get? I=none)(hk:Heap.ExtBut I s.heap h'):Step [I] s g { s with heap:=h',toks:=tk } g∧Sub g h':=
 ⟨⟨⟨h',tk,rfl⟩,.refl g,fun b o hb e=>.of (hk b o (by simpa using hb) e),fun sg b o e=>hk b o (fun q=>by rw[q,hg]at e; cases e) (sg b o e),fun _ _ _ _ e=>e,id⟩,fun b o e=>hk b o (fun q=>by rw[q,hg]at e; cases e) (sg b o e)⟩
theorem b9z{l I:Addr}{g₀:Heap}(ht:a0l target=true)(hl:g₀.IsList l vs.toArray)(r:RDs g₀ vs ds) :
  IterOK C A target I [I] ds fun i g h=>Sub g₀ g∧g.get? I=none∧h.IsListIter I l i where
 frame:=fun i g h g' h' x s hk hg=>⟨x.1.trans s,hg I (.head _),x.2.2.at fun o e=>hk I (.head _) o e⟩
 here:=fun i g h x b hb=>by cases List.mem_singleton.mp hb; exact⟨x.2.1,x.2.2.imp fun o h=>⟨h.1,by intro es ep; rw[h.2.2]; simp⟩⟩
 item:=fun i d s g Q E hd sg x hQ=>by
  obtain⟨h1,h2,h3⟩:=x;obtain⟨v,hv,rv⟩:=r.get hd;refine wpAny_pyNext_list_item h3 (a0d (h1.trans sg) hl) (x:=v) (by simpa using hv) fun h' hit hs=>?_
  obtain⟨x,y⟩:=Step.one (tk:=s.toks) sg h2 hs;obtain⟨o,ho,hc,_⟩:=id hit;exact a3m ht ho hc (by decide) (hQ v _ g x y (rv.mono h1) ⟨h1,h2,hit⟩)
 done:=fun s g Q E sg hk x hQ=>by
  obtain⟨h1,h2,h3⟩:=x;refine a5l hk sg h2 h3 (a0d (h1.trans sg) hl) (by simp[←r.length]) fun h' he=>?_
  obtain⟨x,y⟩:=a5p (tk:=s.toks) sg h2 he;exact hQ _ x y
 self:=fun i s g Q E x h=>wpAny_pyIter_listiter x.2.2 h
theorem b7z{l I:Addr}{g₀:Heap}(ht:a0l target=true)(hl:g₀.IsTuple l vs.toArray)(r:RDs g₀ vs ds) :
  IterOK C A target I [I] ds fun i g h=>Sub g₀ g∧g.get? I=none∧h.IsTupleIter I l i where
 frame:=fun i g h g' h' x s hk hg=>⟨x.1.trans s,hg I (.head _),Exists.imp (fun o=>And.imp_left (hk I (.head _) o)) x.2.2⟩
 here:=fun i g h x b hb=>by cases List.mem_singleton.mp hb; exact⟨x.2.1,x.2.2.imp fun o h=>⟨h.1,by intro es ep; rw[h.2.2]; simp⟩⟩
 item:=fun i d s g Q E hd sg x hQ=>by
  obtain⟨h1,h2,h3⟩:=x;obtain⟨v,hv,rv⟩:=r.get hd;refine wpAny_pyNext_tuple_item h3 (a0t (h1.trans sg) hl) (x:=v) (by simpa using hv) fun h' hit hs=>?_
  obtain⟨x,y⟩:=Step.one (tk:=s.toks) sg h2 hs;obtain⟨o,ho,hc,_⟩:=id hit;exact a3m ht ho hc (by decide) (hQ v _ g x y (rv.mono h1) ⟨h1,h2,hit⟩)
 done:=fun s g Q E sg hk x hQ=>by
  obtain⟨h1,h2,h3⟩:=x;refine a2w hk sg h2 h3 (a0t (h1.trans sg) hl) (by simp[←r.length]) fun h' he=>?_
  obtain⟨x,y⟩:=a5p (tk:=s.toks) sg h2 he;exact hQ _ x y
 self:=fun i s g Q E x h=>wpAny_pyIter_tupleiter x.2.2 h
theorem b9b{I:Addr}{a c:Int}{n:Nat}(hh:A.handled=none)(ht:a0l target=true) :
  IterOK C A target I [I] ((List.range n).map fun k=>.int (a+(k:Nat)*c)) fun i g h=>g.get? I=none∧IsRangeIter h I (a+(i:Nat)*c) ((n:Int)-(i:Nat)) c where
 frame:=fun i g h g' h' x s hk hg=>⟨hg I (.head _),hk I (.head _) _ x.2⟩
 here:=fun i g h x b hb=>by cases List.mem_singleton.mp hb; exact⟨x.1,_,x.2,by intro es ep h; cases h⟩
 item:=fun i d s g Q E hd sg x hQ=>by
  obtain⟨h2,h3⟩:=x;have hi:i<n:=by have:=(List.getElem?_eq_some_iff.mp hd).1; simpa using this
  rw[List.getElem?_map,List.getElem?_range hi]at hd;simp only[Option.map_some,Option.some.injEq]at hd;subst hd;refine wpAny_pyNext_range_item h3 (by exact a1b (.t (.z 0) (.S (.c N0) (.c N1))) (.t N1 N0) hi) fun h' hit hs=>?_
  obtain⟨x,y⟩:=Step.one (tk:=s.toks+1) sg h2 hs;have e1:a+(i:Nat)*c+c=a+((i+1:Nat):Int)*c:=by rw[Int.natCast_add,Int.add_mul]; omega
  have e2:(n:Int)-(i:Nat)-1=(n:Int)-((i+1:Nat):Int):=by exact b2b (.e (.S (.S (.c N0) (.c N1)) (.z 1)) (.S (.c N0) (.c (.p N1 O1))))
  rw[e1,e2]at hit;exact a3m ht hit rfl (by decide) (hQ _ _ g x y (.int _ _) ⟨h2,hit⟩)
 done:=fun s g Q E sg hk x hQ=>by
  obtain⟨h2,h3⟩:=x;refine wpAny_pyNext_range_end hh h3 (by simp) fun h' he=>?_
  obtain⟨x,y⟩:=a5p (tk:=s.toks) sg h2 he;exact hQ _ x y
 self:=fun i s g Q E x h=>wpAny_pyIter_rangeiter x.2 h
theorem c7i{l I:Addr}{g₀:Heap}(hh:A.handled=none)(ht:a0l target=true)(hl:g₀.IsList l vs.toArray)(r:RDs g₀ vs ds) :
  IterOK C A target I [I] ds.reverse fun i g h=>Sub g₀ g∧g.get? I=none∧h.IsRevIter I l ((ds.length:Int)-1-(i:Nat)) where
 frame:=fun i g h g' h' x s hk hg=>⟨x.1.trans s,hg I (.head _),x.2.2.at fun o e=>hk I (.head _) o e⟩
 here:=fun i g h x b hb=>by cases List.mem_singleton.mp hb; exact⟨x.2.1,x.2.2.imp fun o h=>⟨h.1,by intro es ep; rw[h.2.2]; simp⟩⟩
 item:=fun i d s g Q E hd sg x hQ=>by
  obtain⟨h1,h2,h3⟩:=x;have hi:i<ds.length:=by have:=(List.getElem?_eq_some_iff.mp hd).1; simpa using this
  have hd':ds[ds.length-1-i]?=some d:=by rw[←hd,List.getElem?_reverse hi]
  obtain⟨v,hv,rv⟩:=r.get hd';have e0:(ds.length:Int)-1-(i:Nat)=((ds.length-1-i:Nat):Int):=by exact a1b (.e (.S (.S (.c N0) (.z 1)) (.c N1)) (.c (.s (.s N0 O1) N1))) (.t N1 N0) hi
  rw[e0]at h3;refine wpAny_pyNext_rev_item h3 (a0d (h1.trans sg) hl) (x:=v) (by simpa using hv) fun h' hit hs=>?_
  obtain⟨x,y⟩:=Step.one (tk:=s.toks) sg h2 hs;have e1:((ds.length-1-i:Nat):Int)-1=(ds.length:Int)-1-((i+1:Nat):Int):=by exact a1b (.e (.S (.c (.s (.s N0 O1) N1)) (.z 1)) (.S (.S (.c N0) (.z 1)) (.c (.p N1 O1)))) (.e (.S (.S (.c N0) (.z 1)) (.c N1)) (.c (.s (.s N0 O1) N1))) e0
  rw[e1]at hit;obtain⟨o,ho,hc,_⟩:=id hit;exact a3m ht ho hc (by decide) (hQ v _ g x y (rv.mono h1) ⟨h1,h2,hit⟩)
 done:=fun s g Q E sg hk x hQ=>by
  obtain⟨h1,h2,h3⟩:=x;have e0:(ds.length:Int)-1-((ds.reverse.length:Nat):Int)=-1:=by simp; exact a3f (.e (.S (.S (.c N0) (.z 1)) (.c N0)) (.z (Int.neg 1)))
  rw[e0]at h3;refine wpAny_pyNext_rev_end hh h3 fun h' he=>?_;obtain⟨x,y⟩:=a5p (tk:=s.toks) sg h2 he;exact hQ _ x y
 self:=fun i s g Q E x h=>wpAny_pyIter_revIter x.2.2 h
theorem c0o{l I it:Addr}{x1:Nat}{pos:Pos}{g₀:Heap}(hne:I≠it)(hl:g₀.IsList l vs.toArray)(r:RDs g₀ vs ds) :
  IterOK C A (.Tuple elts x1 pos) I [I,it] (a8v ds) fun i g h=>Sub g₀ g∧g.get? I=none∧g.get? it=none∧h.IsListIter it l i∧∃old,IsEnum h I it (i:Nat) old where
 frame:=fun i g h g' h' x s hk hg=>⟨x.1.trans s,hg I (.head _),hg it (.tail _ (.head _)),x.2.2.2.1.at fun o e=>hk it (.tail _ (.head _)) o e,x.2.2.2.2.imp fun old h4=>hk I (.head _) _ h4⟩
 here:=fun i g h x b hb=>by
  rcases List.mem_cons.mp hb with rfl|hb
  ·exact⟨x.2.1,x.2.2.2.2.elim fun _ h4=>⟨_,h4,by intro es ep h; cases h⟩⟩
  ·cases List.mem_singleton.mp hb; exact⟨x.2.2.1,x.2.2.2.1.imp fun o h=>⟨h.1,by intro es ep; rw[h.2.2]; simp⟩⟩
 item:=fun i d s g Q E hd sg x hQ=>by
  obtain⟨h1,h2,h2',h3,old,h4⟩:=x;have hi:i<ds.length:=by have:=(List.getElem?_eq_some_iff.mp hd).1; simpa[a8v]using this
  have hd2:ds[i]?=some (ds[i]'hi):=List.getElem?_eq_getElem hi;obtain⟨v,hv,rv⟩:=r.get hd2;have hdd:d=.tuple [.int (i:Int),ds[i]'hi]:=by
   unfold a8v at hd;rw[List.getElem?_zipWith,List.getElem?_range hi,hd2]at hd;simpa using hd.symm
  subst hdd;refine wpAny_pyNext_enum_item h4 h3 (a0d (h1.trans sg) hl) (x:=v) (by simpa using hv) hne fun h' he' hit hT hsz hk=>?_
  refine wpAny_letOwnedTupleGo_enum he' fun h'' he'' hs''=>?_;have hInew:s.heap.objs.size≠I:=Ne.symm (Nat.ne_of_lt (Heap.lt_size h4));have hTnone:s.heap.get? s.heap.objs.size=none:=a0e _;have hgT:g.get? s.heap.objs.size=none:=by
   cases e:g.get? s.heap.objs.size with
   |none=>rfl
   |some o=>rw[sg _ _ e]at hTnone; cases hTnone
  have hkk:∀b o,b≠I→b≠it→s.heap.get? b=some o→h''.get? b=some o:=fun b o n1 n2 e=>(hs''.2 b n1).trans (hk b o n1 n2 e);have hT':h''.get? s.heap.objs.size=some { cls:=.type "tuple",data:=.seq #[.int (i:Nat) s.toks,v] }:=(hs''.2 _ hInew).trans hT;have sg'':Sub g h'':=fun b o e=>hkk b o (fun q=>by rw[q,h2]at e; cases e) (fun q=>by rw[q,h2']at e; cases e) (sg b o e)
  obtain⟨g',f1,f2,f3,f4,f5⟩:=a5o sg'' s.heap.objs.size (fun o e hc=>by rw[hT']at e; cases e; simp at hc)
  have hst:Step [I,it] s g { s with heap:=h'',toks:=s.toks+1 } g':=⟨⟨h'',_,rfl⟩,f1,fun b o hb e=>by
    simp at hb; exact .of (hkk b o hb.1 hb.2 e),fun _=>f2,fun b o hb e eg=>(f4 b fun q=>by rw[q,hTnone]at e; cases e).trans eg,f5⟩
  have hit0:it≠s.heap.objs.size:=by obtain⟨o,ho,_⟩:=h3; exact Nat.ne_of_lt (Heap.lt_size ho)
  refine hQ _ _ g' hst f2 (RD.tuple (vs:=[.int (i:Nat) s.toks,v]) ⟨_,f3.trans hT',rfl,0,rfl⟩ (.cons (.int _ _) (.one ((rv.mono h1).mono f1)))) ⟨h1.trans f1,?_,?_,?_,v,?_⟩
  ·exact(f4 I (Ne.symm hInew)).trans h2
  ·exact(f4 it hit0).trans h2'
  ·obtain⟨o,ho,q⟩:=hit; exact⟨o,(hs''.2 it (Ne.symm hne)).trans ho,q⟩
  ·have e1:((i:Nat):Int)+1=((i+1:Nat):Int):=by exact a3f (.e (.P (.c N0) (.z 1)) (.c (.p N0 O1)))
   rw[←e1]; exact he''
 done:=fun s g Q E sg hk x hQ=>by
  obtain⟨h1,h2,h2',h3,old,h4⟩:=x;have hlen:(a8v ds).length=ds.length:=by simp[a8v]
  rw[hlen]at h3 h4;refine b1q hk sg h2' h4 h3 (a0d (h1.trans sg) hl) (by simp[←r.length]) fun h' he=>?_
  obtain⟨x,y⟩:=a5p (tk:=s.toks) sg h2' he;exact hQ _ (x.mono fun b hb=>by simp at hb; simp[hb]) y
 self:=fun i s g Q E x h=>x.2.2.2.2.elim fun _ h4=>wpAny_pyIter_enum h4 h
theorem c5b{z TI TO i1 i2 l1 l2:Addr}{vs ws:List e1n}{ds es:List e1l}{x1:Nat}{pos:Pos}{g₀:Heap}(hh:A.handled=none)(D:ZipApart z TI TO i1 i2 l1 l2)
 (hl:g₀.IsList l1 vs.toArray) (r:RDs g₀ vs ds) (hm:g₀.IsList l2 ws.toArray) (q:RDs g₀ ws es) :
  IterOK C A (.Tuple elts x1 pos) z [z,TO,i1,i2,TI] (c1q ds es) fun i g h=>Sub g₀ g∧(∀b∈[z,TO,i1,i2,TI],g.get? b=none)∧IsZip h z TI TO .none∧IsPair h TI (.ref i1) (.ref i2)∧(∃a b,IsPair h TO a b)∧h.IsListIter i1 l1 i∧h.IsListIter i2 l2 i where
 frame:=fun i g h g' h' ⟨h1,h2,h3,h4,⟨a,b,h5⟩,h6,h7⟩ s hk hg=>⟨h1.trans s,hg,hk z (by simp) _ h3,hk TI (by simp) _ h4,⟨a,b,hk TO (by simp) _ h5⟩,h6.at fun o e=>hk i1 (by simp) o e,h7.at fun o e=>hk i2 (by simp) o e⟩
 here:=fun i g h ⟨h1,h2,h3,h4,⟨a,b,h5⟩,⟨o1,ho1,_,hc1⟩,⟨o2,ho2,_,hc2⟩⟩ c hc=>by
  refine⟨h2 c hc,?_⟩;simp at hc
  rcases hc with rfl|rfl|rfl|rfl|rfl
  ·exact⟨_,h3,by intro es ep h; cases h⟩
  ·exact⟨_,h5,by intro es ep h; cases h⟩
  ·exact⟨_,ho1,by intro es ep; rw[hc1]; simp⟩
  ·exact⟨_,ho2,by intro es ep; rw[hc2]; simp⟩
  ·exact⟨_,h4,by intro es ep h; cases h⟩
 item:=fun i d s g Q E hd sg ⟨h1,h2,h3,h4,⟨a,b,h5⟩,h6,h7⟩ hQ=>by
  have hi:i<ds.length∧i<es.length:=by have:=(List.getElem?_eq_some_iff.mp hd).1; simp[c1q]at this; omega
  have hd1:ds[i]?=some (ds[i]'hi.1):=List.getElem?_eq_getElem hi.1;have hd2:es[i]?=some (es[i]'hi.2):=List.getElem?_eq_getElem hi.2;obtain⟨v,hv,rv⟩:=r.get hd1;obtain⟨u,hu,ru⟩:=q.get hd2;have hdd:d=.tuple [ds[i]'hi.1,es[i]'hi.2]:=by
   unfold c1q at hd;rw[List.getElem?_zipWith,hd1,hd2]at hd;simpa using hd.symm
  subst hdd;refine wpAny_pyNext_zip_item D h3 h4 h5 h6 h7 (a0d (h1.trans sg) hl) (a0d (h1.trans sg) hm) (x:=v) (y:=u) (by simpa using hv) (by simpa using hu) fun h' hz' hTO' hi1 hi2 hT hsz hk=>?_
  refine wpAny_letOwnedTupleGo_zip hz' fun h'' hz'' hs''=>?_;have hnew:∀b o,s.heap.get? b=some o→s.heap.objs.size≠b:=fun b o e=>Ne.symm (Nat.ne_of_lt (Heap.lt_size e));have hTnone:s.heap.get? s.heap.objs.size=none:=a0e _;have hkk:∀b o,b≠z→b≠TO→b≠i1→b≠i2→s.heap.get? b=some o→h''.get? b=some o:=fun b o n1 n2 n3 n4 e=>(hs''.2 b n1).trans (hk b o n1 n2 n3 n4 e);have hT':h''.get? s.heap.objs.size=some { cls:=.type "tuple",data:=.seq #[v,u] }:=(hs''.2 _ (hnew _ _ h3)).trans hT;have ne_of:∀{b c:Addr} {o:Obj},g.get? b=some o→g.get? c=none→b≠c:=fun e1 e2 q=>by rw[q,e2]at e1; cases e1
  have sg'':Sub g h'':=fun b o e=>hkk b o (ne_of e (h2 z (by simp))) (ne_of e (h2 TO (by simp))) (ne_of e (h2 i1 (by simp))) (ne_of e (h2 i2 (by simp))) (sg b o e)
  obtain⟨g',f1,f2,f3,f4,f5⟩:=a5o sg'' s.heap.objs.size (fun o e hc=>by rw[hT']at e; cases e; simp at hc)
  have hst:Step [z,TO,i1,i2,TI] s g { s with heap:=h'',toks:=s.toks } g':=⟨⟨h'',_,rfl⟩,f1,fun b o hb e=>by
    simp at hb; exact .of (hkk b o hb.1 hb.2.1 hb.2.2.1 hb.2.2.2.1 e),fun _=>f2,fun b o hb e eg=>(f4 b fun q=>by rw[q,hTnone]at e; cases e).trans eg,f5⟩
  obtain⟨o1,ho1,hq1⟩:=id h6;obtain⟨o2,ho2,hq2⟩:=id h7;refine hQ _ _ g' hst f2 (RD.tuple (vs:=[v,u]) ⟨_,f3.trans hT',rfl,0,rfl⟩ (.cons ((rv.mono h1).mono f1) (.one ((ru.mono h1).mono f1)))) ⟨h1.trans f1,fun b hb=>?_,hz'',?_,⟨v,u,?_⟩,?_,?_⟩
  ·refine(f4 b fun q=>?_).trans (h2 b hb)
   simp at hb
   rcases hb with e|e|e|e|e
   ·exact hnew _ _ h3 (q.symm.trans e)
   ·exact hnew _ _ h5 (q.symm.trans e)
   ·exact hnew _ _ ho1 (q.symm.trans e)
   ·exact hnew _ _ ho2 (q.symm.trans e)
   ·exact hnew _ _ h4 (q.symm.trans e)
  ·exact hkk TI _ D.TIz D.TITO D.TIi1 D.TIi2 h4
  ·exact(hs''.2 _ D.TOz).trans hTO'
  ·obtain⟨o,ho,q⟩:=hi1; exact⟨o,(hs''.2 _ D.i1z).trans ho,q⟩
  ·obtain⟨o,ho,q⟩:=hi2; exact⟨o,(hs''.2 _ D.i2z).trans ho,q⟩
 done:=fun s g Q E sg hk ⟨h1,h2,h3,h4,⟨a,b,h5⟩,h6,h7⟩ hQ=>by
  have hlen:(c1q ds es).length=min ds.length es.length:=by simp[c1q]
  rw[hlen]at h6 h7;refine wpAny_pyNext_zip_end hh D h3 h4 h5 h6 h7 (a0d (h1.trans sg) hl) (a0d (h1.trans sg) hm) ?_ fun h' hk'=>?_
  ·rcases Nat.le_total ds.length es.length with hle|hle
   ·left; rw[Nat.min_eq_left hle]; simp[←r.length]
   ·right; rw[Nat.min_eq_right hle]; simp[←q.length]
  ·have ne_of:∀{b c:Addr} {o:Obj},g.get? b=some o→g.get? c=none→b≠c:=fun e1 e2 q=>by rw[q,e2]at e1; cases e1
   refine hQ _ ⟨⟨h',s.toks,rfl⟩,.refl g,fun b o hb e=>by simp at hb; exact .of (hk' b o hb.1 hb.2.1 hb.2.2.1 hb.2.2.2.1 e),fun _ b o e=>hk' b o (ne_of e (h2 z (by simp))) (ne_of e (h2 TO (by simp))) (ne_of e (h2 i1 (by simp))) (ne_of e (h2 i2 (by simp))) (sg b o e),fun _ _ _ _ e=>e,id⟩ fun b o e=>?_
   exact hk' b o (ne_of e (h2 z (by simp))) (ne_of e (h2 TO (by simp))) (ne_of e (h2 i1 (by simp))) (ne_of e (h2 i2 (by simp))) (sg b o e)
 self:=fun i s g Q E ⟨_,_,h3,_⟩ h=>wpAny_pyIter_zip h3 h
end
end
section
def d5g(C:Cfg)(A:e1x)(E:e1n→e1m→Prop)(g:Heap)(s:e1m)(target:Expr)(t:Sem e1n)(ds:List e1l):Prop:=
 ∀Q:e1n→e1m→Prop,(∀I ws IS s',IterOK C A target I ws ds IS→IS 0 g s'.heap→(∀b∈ws,s.heap.get? b=none)→Step [] s g s' g→Q (.ref I) s')→e1p (model C.prog C.w) A t Q E s
section
variable {C:Cfg} {A:e1x} {E:e1n→e1m→Prop} {s:e1m} {g:Heap} {target:Expr}
theorem neA{a b:Nat}(h:a<b∨b<a):a≠b:=by exact a1b (.n (.e N0 N1)) (.b 1 (.t N0 N1) (.t N1 N0)) h
theorem a2y(sg:Sub g s.heap){b:Addr}(h:s.heap.get? b=none):g.get? b=none:=by
 cases e:g.get? b with
 |none=>rfl
 |some o=>rw[sg _ _ e]at h; cases h
theorem a0s{b:Addr}(hb:h.objs.size≤b):h.get? b=none:=by
 cases e:h.get? b with
 |none=>rfl
 |some o=>exact absurd (Heap.lt_size e) (Nat.not_lt.mpr hb)
theorem d4y(ht:a0l target=true)(sg:Sub g s.heap)(hv:RD g v d)(hd:seqD d=some ds):d5g C A E g s target (pyIter v) ds:=fun Q h=>by
 cases d with
 |list l=>
  simp only[seqD,Option.some.injEq]at hd; subst hd;obtain⟨a,vs,rfl,hl,r⟩:=hv.listE;refine wpAny_pyIter_list (a0d sg hl) ?_;exact h _ _ _ _ (b9z ht hl r) ⟨.refl g,a2y sg (a0e _),_,Heap.get?_push_size _ rfl,rfl,rfl⟩ (fun b hb=>by simp at hb; subst hb; exact a0e _) (.ext (tk:=s.toks) (a0f _))
 |tuple l=>
  simp only[seqD,Option.some.injEq]at hd; subst hd;obtain⟨a,vs,rfl,hl,r⟩:=hv.tupleE;refine wpAny_pyIter_tuple (a0t sg hl) ?_;exact h _ _ _ _ (b7z ht hl r) ⟨.refl g,a2y sg (a0e _),_,Heap.get?_push_size _ rfl,rfl,rfl⟩ (fun b hb=>by simp at hb; subst hb; exact a0e _) (.ext (tk:=s.toks) (a0f _))
 |_=>cases hd
theorem a6i{r:Addr}{a b c:Int}{t u v:Tok}{n:Nat}{s₀:e1m}(hh:A.handled=none)(ht:a0l target=true)(sg:Sub g s.heap)(hr:IsRange s.heap r a b c t u v)
 (hsmall:Builtin.Range.small a b c=true) (hn:Builtin.Range.rangeSize a b c=(n:Int)) (x:Step [] s₀ g s g)
 (Q:e1n→e1m→Prop) (h:∀I ws IS s',IterOK C A target I ws ((List.range n).map fun k=>.int (a+(k:Nat)*c)) IS→IS 0 g s'.heap→(∀b∈ws,s₀.heap.get? b=none)→Step [] s₀ g s' g→Q (.ref I) s') :
  e1p (model C.prog C.w) A (pyIter (.ref r)) Q E s:=by
 refine wpAny_pyIter_range hr hsmall ?_;have hn0:s₀.heap.get? s.heap.objs.size=none:=by
  cases e:s₀.heap.get? s.heap.objs.size with
  |none=>rfl
  |some o=>exact((x.keep _ _ (by simp) e).none (a0e _)).elim
 refine h _ _ _ _ (b9b (a:=a) (c:=c) (n:=n) hh ht) ⟨a2y sg (a0e _),?_⟩ (fun b hb=>by simp at hb; subst hb; exact hn0) (x.tr (.ext (tk:=s.toks) (a0f _)))
 have:=Heap.get?_push_size s.heap (o:={ cls:=.type "range_iterator",data:=.fields #[rawInt a,rawInt (Builtin.Range.rangeSize a b c),rawInt c] }) rfl
 rw[hn]at this
 rw[hn];simpa using this
theorem c2x(a:Int)(n:Nat):(List.range n).map (fun k=>PyData.int (a+(k:Nat)*1))=b9w a n:=by
 unfold b9w;exact List.map_congr_left fun k _=>by simp
theorem c1s{n:Int}{t:Tok}(hh:A.handled=none)(ht:a0l target=true)(sg:Sub g s.heap)(hn:n≤1000000)(Q:e1n→e1m→Prop)
 (h:∀I ws IS s',IterOK C A target I ws (b9w 0 n.toNat) IS→IS 0 g s'.heap→(∀b∈ws,s.heap.get? b=none)→Step [] s g s' g→Q (.ref I) s') (hlo:-1000000≤n) :
  e1p (model C.prog C.w) A (call (.type "range") [.int n t]) (fun v s₁=>e1p (model C.prog C.w) A (pyIter v) Q E s₁) E s:=by
 refine call_range_1 ?_;have hsz:Builtin.Range.rangeSize 0 n 1=((n.toNat:Nat):Int):=by rw[rangeSize_one]; split <;> (first|exact a6c (.e (.S Z0 (.z 0)) (.c (.u 0 Z0))) (.t (.z 0) Z0) ‹_›|exact a6c (.e (.z 0) (.c (.u 0 Z0))) (.n (.t (.z 0) Z0)) ‹_›|omega)
 refine a6i (n:=n.toNat) hh ht (sg.trans (a0f _)) (IsRange.new s.heap 0 n 1 s.toks t (s.toks+1)) (small_one (by exact c5u (.l (.z (- (2^62))) (.z 0))) (by exact c5u (.t (.z 0) (.z (Int.pow 2 62)))) (by exact a6c (.l (.z (- (2^62))) Z0) (.l (.z (Int.neg 1000000)) Z0) hlo) (by exact a6c (.t Z0 (.z (Int.pow 2 62))) (.l Z0 (.z 1000000)) hn)) hsz (.ext (a0f _)) Q fun I ws IS s' i1 i2 i3 i4=>?_
 rw[c2x]at i1;exact h I ws IS s' i1 i2 i3 i4
theorem c3o{a b:Int}{t u:Tok}(hh:A.handled=none)(ht:a0l target=true)(sg:Sub g s.heap)(ha:-1000000≤a∧a≤1000000)(hb:-1000000≤b∧b≤1000000)(Q:e1n→e1m→Prop)
 (h:∀I ws IS s',IterOK C A target I ws (b9w a (b-a).toNat) IS→IS 0 g s'.heap→(∀b∈ws,s.heap.get? b=none)→Step [] s g s' g→Q (.ref I) s') :
  e1p (model C.prog C.w) A (call (.type "range") [.int a t,.int b u]) (fun v s₁=>e1p (model C.prog C.w) A (pyIter v) Q E s₁) E s:=by
 refine call_range_2 ?_;have hsz:Builtin.Range.rangeSize a b 1=(((b-a).toNat:Nat):Int):=by rw[rangeSize_one]; split <;> (first|exact d7f (.e (.S Z0 Z1) (.c (.u 0 (.S Z0 Z1)))) (.t Z1 Z0) ‹_›|exact d7f (.e (.z 0) (.c (.u 0 (.S Z0 Z1)))) (.n (.t Z1 Z0)) ‹_›|omega)
 refine a6i (n:=(b-a).toNat) hh ht (sg.trans (a0f _)) (IsRange.new s.heap a b 1 t u s.toks) (small_one (by exact a6c (.l (.z (- (2^62))) Z0) (.a (.l (.z (Int.neg 1000000)) Z0) (.l Z0 (.z 1000000))) ha) (by exact a6c (.t Z0 (.z (Int.pow 2 62))) (.a (.l (.z (Int.neg 1000000)) Z0) (.l Z0 (.z 1000000))) ha) (by exact a6c (.l (.z (- (2^62))) Z0) (.a (.l (.z (Int.neg 1000000)) Z0) (.l Z0 (.z 1000000))) hb) (by exact a6c (.t Z0 (.z (Int.pow 2 62))) (.a (.l (.z (Int.neg 1000000)) Z0) (.l Z0 (.z 1000000))) hb)) hsz (.ext (a0f _)) Q fun I ws IS s' i1 i2 i3 i4=>?_
 rw[c2x]at i1;exact h I ws IS s' i1 i2 i3 i4
theorem d0f{l:List e1l}{x1:Nat}{pos:Pos}(sg:Sub g s.heap)(hv:RD g v (.list l))(Q:e1n→e1m→Prop)
 (h:∀I ws IS s',IterOK C A (.Tuple elts x1 pos) I ws (a8v l) IS→IS 0 g s'.heap→(∀b∈ws,s.heap.get? b=none)→Step [] s g s' g→Q (.ref I) s') :
  e1p (model C.prog C.w) A (call (.type "enumerate") [v]) (fun v s₁=>e1p (model C.prog C.w) A (pyIter v) Q E s₁) E s:=by
 obtain⟨a,vs,rfl,hl,r⟩:=hv.listE;refine call_enumerate_list (a0d sg hl) fun h' he hit hsz hk=>wpAny_pyIter_enum he ?_;have n0:s.heap.get? s.heap.objs.size=none:=a0e _;have n1:s.heap.get? (s.heap.objs.size+1)=none:=a0s (Nat.le_succ _);refine h _ _ _ _ (c0o (Nat.ne_of_gt (Nat.lt_succ_self _)) hl r) ⟨.refl g,a2y sg n1,a2y sg n0,hit,.none,he⟩ (fun b hb=>?_) (.ext (tk:=s.toks) hk);simp at hb
 rcases hb with rfl|rfl
 ·exact n1
 ·exact n0
theorem d3y{v u:e1n}{l m:List e1l}{x1:Nat}{pos:Pos}(hh:A.handled=none)(sg:Sub g s.heap)(hv:RD g v (.list l))(hu:RD g u (.list m))(Q:e1n→e1m→Prop)
 (h:∀I ws IS s',IterOK C A (.Tuple elts x1 pos) I ws (c1q l m) IS→IS 0 g s'.heap→(∀b∈ws,s.heap.get? b=none)→Step [] s g s' g→Q (.ref I) s') :
  e1p (model C.prog C.w) A (call (.type "zip") [v,u]) (fun v s₁=>e1p (model C.prog C.w) A (pyIter v) Q E s₁) E s:=by
 obtain⟨a,vs,rfl,hl,r⟩:=hv.listE;obtain⟨b,ws,rfl,hm,q⟩:=hu.listE;have hl':=a0d sg hl;have hm':=a0d sg hm;have ha:a<s.heap.objs.size:=by obtain⟨o,ho,_⟩:=hl'; exact Heap.lt_size ho
 have hb:b<s.heap.objs.size:=by obtain⟨o,ho,_⟩:=hm'; exact Heap.lt_size ho
 refine call_zip_2 hl' hm' fun h' hz hTI hTO h1 h2 hsz hk=>wpAny_pyIter_zip hz ?_;have nn:∀k,s.heap.get? (s.heap.objs.size+k)=none:=fun k=>a0s (Nat.le_add_right _ _);have key:∀c∈[s.heap.objs.size+4,s.heap.objs.size+3,s.heap.objs.size,s.heap.objs.size+1,s.heap.objs.size+2],s.heap.get? c=none:=fun c hc=>by
  simp at hc
  rcases hc with rfl|rfl|rfl|rfl|rfl
  ·exact nn 4
  ·exact nn 3
  ·exact nn 0
  ·exact nn 1
  ·exact nn 2
 have D:ZipApart (s.heap.objs.size+4) (s.heap.objs.size+2) (s.heap.objs.size+3) s.heap.objs.size (s.heap.objs.size+1) a b:=by
  generalize s.heap.objs.size=z at ha hb;have ha':@LT.lt Nat _ a z:=ha;have hb':@LT.lt Nat _ b z:=hb;constructor <;> (refine neA ?_; omega)
 exact h _ _ _ _ (c5b hh D hl r hm q) ⟨.refl g,fun c hc=>a2y sg (key c hc),hz,hTI,⟨_,_,hTO⟩,h1,h2⟩ key (.ext (tk:=s.toks) hk)
theorem d4s{l:List e1l}(hh:A.handled=none)(ht:a0l target=true)(sg:Sub g s.heap)(hv:RD g v (.list l))(Q:e1n→e1m→Prop)
 (h:∀I ws IS s',IterOK C A target I ws l.reverse IS→IS 0 g s'.heap→(∀b∈ws,s.heap.get? b=none)→Step [] s g s' g→Q (.ref I) s') :
  e1p (model C.prog C.w) A (call (.type "reversed") [v]) (fun v s₁=>e1p (model C.prog C.w) A (pyIter v) Q E s₁) E s:=by
 obtain⟨a,vs,rfl,hl,r⟩:=hv.listE;have hget:=Heap.get?_push_size s.heap (o:=revObj a ((vs.toArray.size:Int)-1)) rfl;refine call_reversed_list (a0d sg hl) (wpAny_pyIter_revIter (s:={ s with heap:=s.heap.push _ }) ⟨_,hget,rfl,rfl⟩ ?_)
 refine h _ _ _ _ (c7i hh ht hl r) ⟨.refl g,a2y sg (a0e _),_,hget,rfl,?_⟩ (fun b hb=>by simp at hb; subst hb; exact a0e _) (.ext (tk:=s.toks) (a0f _))
 have:=r.length
 simp[revObj,this]
end
end
section
section
variable {C:Cfg} {sc:SI} {env:Env} {g g' h h':Heap} {al:List Addr} {st:St} {A:e1x} {E:e1n→e1m→Prop} {s:e1m}
theorem b4f{l:List (Str×Nat)}(hn:(l.map (·.2)).Nodup){x y:Str}(hx:l.lookup x=some i)(hy:l.lookup y=some i):x=y:=by
 have h1:=e1r hx;have h2:=e1r hy;obtain⟨a,ha,e1⟩:=List.getElem_of_mem h1;obtain⟨b,hb,e2⟩:=List.getElem_of_mem h2;have e:(l.map (·.2))[a]'(by simpa using ha)=(l.map (·.2))[b]'(by simpa using hb):=by simp[e1,e2]
 have hab:=(List.getElem_inj (h₀:=by simpa using ha) (h₁:=by simpa using hb) hn).mp e
 subst hab;rw[e1]at e2;exact congrArg Prod.fst e2
theorem a3d{l:List (Str×Addr)}(hn:(l.map (·.2)).Nodup){x y:Str}{c d:Addr}(hx:l.lookup x=some c)(hy:l.lookup y=some d)(hxy:x≠y):c≠d:=fun e=>by
 subst e; exact hxy (b4f (l:=l) hn hx hy)
theorem d1m{st:St}{i j:Nat}{u:V}(h:j≠i):(st.set i u).get j=st.get j:=by
 unfold St.set St.get;simp only[List.getD_eq_getElem?_getD,List.getElem?_set];rw[if_neg (Ne.symm h)]
theorem b2h{st:St}{u:V}:(st.set i u).get i=u∨(st.set i u).get i=.undef:=by
 unfold St.set St.get;simp only[List.getD_eq_getElem?_getD,List.getElem?_set,if_true]
 by_cases hl:i<st.vars.length
 ·rw[if_pos hl]; exact .inl rfl
 ·rw[if_neg hl]; exact .inr rfl
structure SIOK(sc:SI):Prop where
 nd:(sc.ids.map (·.2)).Nodup
 kinds:∀x i,sc.ids.lookup x=some i→sc.names.lookup x=some .local∨sc.names.lookup x=some .cell∨sc.names.lookup x=some .free
theorem a1h{pos:Pos}{Q:e1n→e1m→Prop}(e:EnvOK sc env)(R:Rel C sc env g s.heap al st)(hi:sc.ids.lookup x=some i)(hu:st.get i ≠ .undef)
 (hd:(x==("__debug__" : Str))=false) (hc:(x==("__classdict__" : Str))=false) (h:∀v,InV C g al v (st.get i)→Q v s):e1p (model C.prog C.w) A (eval (.Name x pos) env) Q E s:=by
 rcases R.vars x i hi with h0|⟨v,hl,hv⟩
 ·exact absurd (h0 _ rfl) hu
 ·refine wpAny_Name ?_ hd
  rcases hl with⟨hk,m,hn,hm⟩|⟨hk,c,hcl,hcell⟩
  ·exact e2g e.kind hk hn hm (h v hv)
  ·rcases hk with hk|hk
   ·exact wpAny_loadName_cell e.kind hk hcl hcell (h v hv)
   ·exact wpAny_loadName_free e.kind hk hcl hcell (h v hv) hc
theorem a9k{u:V}{Q:Unit→e1m→Prop}(so:SIOK sc)(e:EnvOK sc env)(R:Rel C sc env g s.heap al st)(hi:sc.ids.lookup x=some i)(hk:sc.names.lookup x=some .local∨sc.names.lookup x=some .cell)
 (hv:InV C g al v u) (h:∀s' b,(b=env.locals∨(sc.names.lookup x=some .cell∧env.cells.lookup x=some b))→Step [b] s g s' g→Rel C sc env g s'.heap al (st.set i u)→Look env s'.heap x v→(∀y,y≠x→∀w,Look env s.heap y w→Look env s'.heap y w)→Q () s'):e1p (model C.prog C.w) A (storeName env x v) Q E s:=by
 have sep:∀{b:Addr} {h':Heap} {tk:Nat},b∈a4o env→g.get? b=none→Heap.SameBut b s.heap h'→
   (∃m,h'.Ns env.locals m)→(∀y,sc.names.lookup y=some .cell∨sc.names.lookup y=some .free→∃c v,env.cells.lookup y=some c∧h'.IsCell c v)→
   (Look env h' x v)→(∀y,y≠x→∀w,Look env s.heap y w→Look env h' y w)→(∃o,h'.get? b=some o)→
   Step [b] s g { s with heap:=h',toks:=tk } g∧Rel C sc env g h' al (st.set i u)∧Look env h' x v∧(∀y,y≠x→∀w,Look env s.heap y w→Look env h' y w):=by
  intro b h' tk hb hbg hs hns hcell hx hy hal;have hkb:∀c o,c≠b→s.heap.get? c=some o→h'.get? c=some o:=fun c o hc e=>(hs.2 c hc).trans e;have hgb:∀c o,g.get? c=some o→c≠b:=fun c o e q=>by rw[q,hbg]at e; cases e
  refine⟨⟨⟨h',tk,rfl⟩,.refl g,fun c o hc e=>.of (hkb c o (by simpa using hc) e),fun sg c o e=>hkb c o (hgb c o e) (sg c o e),fun _ _ _ _ e=>e,id⟩,?_,hx,hy⟩
  exact{
   sub:=fun c o e=>hkb c o (hgb c o e) (R.sub c o e)
   amb:=R.amb
   nd:=R.nd
   tabs:=fun P hP=>by
    obtain⟨h1,o,ho,hk⟩:=R.tabs P hP;exact⟨h1,o,hkb P o (fun q=>R.pta b hb (q▸hP)) ho,hk⟩
   ns:=hns
   cell:=hcell
   vars:=fun y j hj=>by
    by_cases hyx:y=x
    ·subst hyx
     rw[hi]at hj; cases hj
     rcases b2h (st:=st) (i:=i) (u:=u)with e|e
     ·exact .inr ⟨v,hx,by rw[e]; exact hv⟩
     ·exact .inl fun w hw=>by rw[e]at hw; exact hw.symm
    ·have hji:j≠i:=fun q=>hyx (b4f so.nd hj (q▸hi))
     rw[d1m hji]
     rcases R.vars y j hj with h0|⟨w,hl,hw⟩
     ·exact .inl h0
     ·exact .inr ⟨w,hy y hyx w hl,hw⟩
   olen:=R.olen
   own:=fun k o e=>by
    obtain⟨a,ha,q⟩:=R.own k o e;have hab:a≠b:=fun q'=>R.pal b hb (q'▸List.mem_of_getElem? ha);exact⟨a,ha,q.keep (.refl g) (fun ob e=>.of (hkb a ob hab e)) id⟩
   alnd:=R.alnd
   pnd:=R.pnd
   pgl:=R.pgl
   pgc:=R.pgc
   plt:=fun c hc=>by
    by_cases hcb:c=b
    ·subst hcb; exact hal
    ·obtain⟨o,ho⟩:=R.plt c hc; exact⟨o,hkb c o hcb ho⟩
   pal:=R.pal
   pta:=R.pta
   ata:=R.ata
   base:=R.base }
 have hnd:=List.nodup_cons.mp R.pnd;have cmem:∀{y c},env.cells.lookup y=some c→c∈env.cells.map (·.2):=fun hy=>List.mem_map.mpr ⟨_,e1r hy,rfl⟩
 rcases hk with hk|hk
 ·obtain⟨m,hm⟩:=R.ns
  have hkx:env.kindOf x=some .local:=by rw[e.kindOf,hk]
  refine wpAny_storeName_local hkx hm (fun h' hn hs=>?_) (by rw[e.kind]; rfl)
  obtain⟨a,b,c1,c2⟩:=sep (b:=env.locals) (tk:=s.toks+1) (.head _) R.pgl hs ⟨_,hn⟩
   (fun y hy=>by
    obtain⟨c,w,hc,o,ho,hd⟩:=R.cell y hy;exact⟨c,w,hc,o,(hs.2 c fun q=>hnd.1 (q▸cmem hc)).trans ho,hd⟩)
   (.inl ⟨hkx,_,hn,by simp⟩)
   (fun y hy w hl=>by
    rcases hl with⟨h1,m',hn',hm'⟩|⟨h1,c,hc,o,ho,hd⟩
    ·refine .inl ⟨h1,_,hn,?_⟩
     rw[if_neg hy]; exact(Heap.Ns.agree hm hn' y).trans hm'
    ·exact .inr ⟨h1,c,hc,o,(hs.2 c fun q=>hnd.1 (q▸cmem hc)).trans ho,hd⟩)
   (hn.imp fun _ h=>h.elim fun _ h=>h.elim fun _ h=>h.1)
  exact h _ _ (.inl rfl) a b c1 c2
 ·obtain⟨c,w,hc,hcell⟩:=R.cell x (.inl hk)
  have hkx:env.kindOf x=some .cell:=by rw[e.kindOf,hk]
  refine wpAny_storeName_cell e.kind hkx hc hcell fun h' hv' hs=>?_;have hcm:=cmem hc;have hLc:env.locals≠c:=fun q=>hnd.1 (q▸hcm);obtain⟨a,b,c1,c2⟩:=sep (b:=c) (tk:=s.toks) (List.mem_cons_of_mem _ hcm) (R.pgc x c hkx hc) hs
   (R.ns.imp fun _ hm=>hm.sameBut hs hLc)
   (fun y hy=>by
    obtain⟨d,w,hd,hw⟩:=R.cell y hy
    by_cases hyx:y=x
    ·subst hyx; rw[hc]at hd; cases hd; exact⟨c,some v,hc,hv'⟩
    ·exact⟨d,w,hd,hw.sameBut hs (Ne.symm (a3d hnd.2 hc hd (Ne.symm hyx)))⟩)
   (.inr ⟨.inl hkx,c,hc,hv'⟩)
   (fun y hy w hl=>by
    rcases hl with⟨h1,m',hn',hm'⟩|⟨h1,d,hd,hw⟩
    ·exact .inl ⟨h1,m',hn'.sameBut hs hLc,hm'⟩
    ·exact .inr ⟨h1,d,hd,hw.sameBut hs (Ne.symm (a3d hnd.2 hc hd (Ne.symm hy)))⟩)
   (hv'.imp fun _=>And.left)
  exact h _ _ (.inr ⟨hk,hc⟩) a b c1 c2
end
end
section
structure BRel(C:Cfg)(g h:Heap)(al:List Addr)(ow:List OV):Prop where
 sub:Sub g h
 amb:C.Amb g
 nd:ND g
 tabs:C.Tabs g h
 olen:al.length=ow.length
 own:∀(k:Nat) (o:OV),ow[k]?=some o→∃a,al[k]?=some a∧OwnOK g h a o
 alnd:al.Nodup
 ata:∀b∈al,b∉C.TA
 base:C.base <+: al
def FrOK(C:Cfg)(A:e1x)(env:Env)(g h:Heap)(al:List Addr):Prop:=∃fs,(A.frames=some fs∧∃e0 r,fs=e0::r∧e0.frame=env.frame)∧∀e∈fs,e.scope.kind ≠ .module∧∃L,e.frame=some L ∧
 (L=env.locals∨(g.get? L=none∧L∉al∧L∉C.TA∧L∉a4o env∧∃o es ep,h.get? L=some o∧o.data=.dict es ep))
theorem FrOK.step{C:Cfg}{g g':Heap}{s s':e1m}{al:List Addr}(f:FrOK C A env g s.heap al)(x:Step W s g s' g')
 (hW:∀b∈W,b∈a4o env∨b∈al∨b∈C.TA∨∀o,s.heap.get? b=some o→b9t o):FrOK C A env g' s'.heap al:=by
 obtain⟨fs,h1,h2⟩:=f;refine⟨fs,h1,fun e he=>?_⟩;obtain⟨h3,L,h4,h5⟩:=h2 e he;refine⟨h3,L,h4,h5.imp id fun h=>?_⟩;obtain⟨a1,a2,a3,a4,o,es,ep,a5,a6⟩:=h;have hm:L∉W:=fun hm=>by
  rcases hW L hm with h|h|h|h
  ·exact a4 h
  ·exact a2 h
  ·exact a3 h
  ·exact h o a5 es ep a6
 obtain⟨sl,e1,_⟩:=x.keep L o hm a5;exact⟨x.fresh L o hm a5 a1,a2,a3,a4,_,es,ep,e1,a6⟩
def FrB(C:Cfg)(A:e1x)(g h:Heap)(al:List Addr):Prop:=∃fs,A.frames=some fs∧∀e∈fs,e.scope.kind ≠ .module∧∃L,e.frame=some L ∧
 g.get? L=none∧L∉al∧L∉C.TA∧∃o es ep,h.get? L=some o∧o.data=.dict es ep
theorem FrB.deep{C:Cfg}{g h h1:Heap}{al:List Addr}(f:FrB C A g h al)(hk:env.scope.kind=.function)(hf:env.frame=some L)(hl:L=env.locals)(sb:∀b o,h.get? b=some o→h1.get? b=some o)(hp:∀b∈a4o env,g.get? b=none→h.get? b=none):FrOK C (A.deeper env) env g h1 al:=by
 obtain⟨fs,f1,f2⟩:=f;refine⟨env::fs,⟨by show A.frames.map _=_; rw[f1]; rfl,_,_,rfl,rfl⟩,fun e he=>?_⟩
 rcases List.mem_cons.mp he with rfl|he
 ·exact⟨by rw[hk]; simp,L,hf,.inl hl⟩
 ·obtain⟨k1,L,k2,k3,k4,k5,o',es,ep,k6,k7⟩:=f2 e he
  exact⟨k1,L,k2,.inr ⟨k3,k4,k5,fun hm=>(by rw[hp L hm k3]at k6; cases k6),o',es,ep,sb _ _ k6,k7⟩⟩
theorem FrOK.b{C:Cfg}{sc:SI}{g h:Heap}{al:List Addr}{st:St}(f:FrOK C A env g h al)(R:Rel C sc env g h al st):FrB C A g h al:=by
 obtain⟨fs,h1,h2⟩:=f;refine⟨fs,h1.1,fun e he=>?_⟩;obtain⟨h3,L,h4,h5⟩:=h2 e he;refine⟨h3,L,h4,?_⟩
 rcases h5 with rfl|⟨a1,a2,a3,_,a5⟩
 ·obtain⟨m,o,es,ep,ho,hd,_⟩:=R.ns
  exact⟨R.pgl,R.pal _ (.head _),R.pta _ (.head _),o,es,ep,ho,hd⟩
 ·exact⟨a1,a2,a3,a5⟩
structure Here(C:Cfg)(sc:SI)(hz:Bool)(n:Nat)(A:e1x)(env:Env)(g:Heap)(s:e1m)(al:List Addr)(st:St):Prop where
 ok:AOK A n st.hz g
 hz:hz=true→st.hz=true
 eok:EnvOK sc env
 rel:Rel C sc env g s.heap al st
 fr:FrOK C A env g s.heap al
structure Aft(C:Cfg)(sc:SI)(env:Env)(al:List Addr)(g:Heap)(s:e1m)(st:St)(g':Heap)(s':e1m)(st':St):Prop where
 vars:st'.vars=st.vars
 hz:st'.hz=st.hz
 rel:Rel C sc env g' s'.heap al st'
 step:Step (al++C.TA) s g s' g'
noncomputable def InVs(C:Cfg)(g:Heap)(al:List Addr):List e1n→List V→Prop
 |[],[]=>True
 |v::vs,u::us=>InV C g al v u∧InVs C g al vs us
 |_,_=>False
structure Ck where
 fname:Nat→Option Str
 gi:List (Str×Int)
 gs:List (Str×Str)
 fcl:Nat→Bool:=fun _=>false
noncomputable def bnames:List Str:=["len", "sum", "min", "max", "abs", "divmod", "isinstance", "int", "range", "enumerate", "zip", "reversed", "next", "iter", "str", "StopIteration", "ZeroDivisionError"]
structure Good(C:Cfg)(k:Ck):Prop where
 gi:∀x i,k.gi.lookup x=some i→∃t,C.mg x=some (.int i t)
 gs:∀x i,k.gs.lookup x=some i→∃t,C.mg x=some (.str i t)
 fn:∀f x,k.fname f=some x→C.mg x=some (C.fnv f)
 fo:∀f x,k.fname f=some x→∃a o fd,C.fnv f=.ref a∧o.data=.func fd∧∀g,C.Amb g→g.get? a=some o
 bn:∀x∈bnames,C.mg x=none
 fc:∀f,k.fcl f=true→∃a o fd,C.fnv f=.ref a∧o.data=.func fd∧∀g,C.Amb g→g.get? a=some o
def a3q(C:Cfg)(Γ:Ctx)(n:Nat):Prop:=∀(f:Nat) (A:e1x) (g:Heap) (s:e1m) (al:List Addr) (ow:List OV) (hz:Bool) (ps:List e1n) (ks:List Str) (kvs:List e1n) (us:List V)
 (Eh:e1n→e1m→Prop) (Q:V→List OV→Prop) (Q':e1n→e1m→Prop),AOK A n hz g→BRel C g s.heap al ow→FrB C A g s.heap al→ks.length=kvs.length→InVs C g al (ps++kvs) us→Γ f hz ks us ow Q→
 (∀v u ow' s' g',BRel C g' s'.heap al ow'→Step (al++C.TA) s g s' g'→InV C g' al v u→Q u ow'→Q' v s')→
 e1p (model C.prog C.w) A (call (C.fnv f) ps (ks.zip kvs)) Q' Eh s
section
variable {C:Cfg} {sc:SI} {env:Env} {g g' g'' h h':Heap} {al:List Addr} {st st' st'':St} {s s' s'':e1m} {hz:Bool} {n:Nat} {A:e1x} {Eh:e1n→e1m→Prop}
theorem InVs.mono:∀{vs:List e1n} {us:List V},Sub g g'→InVs C g al vs us→InVs C g' al vs us
 |[],[]=>fun _ _=>trivial
 |_::_,_::_=>fun s h=>⟨h.1.mono s,InVs.mono s h.2⟩
 |[],_::_=>fun _ h=>h.elim
 |_::_,[]=>fun _ h=>h.elim
theorem InVs.len:∀{vs:List e1n} {us:List V},InVs C g al vs us→vs.length=us.length
 |[],[]=>fun _=>rfl
 |_::_,_::_=>fun h=>by simp[InVs.len h.2]
 |[],_::_=>fun h=>h.elim
 |_::_,[]=>fun h=>h.elim
theorem InVs.append:∀{vs ws:List e1n} {us xs:List V},InVs C g al vs us→InVs C g al ws xs→InVs C g al (vs++ws) (us++xs)
 |[],_,[],_,_,k=>k
 |_::_,_,_::_,_,h,k=>⟨h.1,InVs.append h.2 k⟩
 |[],_,_::_,_,h,_=>h.elim
 |_::_,_,[],_,h,_=>h.elim
theorem Rel.b(R:Rel C sc env g h al st):BRel C g h al st.own:=⟨R.sub,R.amb,R.nd,R.tabs,R.olen,R.own,R.alnd,R.ata,R.base⟩
theorem Rel.back{ow:List OV}(R:Rel C sc env g s.heap al st)(x:Step W s g s' g')(hW:∀b∈W,b∈al∨b∈C.TA∨s.heap.get? b=none)(B:BRel C g' s'.heap al ow) :
  Rel C sc env g' s'.heap al { st with own:=ow }:=by
 have out:∀b o,b∉al++C.TA→s.heap.get? b=some o→b∉W:=fun b o hb e hm=>by
  simp only[List.mem_append,not_or]at hb
  rcases hW b hm with h|h|h
  ·exact hb.1 h
  ·exact hb.2 h
  ·rw[h]at e; cases e
 refine R.up x.sub B.nd B.sub B.tabs (fun b o hb e=>x.keep b o (out b o hb e) e) (fun b hb hg=>?_) B.olen B.own;obtain⟨o,ho⟩:=R.plt b hb;exact x.fresh b o (out b o (by simp only[List.mem_append,not_or]; exact⟨R.pal b hb,R.pta b hb⟩) ho) ho hg
theorem Aft.refl(R:Rel C sc env g s.heap al st):Aft C sc env al g s st g s st:=⟨rfl,rfl,R,.refl⟩
theorem Aft.trans(x:Aft C sc env al g s st g' s' st')(y:Aft C sc env al g' s' st' g'' s'' st''):Aft C sc env al g s st g'' s'' st'':=
 ⟨y.vars.trans x.vars,y.hz.trans x.hz,y.rel,x.step.tr y.step⟩
theorem Here.go(H:Here C sc hz n A env g s al st)(x:Aft C sc env al g s st g' s' st'):Here C sc hz n A env g' s' al st':=
 ⟨x.hz.symm▸H.ok.mono x.step.sub,fun e=>x.hz.trans (H.hz e),H.eok,x.rel,H.fr.step x.step fun b hb=>(List.mem_append.mp hb).elim (fun h=>.inr (.inl h)) fun h=>.inr (.inr (.inl h))⟩
theorem Here.hh(H:Here C sc hz n A env g s al st)(e:hz=true):A.handled=none:=H.ok.none (H.hz e)
theorem Here.to(H:Here C sc hz n A env g s al st){t:Sem e1n}(ht:To C A Eh g s t d)(k:∀v s' g',Aft C sc env al g s st g' s' st→RD g' v d→Q' v s') :
  e1p (model C.prog C.w) A t Q' Eh s:=ht Q' fun v s' g' x sb r=>k v s' g' ⟨rfl,rfl,H.rel.step x sb,x.nil⟩ r
theorem Here.stay(H:Here C sc hz n A env g s al st)(s':e1m)(x:Step [] s g s' g)(sb:Sub g s'.heap):Aft C sc env al g s st g s' st:=⟨rfl,rfl,H.rel.step x sb,x.nil⟩
end
def SE(C:Cfg)(Γ:Ctx)(sc:SI)(n:Nat)(hz:Bool)(e:E)(x:Expr):Prop:=
 ∀(A:e1x) (env:Env) (g:Heap) (s:e1m) (al:List Addr) (st:St) (Eh:e1n→e1m→Prop) (Q:V→St→Prop) (Q':e1n→e1m→Prop),Here C sc hz n A env g s al st→wpE Γ e st Q→
  (∀v u st' s' g',Aft C sc env al g s st g' s' st'→InV C g' al v u→Q u st'→Q' v s')→e1p (model C.prog C.w) A (eval x env) Q' Eh s
def ST(C:Cfg)(Γ:Ctx)(sc:SI)(n:Nat)(hz:Bool)(e:E)(x:Expr):Prop:=
 ∀(A:e1x) (env:Env) (g:Heap) (s:e1m) (al:List Addr) (st:St) (Eh:e1n→e1m→Prop) (Q:Bool→St→Prop) (Q':Bool→e1m→Prop),Here C sc hz n A env g s al st→wpT Γ e st Q→
  (∀b st' s' g',Aft C sc env al g s st g' s' st'→Q b st'→Q' b s')→e1p (model C.prog C.w) A (PySem.isTrue x env (eval x env)) Q' Eh s
def SO(C:Cfg)(Γ:Ctx)(sc:SI)(n:Nat)(hz:Bool)(e:O)(x:Option Expr):Prop:=
 ∀(A:e1x) (env:Env) (g:Heap) (s:e1m) (al:List Addr) (st:St) (Eh:e1n→e1m→Prop) (Q:Option Int→St→Prop) (Q':e1n→e1m→Prop),Here C sc hz n A env g s al st→wpO Γ e st Q→
  (∀v u st' s' g',Aft C sc env al g s st g' s' st'→PartV v u→Q u st'→Q' v s')→e1p (model C.prog C.w) A (evalPart x env) Q' Eh s
def SEs(C:Cfg)(Γ:Ctx)(sc:SI)(n:Nat)(hz:Bool)(e:Es)(xs:List Expr):Prop:=
 ∀(A:e1x) (env:Env) (g:Heap) (s:e1m) (al:List Addr) (st:St) (Eh:e1n→e1m→Prop) (pos:Pos) (acc:List e1l) (Q:List e1l→St→Prop) (Q':List e1n→e1m→Prop),Here C sc hz n A env g s al st→wpEs Γ e st acc Q→
  (∀vs us st' s' g',Aft C sc env al g s st g' s' st'→RDs g' vs us→vs.length=xs.length→Q (acc++us) st'→Q' vs s')→e1p (model C.prog C.w) A (spliced (e2e pos (e1z xs env))) Q' Eh s
def SAs(C:Cfg)(Γ:Ctx)(sc:SI)(n:Nat)(hz:Bool)(e:Es)(xs:List Expr):Prop:=
 ∀(A:e1x) (env:Env) (g:Heap) (s:e1m) (al:List Addr) (st:St) (Eh:e1n→e1m→Prop) (pos:Pos) (acc:List V) (Q:List V→St→Prop) (Q':List e1n→e1m→Prop),Here C sc hz n A env g s al st→wpAs Γ e st acc Q→
  (∀vs us st' s' g',Aft C sc env al g s st g' s' st'→InVs C g' al vs us→Q (acc++us) st'→Q' vs s')→e1p (model C.prog C.w) A (spliced (e2e pos (e1z xs env))) Q' Eh s
def SRs(C:Cfg)(Γ:Ctx)(sc:SI)(n:Nat)(hz:Bool)(e:Es)(xs:List Expr):Prop:=
 ∀(A:e1x) (env:Env) (g:Heap) (s:e1m) (al:List Addr) (st:St) (Eh:e1n→e1m→Prop) (pos:Pos) (acc:List V) (Q:List V→St→Prop) (Q':List e1n→e1m→Prop),Here C sc hz n A env g s al st→wpRs Γ e st acc Q→
  (∀vs us st' s' g',Aft C sc env al g s st g' s' st'→InVs C g' al vs us→vs.length=xs.length→Q (acc++us) st'→Q' vs s')→e1p (model C.prog C.w) A (spliced (e2e pos (e1z xs env))) Q' Eh s
def SKs(C:Cfg)(Γ:Ctx)(sc:SI)(n:Nat)(hz:Bool)(ks:List Str)(e:Es)(xs:List Keyword):Prop:=
 ∀(A:e1x) (env:Env) (g:Heap) (s:e1m) (al:List Addr) (st:St) (Eh:e1n→e1m→Prop) (pos:Pos) (acc:List V) (Q:List V→St→Prop) (Q':List e1n→e1m→Prop),Here C sc hz n A env g s al st→wpRs Γ e st acc Q→
  (∀vs us st' s' g',Aft C sc env al g s st g' s' st'→InVs C g' al vs us→vs.length=ks.length→Q (acc++us) st'→Q' vs s')→e1p (model C.prog C.w) A (evalAll ((backToKw pos (keywordEach xs env)).map (·.2))) Q' Eh s
section
variable {C:Cfg} {Γ:Ctx} {sc:SI} {n:Nat} {hz:Bool} {k:Ck}
theorem c0f{i:Int}{x1:Nat}{pos:Pos}:SE C Γ sc n hz (.int i) (.Constant (.int i) x1 pos):=fun A env g s al st Eh Q Q' H hw kk=>by
 refine wpAny_Constant_int ?_;exact kk _ (.dat (.int i)) st _ g (H.stay _ Step.toks H.rel.sub) (RD.int i _) hw
theorem c8b{i:Str}{x1:Nat}{pos:Pos}:SE C Γ sc n hz (.str i) (.Constant (.str i) x1 pos):=fun A env g s al st Eh Q Q' H hw kk=>by
 refine wpAny_Constant_str ?_;exact kk _ (.dat (.str i)) st _ g (H.stay _ Step.toks H.rel.sub) (RD.str i _) hw
theorem d0d{b:Bool}{x1:Nat}{pos:Pos}:SE C Γ sc n hz (.bool b) (.Constant (.bool b) x1 pos):=fun A env g s al st Eh Q Q' H hw kk=>
 wpAny_Constant_bool (kk _ (.dat (.bool b)) st _ g (Aft.refl H.rel) (RD.bool b) hw)
theorem d0j{x1:Nat}{pos:Pos}:SE C Γ sc n hz .none (.Constant .none x1 pos):=fun A env g s al st Eh Q Q' H hw kk=>
 wpAny_Constant_none (kk _ (.dat .none) st _ g (Aft.refl H.rel) RD.none hw)
theorem d5z{st:St}{Q:V→St→Prop}(h:match st.get i with|.undef=>False|v=>Q v st):st.get i ≠ .undef∧Q (st.get i) st:=by
 cases e:st.get i <;> rw[e]at h <;> first|exact h.elim|exact⟨by simp,h⟩
theorem c8a {pos:Pos} (hi:sc.ids.lookup x=some i) (hd:(x==("__debug__" : Str))=false) (hc:(x==("__classdict__" : Str))=false) :
  SE C Γ sc n hz (.var i) (.Name x pos):=fun A env g s al st Eh Q Q' H hw kk=>by
 obtain⟨h1,h2⟩:=d5z hw;exact a1h H.eok H.rel hi h1 hd hc fun v hv=>kk _ _ st _ g (Aft.refl H.rel) hv h2
theorem a1q{s:e1m}{al:List Addr}{st:St}{pos:Pos}(H:Here C sc hz n A env g s al st)
 (hk:sc.names.lookup x=some .globalImplicit) (hd:(x==("__debug__" : Str))=false) (hv:C.mg x=some v) (h:Q' v s):e1p (model C.prog C.w) A (eval (.Name x pos) env) Q' Eh s:=by
 refine Name_function_global H.eok.kind (by rw[H.eok.kindOf]; exact hk) ?_ hd
 exact loadGlobal_global (by rw[H.eok.globals]; exact(H.rel.amb.T.keeps H.rel.sub).g) hv h
theorem a1s{s:e1m}{al:List Addr}{st:St}{pos:Pos}(G:Good C k)(H:Here C sc hz n A env g s al st)
 (hk:sc.names.lookup x=some .globalImplicit) (hd:(x==("__debug__" : Str))=false) (hb:x∈bnames) (hv:bootBuiltins x=some v) (h:Q' v s):e1p (model C.prog C.w) A (eval (.Name x pos) env) Q' Eh s:=by
 refine Name_function_global H.eok.kind (by rw[H.eok.kindOf]; exact hk) ?_ hd
 have T:=H.rel.amb.T.keeps H.rel.sub;refine loadGlobal_builtin (by rw[H.eok.globals]; exact T.g) (G.bn x hb) (by rw[H.eok.builtins]; exact T.b) ?_ h
 rw[T.builtins x (by rintro rfl; revert hb; decide)]; exact hv
theorem d2c {i:Int} {pos:Pos} (G:Good C k) (hi:k.gi.lookup x=some i) (hk:sc.names.lookup x=some .globalImplicit) (hd:(x==("__debug__" : Str))=false) :
  SE C Γ sc n hz (.gint x i) (.Name x pos):=fun A env g s al st Eh Q Q' H hw kk=>by
 obtain⟨t,ht⟩:=G.gi x i hi;exact a1q H hk hd ht (kk _ (.dat (.int i)) st _ g (Aft.refl H.rel) (RD.int i t) hw)
theorem d2r {i:Str} {pos:Pos} (G:Good C k) (hi:k.gs.lookup x=some i) (hk:sc.names.lookup x=some .globalImplicit) (hd:(x==("__debug__" : Str))=false) :
  SE C Γ sc n hz (.gstr x i) (.Name x pos):=fun A env g s al st Eh Q Q' H hw kk=>by
 obtain⟨t,ht⟩:=G.gs x i hi;exact a1q H hk hd ht (kk _ (.dat (.str i)) st _ g (Aft.refl H.rel) (RD.str i t) hw)
theorem d6i {pos:Pos} (G:Good C k) (hi:k.fname f=some x) (hk:sc.names.lookup x=some .globalImplicit) (hd:(x==("__debug__" : Str))=false) :
  SE C Γ sc n hz (.gfn f) (.Name x pos):=fun A env g s al st Eh Q Q' H hw kk=>
 a1q H hk hd (G.fn f x hi) (kk _ (.fn f) st _ g (Aft.refl H.rel) rfl hw)
theorem c8m{o:Op2}{a b:E}{x y:Expr}{pos:Pos}(ha:SE C Γ sc n hz a x)(hb:SE C Γ sc n hz b y):SE C Γ sc n hz (.bin o a b) (.BinOp x (c5o o) y pos):=fun A env g s al st Eh Q Q' H hw kk=>by
 refine wpAny_BinOp (ha A env g s al st Eh _ _ H hw fun va ua st1 s1 g1 a1 i1 hw1=>hb A env g1 s1 al st1 Eh _ _ (H.go a1) hw1 fun vb ub st2 s2 g2 a2 i2 hw2=>?_)
 split at hw2
 ·rename_i x y ex ey
  obtain⟨d,hq,ht⟩:=b8d (C:=C) (A:=A) (E:=Eh) a2.rel.sub (a2.rel.dat? (i1.mono a2.step.sub) ex) (a2.rel.dat? i2 ey) hw2;exact((H.go a1).go a2).to ht fun v s' g' a3 r=>kk v (.dat _) _ _ _ (a1.trans (a2.trans a3)) r hq
 ·exact hw2.elim
theorem a8l{d:Option e1l}{Q:Bool→Prop}(h:truthV d Q):∃x,d=some x∧a5d x Q:=by
 cases d with
 |none=>exact h.elim
 |some x=>exact⟨x,rfl,h⟩
theorem d5b{a:E}{x:Expr}{pos:Pos}(ha:SE C Γ sc n hz a x):SE C Γ sc n hz (.not a) (.UnaryOp .Not x pos):=fun A env g s al st Eh Q Q' H hw kk=>by
 refine wpAny_UnaryOp (ha A env g s al st Eh _ _ H hw fun va ua st1 s1 g1 a1 i1 hw1=>?_);obtain⟨d,e,ht⟩:=a8l hw1;obtain⟨b,hq,ht⟩:=c1l (C:=C) (A:=A) (E:=Eh) a1.rel.sub (a1.rel.dat? i1 e) ht;exact(H.go a1).to ht fun v s' g' a3 r=>kk v (.dat _) _ _ _ (a1.trans a3) r hq
theorem c7r{a:E}{x:Expr}{pos:Pos}(ha:SE C Γ sc n hz a x):SE C Γ sc n hz (.neg a) (.UnaryOp .USub x pos):=fun A env g s al st Eh Q Q' H hw kk=>by
 refine wpAny_UnaryOp (ha A env g s al st Eh _ _ H hw fun va ua st1 s1 g1 a1 i1 hw1=>?_)
 split at hw1
 ·rename_i i e
  exact(H.go a1).to (c0g (C:=C) (A:=A) (E:=Eh) a1.rel.sub (a1.rel.dat? i1 e)) fun v s' g' a3 r=>kk v (.dat _) _ _ _ (a1.trans a3) r hw1
 ·exact hw1.elim
theorem d3v{a:E}{x:Expr}{pos:Pos}(ha:SE C Γ sc n hz a x):SE C Γ sc n hz (.inv a) (.UnaryOp .Invert x pos):=fun A env g s al st Eh Q Q' H hw kk=>by
 refine wpAny_UnaryOp (ha A env g s al st Eh _ _ H hw fun va ua st1 s1 g1 a1 i1 hw1=>?_)
 split at hw1
 ·rename_i i e
  exact(H.go a1).to (c3h (C:=C) (A:=A) (E:=Eh) a1.rel.sub (a1.rel.dat? i1 e)) fun v s' g' a3 r=>kk v (.dat _) _ _ _ (a1.trans a3) r hw1
 ·exact hw1.elim
theorem b1a{s:e1m}{al:List Addr}{st:St}{u:V}{Q:Bool→Prop}{Q':Bool→e1m→Prop}(H:Here C sc hz n A env g s al st)(hv:InV C g al v u)
 (h:truthV (st.dat? u) Q) (kk:∀b s',Aft C sc env al g s st g s' st→Q b→Q' b s'):e1p (model C.prog C.w) A (truthy v) Q' Eh s:=by
 obtain⟨d,e,ht⟩:=a8l h;obtain⟨b,hq,ht⟩:=a4r (C:=C) (A:=A) (E:=Eh) (H.rel.dat? hv e) ht;exact ht _ fun t=>kk b _ (H.stay _ Step.toks H.rel.sub) hq
theorem d3m{a b:E}{x y:Expr}{pos:Pos}(ha:SE C Γ sc n hz a x)(hb:SE C Γ sc n hz b y):SE C Γ sc n hz (.and a b) (.BoolOp .And [x,y] pos):=fun A env g s al st Eh Q Q' H hw kk=>by
 refine BoolOp_and (ha A env g s al st Eh _ _ H hw fun va ua st1 s1 g1 a1 i1 hw1=>b1a (H.go a1) i1 hw1 fun t s2 a2 hw2=>?_);cases t with
 |true=>exact BoolOp_one (hb A env _ _ al _ Eh _ _ ((H.go a1).go a2) hw2 fun v u st' s' g' a3 i3 hq=>kk v u st' s' g' (a1.trans (a2.trans a3)) i3 hq)
 |false=>exact kk _ _ _ _ _ (a1.trans a2) i1 hw2
theorem d9f{a b:E}{x y:Expr}{pos:Pos}(ha:SE C Γ sc n hz a x)(hb:SE C Γ sc n hz b y):SE C Γ sc n hz (.or a b) (.BoolOp .Or [x,y] pos):=fun A env g s al st Eh Q Q' H hw kk=>by
 refine BoolOp_or (ha A env g s al st Eh _ _ H hw fun va ua st1 s1 g1 a1 i1 hw1=>b1a (H.go a1) i1 hw1 fun t s2 a2 hw2=>?_);cases t with
 |false=>exact BoolOp_one (hb A env _ _ al _ Eh _ _ ((H.go a1).go a2) hw2 fun v u st' s' g' a3 i3 hq=>kk v u st' s' g' (a1.trans (a2.trans a3)) i3 hq)
 |true=>exact kk _ _ _ _ _ (a1.trans a2) i1 hw2
theorem d6x{o:Cmp}{a b:E}{x y:Expr}{pos:Pos}(ha:SE C Γ sc n hz a x)(hb:SE C Γ sc n hz b y)(hm:behindInMarks (a9a o) y=false):SE C Γ sc n hz (.cmp o a b) (.Compare x [a9a o] [y] pos):=fun A env g s al st Eh Q Q' H hw kk=>by
 refine wpAny_Compare1 (ha A env g s al st Eh _ _ H hw fun va ua st1 s1 g1 a1 i1 hw1=>hb A env g1 s1 al st1 Eh _ _ (H.go a1) hw1 fun vb ub st2 s2 g2 a2 i2 hw2=>?_) hm
 split at hw2
 ·rename_i x y ex ey
  obtain⟨d,hq,ht⟩:=a9t (C:=C) (A:=A) (E:=Eh) ((H.go a1).go a2).ok a2.rel.sub (a2.rel.dat? (i1.mono a2.step.sub) ex) (a2.rel.dat? i2 ey) hw2;exact((H.go a1).go a2).to ht fun v s' g' a3 r=>kk v (.dat _) _ _ _ (a1.trans (a2.trans a3)) r hq
 ·exact hw2.elim
theorem d5i{c a b:E}{z x y:Expr}{pos:Pos}(hc:ST C Γ sc n hz c z)(ha:SE C Γ sc n hz a x)(hb:SE C Γ sc n hz b y):SE C Γ sc n hz (.ite c a b) (.IfExp z x y pos):=fun A env g s al st Eh Q Q' H hw kk=>by
 refine wpAny_IfExp (hc A env g s al st Eh _ _ H hw fun t st1 s1 g1 a1 hw1=>?_);cases t with
 |true=>exact ha A env _ _ al _ Eh _ _ (H.go a1) hw1 fun v u st' s' g' a3 i3 hq=>kk v u st' s' g' (a1.trans a3) i3 hq
 |false=>exact hb A env _ _ al _ Eh _ _ (H.go a1) hw1 fun v u st' s' g' a3 i3 hq=>kk v u st' s' g' (a1.trans a3) i3 hq
theorem c8d{a i:E}{x y:Expr}{pos:Pos}(ha:SE C Γ sc n hz a x)(hi:SE C Γ sc n hz i y):SE C Γ sc n hz (.idx a i) (.Subscript x y pos):=fun A env g s al st Eh Q Q' H hw kk=>by
 refine Subscript_ (ha A env g s al st Eh _ _ H hw fun va ua st1 s1 g1 a1 i1 hw1=>hi A env g1 s1 al st1 Eh _ _ (H.go a1) hw1 fun vb ub st2 s2 g2 a2 i2 hw2=>?_);obtain⟨d,hq,ht⟩:=c0n (C:=C) (A:=A) (E:=Eh) (value:=x) (slice:=y) a2.rel.sub (i1.mono a2.step.sub) (fun d e=>a2.rel.dat? (i1.mono a2.step.sub) e) (fun d e=>a2.rel.dat? i2 e) hw2;exact((H.go a1).go a2).to ht fun v s' g' a3 r=>kk v (.dat _) _ _ _ (a1.trans (a2.trans a3)) r hq
theorem d0o:SO C Γ sc n hz .none none:=fun A env g s al st Eh Q Q' H hw kk=>wpAny_evalPart_none (kk _ none st _ g (Aft.refl H.rel) rfl hw)
theorem d2m{a:E}{x:Expr}(ha:SE C Γ sc n hz a x):SO C Γ sc n hz (.some a) (some x):=fun A env g s al st Eh Q Q' H hw kk=>by
 refine wpAny_evalPart_some (ha A env g s al st Eh _ _ H hw fun va ua st1 s1 g1 a1 i1 hw1=>?_)
 split at hw1
 ·rename_i i e
  obtain⟨t,ht⟩:=RD.intE (a1.rel.dat? i1 e);exact kk _ (some i) st1 _ _ a1 ⟨t,ht⟩ hw1
 ·exact hw1.elim
theorem d8o{a:E}{lo hi:O}{x:Expr}{y z:Option Expr}{p pos:Pos}(ha:SE C Γ sc n hz a x)(hl:SO C Γ sc n hz lo y)(hh:SO C Γ sc n hz hi z):SE C Γ sc n hz (.sl a lo hi) (.Subscript x (.Slice y z none p) pos):=fun A env g s al st Eh Q Q' H hw kk=>by
 refine Subscript_ (ha A env g s al st Eh _ _ H hw fun va ua st1 s1 g1 a1 i1 hw1=>wpAny_Slice (hl A env g1 s1 al st1 Eh _ _ (H.go a1) hw1 fun vb ub st2 s2 g2 a2 p2 hw2=>
  hh A env g2 s2 al st2 Eh _ _ ((H.go a1).go a2) hw2 fun vc uc st3 s3 g3 a3 p3 hw3=>wpAny_evalPart_none ?_))
 split at hw3
 ·rename_i d e
  have iv:=(i1.mono a2.step.sub).mono a3.step.sub;obtain⟨r,hq,ht⟩:=c5j (C:=C) (A:=A) (E:=Eh) (value:=x) (slice:=.Slice y z none p) a3.rel.sub (a3.rel.dat? iv e) p2 p3 hw3;refine ht _ fun v s' g' x4 sb r=>?_;exact kk v (.dat _) _ _ _ (a1.trans (a2.trans (a3.trans ⟨rfl,rfl,a3.rel.step x4 sb,x4.nil⟩))) r hq
 ·exact hw3.elim
theorem c9d:SEs C Γ sc n hz .nil []:=fun A env g s al st Eh pos acc Q Q' H hw kk=>spliced_nil (kk _ [] st _ g (Aft.refl H.rel) RDs.nil rfl ((List.append_nil acc).symm▸hw))
theorem d2l:SAs C Γ sc n hz .nil []:=fun A env g s al st Eh pos acc Q Q' H hw kk=>spliced_nil (kk [] [] st _ g (Aft.refl H.rel) trivial ((List.append_nil acc).symm▸hw))
theorem d0q:SRs C Γ sc n hz .nil []:=fun A env g s al st Eh pos acc Q Q' H hw kk=>spliced_nil (kk [] [] st _ g (Aft.refl H.rel) trivial rfl ((List.append_nil acc).symm▸hw))
theorem c9z:SKs C Γ sc n hz [] .nil []:=fun A env g s al st Eh pos acc Q Q' H hw kk=>kwAll_nil (kk [] [] st _ g (Aft.refl H.rel) trivial rfl ((List.append_nil acc).symm▸hw))
set_option backward.match.sparseCases false in
noncomputable def a0j:Expr→Bool|.Starred ..=>false|_=>true
theorem a0g{x:Expr}{xs:List Expr}(h:a0j x=true):e1z (x::xs) env=(false,eval x env)::e1z xs env:=by
 cases x <;> first|rfl|cases h
theorem a2i{st:St}{u:V}{Q:e1l→St→Prop}(h:keepV st u Q):keepV st u fun d st'=>st'.hz=st.hz∧Q d st':=by
 cases u with
 |own k=>
  dsimp only[keepV]at h ⊢;cases e:st.own[k]? with
  |none=>rw[e]at h; exact h.elim
  |some o=>rw[e]at h; cases o <;> first|exact⟨rfl,h⟩|exact h.elim
 |dat d=>exact⟨rfl,h⟩
 |_=>exact h
theorem d3f{st:St}{u:V}{Q:V→St→Prop}(h:argV st u Q):argV st u fun d st'=>st'.hz=st.hz∧Q d st':=by
 cases u with
 |own k=>
  dsimp only[argV]at h ⊢;cases e:st.own[k]? with
  |none=>rw[e]at h; exact h.elim
  |some o=>rw[e]at h; cases o <;> first|exact⟨rfl,h⟩|exact h.elim
 |undef=>exact h.elim
 |twin _=>exact h.elim
 |_=>exact⟨rfl,h⟩
theorem c7j{e:E}{es:Es}{x:Expr}{xs:List Expr}(hx:a0j x=true)(ha:SE C Γ sc n hz e x)(hb:SEs C Γ sc n hz es xs):SEs C Γ sc n hz (.cons e es) (x::xs):=fun A env g s al st Eh pos acc Q Q' H hw kk=>by
 refine spliced_more (ha A env g s al st Eh _ _ H hw fun va ua st1 s1 g1 a1 i1 hw1=>?_) (a0g hx);obtain⟨d,st2,g2,e2,⟨z2,hw2⟩,r2,x2,R2⟩:=a1.rel.keepV i1 (a2i hw1);have a2:Aft C sc env al g1 s1 st1 g2 s1 st2:=⟨e2,z2,R2,x2⟩;refine hb A env g2 s1 al st2 Eh pos _ _ _ ((H.go a1).go a2) hw2 fun vs us st3 s3 g3 a3 r3 hl hq=>?_;exact kk _ (d::us) st3 s3 g3 (a1.trans (a2.trans a3)) (.cons (r2.mono a3.step.sub) r3) (by simp[hl]) (by simpa using hq)
theorem c6w{e:E}{es:Es}{x:Expr}{xs:List Expr}(hx:a0j x=true)(ha:SE C Γ sc n hz e x)(hb:SAs C Γ sc n hz es xs):SAs C Γ sc n hz (.cons e es) (x::xs):=fun A env g s al st Eh pos acc Q Q' H hw kk=>by
 refine spliced_more (ha A env g s al st Eh _ _ H hw fun va ua st1 s1 g1 a1 i1 hw1=>?_) (a0g hx);obtain⟨d,st2,g2,e2,⟨z2,hw2⟩,r2,x2,R2⟩:=a1.rel.argV i1 (d3f hw1);have a2:Aft C sc env al g1 s1 st1 g2 s1 st2:=⟨e2,z2,R2,x2⟩;refine hb A env g2 s1 al st2 Eh pos _ _ _ ((H.go a1).go a2) hw2 fun vs us st3 s3 g3 a3 r3 hq=>?_;exact kk _ (d::us) st3 s3 g3 (a1.trans (a2.trans a3)) ⟨r2.mono a3.step.sub,r3⟩ (by simpa using hq)
theorem c5p{e:E}{es:Es}{x:Expr}{xs:List Expr}(hx:a0j x=true)(ha:SE C Γ sc n hz e x)(hb:SRs C Γ sc n hz es xs):SRs C Γ sc n hz (.cons e es) (x::xs):=fun A env g s al st Eh pos acc Q Q' H hw kk=>by
 refine spliced_more (ha A env g s al st Eh _ _ H hw fun va ua st1 s1 g1 a1 i1 hw1=>?_) (a0g hx);refine hb A env g1 s1 al st1 Eh pos _ _ _ (H.go a1) hw1 fun vs us st3 s3 g3 a3 r3 hl hq=>?_;exact kk _ (ua::us) st3 s3 g3 (a1.trans a3) ⟨i1.mono a3.step.sub,r3⟩ (by simp[hl]) (by simpa using hq)
theorem c5e{e:E}{es:Es}{y:Str}{x:Expr}{p:Pos}{xs:List Keyword}(ha:SE C Γ sc n hz e x)(hb:SKs C Γ sc n hz ks es xs):SKs C Γ sc n hz (y::ks) (.cons e es) (⟨some y,x,p⟩::xs):=fun A env g s al st Eh pos acc Q Q' H hw kk=>by
 refine kwAll_cons (ha A env g s al st Eh _ _ H hw fun va ua st1 s1 g1 a1 i1 hw1=>?_);refine hb A env g1 s1 al st1 Eh pos _ _ _ (H.go a1) hw1 fun vs us st3 s3 g3 a3 r3 hl hq=>?_;exact kk _ (ua::us) st3 s3 g3 (a1.trans a3) ⟨i1.mono a3.step.sub,r3⟩ (by simp[hl]) (by simpa using hq)
theorem d2e{es:Es}{xs:List Expr}{pos:Pos}(h:SEs C Γ sc n hz es xs)(hl:xs.length≤1000):SE C Γ sc n hz (.list es) (.List xs pos):=fun A env g s al st Eh Q Q' H hw kk=>by
 refine List_ (h A env g s al st Eh pos _ _ _ H hw fun vs us st1 s1 g1 a1 r1 hlen hq=>?_);have hq:Q (.dat (.list us)) st1:=by simpa using hq
 refine wpAny_newList ?_ (by rw[hlen]; exact Nat.le_trans hl (by decide))
 have hp:(s1.heap.push { cls:=.type "list",data:=.seq vs.toArray }).get? s1.heap.objs.size=some { cls:=.type "list",data:=.seq vs.toArray }:=Heap.get?_push_size _ rfl;have ha:=a0e s1.heap;obtain⟨g2,x1,x2,x3⟩:=Step.grow (tk:=s1.toks) a1.rel.sub (a0f _) ha (fun o e _=>by rw[hp]at e; cases e; rfl)
 refine kk _ (.dat _) st1 _ g2 (a1.trans ⟨rfl,rfl,a1.rel.step x1 x2,x1.nil⟩) (RD.list ⟨_,x3.trans hp,rfl,0,rfl⟩ (r1.mono x1.sub)) hq
theorem d4x{es:Es}{xs:List Expr}{k1:Nat}{pos:Pos}(h:SEs C Γ sc n hz es xs)(hl:xs.length≤1000):SE C Γ sc n hz (.tup es) (.Tuple xs k1 pos):=fun A env g s al st Eh Q Q' H hw kk=>by
 refine Tuple_ (h A env g s al st Eh pos _ _ _ H hw fun vs us st1 s1 g1 a1 r1 hlen hq=>?_);have hq:Q (.dat (.tuple us)) st1:=by simpa using hq
 refine wpAny_newTuple ?_ (by rw[hlen]; exact Nat.le_trans hl (by decide))
 have hp:(s1.heap.push { cls:=.type "tuple",data:=.seq vs.toArray }).get? s1.heap.objs.size=some { cls:=.type "tuple",data:=.seq vs.toArray }:=Heap.get?_push_size _ rfl;have ha:=a0e s1.heap;obtain⟨g2,x1,x2,x3⟩:=Step.grow (tk:=s1.toks) a1.rel.sub (a0f _) ha (fun o e hc=>by rw[hp]at e; cases e; simp at hc)
 refine kk _ (.dat _) st1 _ g2 (a1.trans ⟨rfl,rfl,a1.rel.step x1 x2,x1.nil⟩) (RD.tuple ⟨_,x3.trans hp,rfl,0,rfl⟩ (r1.mono x1.sub)) hq
end
end
section
section
variable {C:Cfg} {Γ:Ctx} {sc:SI} {n:Nat} {hz:Bool} {k:Ck}
theorem d5p{a:E}{x:Expr}{pos:Pos}(ha:ST C Γ sc n hz a x):ST C Γ sc n hz (.not a) (.UnaryOp .Not x pos):=fun A env g s al st Eh Q Q' H hw kk=>
 isTrue_not (ha A env g s al st Eh _ _ H hw fun b st' s' g' a1 hq=>kk _ st' s' g' a1 hq)
theorem d6o{a b:E}{x y:Expr}{pos:Pos}(ha:ST C Γ sc n hz a x)(hb:ST C Γ sc n hz b y):ST C Γ sc n hz (.and a b) (.BoolOp .And [x,y] pos):=fun A env g s al st Eh Q Q' H hw kk=>by
 refine isTrue_and (ha A env g s al st Eh _ _ H hw fun t st1 s1 g1 a1 hw1=>?_);cases t with
 |true=>
  refine isTrue_and (hb A env _ _ al _ Eh _ _ (H.go a1) hw1 fun u st' s' g' a3 hq=>?_);cases u with
  |true=>exact isTrue_and_nil (kk true st' s' g' (a1.trans a3) hq)
  |false=>exact kk false st' s' g' (a1.trans a3) hq
 |false=>exact kk _ _ _ _ a1 hw1
theorem d8b{a b:E}{x y:Expr}{pos:Pos}(ha:ST C Γ sc n hz a x)(hb:ST C Γ sc n hz b y):ST C Γ sc n hz (.or a b) (.BoolOp .Or [x,y] pos):=fun A env g s al st Eh Q Q' H hw kk=>by
 refine isTrue_or (ha A env g s al st Eh _ _ H hw fun t st1 s1 g1 a1 hw1=>?_);cases t with
 |false=>
  refine isTrue_or (hb A env _ _ al _ Eh _ _ (H.go a1) hw1 fun u st' s' g' a3 hq=>?_);cases u with
  |false=>exact isTrue_or_nil (kk false st' s' g' (a1.trans a3) hq)
  |true=>exact kk true st' s' g' (a1.trans a3) hq
 |true=>exact kk _ _ _ _ a1 hw1
theorem a8n{s:e1m}{b:Bool}{Q':Bool→e1m→Prop}(hv:RD g v (.bool b))(h:∀t,Q' b { s with toks:=t }):e1p (model C.prog C.w) A (truthy v) Q' Eh s:=by
 obtain rfl:=hv.boolE;obtain⟨c,hc,ht⟩:=a4r (C:=C) (A:=A) (E:=Eh) (s:=s) (g:=g) (v:=.bool b) (d:=.bool b) (Q:=fun c=>c=b) hv rfl;subst hc;exact ht _ h
theorem d5d{o:Cmp}{a b:E}{x y:Expr}{pos:Pos}(ha:SE C Γ sc n hz a x)(hb:SE C Γ sc n hz b y)(hm:behindInMarks (a9a o) y=false):ST C Γ sc n hz (.cmp o a b) (.Compare x [a9a o] [y] pos):=fun A env g s al st Eh Q Q' H hw kk=>by
 refine wpAny_isTrue_Compare1 (ha A env g s al st Eh _ _ H hw fun va ua st1 s1 g1 a1 i1 hw1=>hb A env g1 s1 al st1 Eh _ _ (H.go a1) hw1 fun vb ub st2 s2 g2 a2 i2 hw2=>?_) hm
 split at hw2
 ·rename_i x y ex ey
  obtain⟨d,hq,ht⟩:=a9t (C:=C) (A:=A) (E:=Eh) ((H.go a1).go a2).ok a2.rel.sub (a2.rel.dat? (i1.mono a2.step.sub) ex) (a2.rel.dat? i2 ey) hw2;exact((H.go a1).go a2).to ht fun v s' g' a3 r=>a8n r fun t=>kk d _ _ g' (a1.trans (a2.trans (a3.trans (Aft.trans (Aft.refl a3.rel) ⟨rfl,rfl,a3.rel.step (s':={ s' with toks:=t }) Step.toks a3.rel.sub,Step.toks.nil⟩)))) hq
 ·exact hw2.elim
set_option backward.match.sparseCases false in
noncomputable def c8f:Expr→Bool
 |.Name ..=>true|.Call ..=>true|.Subscript ..=>true|.BinOp ..=>true|_=>false
theorem c3y{x:Expr}{whole:Sem e1n}(h:c8f x=true):PySem.isTrue x env whole=(do let v ←whole; standAt x.pos; holding [v] (truthy v)):=by
 cases x <;> first|rfl|cases h
theorem a4n{a:E}{x:Expr}(hx:c8f x=true)(ha:SE C Γ sc n hz a x)(he:∀st Q,wpT Γ a st Q→wpE Γ a st fun v st=>truthV (st.dat? v) fun b=>Q b st):ST C Γ sc n hz a x:=fun A env g s al st Eh Q Q' H hw kk=>
 isTrue_plain (ha A env g s al st Eh _ _ H (he _ _ hw) fun va ua st1 s1 g1 a1 i1 hw1=>b1a (H.go a1) i1 hw1 fun t s2 a2 hw2=>kk t _ _ _ (a1.trans a2) hw2) (c3y hx)
theorem d0l{st:St}{Q:Bool→St→Prop}(h:wpT Γ (.var i) st Q):wpE Γ (.var i) st fun v st=>truthV (st.dat? v) fun b=>Q b st:=by
 have h:truthV (st.dat? (st.get i)) fun b=>Q b st:=h;show match st.get i with|.undef=>False|v=>truthV (st.dat? v) fun b=>Q b st
 cases e:st.get i with
 |undef=>rw[e]at h; exact h
 |_=>rw[e]at h; exact h
theorem c5l{as:Es}{st:St}{Q:Bool→St→Prop}(h:wpT Γ (.call f as) st Q):wpE Γ (.call f as) st fun v st=>truthV (st.dat? v) fun b=>Q b st:=h
theorem d1v{a i:E}{st:St}{Q:Bool→St→Prop}(h:wpT Γ (.idx a i) st Q):wpE Γ (.idx a i) st fun v st=>truthV (st.dat? v) fun b=>Q b st:=h
theorem d3w{m:M}{a:E}{as:Es}{st:St}{Q:Bool→St→Prop}(h:wpT Γ (.me m a as) st Q):wpE Γ (.me m a as) st fun v st=>truthV (st.dat? v) fun b=>Q b st:=h
theorem c0p{a:E}{st:St}{Q:Bool→St→Prop}(h:wpT Γ (.isint a) st Q):wpE Γ (.isint a) st fun v st=>truthV (st.dat? v) fun b=>Q b st:=h
theorem d0n{o:Op2}{a b:E}{st:St}{Q:Bool→St→Prop}(h:wpT Γ (.bin o a b) st Q):wpE Γ (.bin o a b) st fun v st=>truthV (st.dat? v) fun b=>Q b st:=h
theorem a7u{g g':Heap}{s s':e1m}{al:List Addr}{st:St}{ow:List OV}(R:Rel C sc env g s.heap al st)(B:BRel C g' s'.heap al ow)(x:Step (al++C.TA) s g s' g'):Aft C sc env al g s st g' s' { st with own:=ow }:=
 ⟨rfl,rfl,R.back x (fun b hb=>(List.mem_append.mp hb).elim .inl fun h=>.inr (.inl h)) B,x⟩
theorem a5b{pos:Pos}{a:Addr}{xs:List Expr}{s:e1m}(hd:o.data=.func fd)(hx:∃x r,xs=x::r∧a0j x=true)
 (h:e1p (model C.prog C.w) A (spliced (e2e pos (e1z xs env))) (fun vs s₁=>s₁.heap.get? a=some o∧e1p (model C.prog C.w) A (call (.ref a) vs) Q' Eh s₁) Eh s) :
  e1p (model C.prog C.w) A (callWith pos (.ref a) [] (e2e pos (e1z xs env)) []) Q' Eh s:=by
 obtain⟨x,r,rfl,hu⟩:=hx;exact callWith_def hd h (a0g hu)
theorem c2o {p pos:Pos} {es:Es} {xs:List Expr} (G:Good C k) (Γok:a3q C Γ n) (hf:k.fname f=some x) (hk:sc.names.lookup x=some .globalImplicit) (hd:(x==("__debug__" : Str))=false)
 (hx:∃x r,xs=x::r∧a0j x=true) (hs:SAs C Γ sc n hz es xs):SE C Γ sc n hz (.call f es) (.Call (.Name x p) xs [] pos):=fun A env g s al st Eh Q Q' H hw kk=>by
 obtain⟨a,o,fd,ea,hfd,ho⟩:=G.fo f x hf;refine e2b (a1q H hk hd (ea▸G.fn f x hf) (a5b hfd hx ?_));refine hs A env g s al st Eh pos [] _ _ H hw fun vs us st1 s1 g1 a1 i1 hw1=>⟨a1.rel.sub _ _ (ho _ a1.rel.amb),?_⟩;have i1':InVs C g1 al (vs++[]) us:=by simpa using i1
 have c:=Γok f A g1 s1 al st1.own st1.hz vs [] [] ([]++us) Eh _ Q' (H.go a1).ok a1.rel.b ((H.go a1).fr.b a1.rel) rfl (by simpa using i1) hw1 fun v u ow' s' g' B x3 iv hq=>?_
 ·rw[ea]at c; exact c
 ·exact kk v u _ s' g' (a1.trans (a7u a1.rel B x3)) iv hq.2
theorem c6b {i f:Nat} {p pos:Pos} {es:Es} {xs:List Expr} (G:Good C k) (Γok:a3q C Γ n) (hf:k.fcl f=true) (hi:sc.ids.lookup x=some i) (hd:(x==("__debug__" : Str))=false) (hc:(x==("__classdict__" : Str))=false)
 (hx:∃x r,xs=x::r∧a0j x=true) (hs:SAs C Γ sc n hz es xs):SE C Γ sc n hz (.callV i f es) (.Call (.Name x p) xs [] pos):=fun A env g s al st Eh Q Q' H hw kk=>by
 obtain⟨a,o,fd,ea,hfd,ho⟩:=G.fc f hf;dsimp only[wpE]at hw
 split at hw
 ·rename_i f' ef
  obtain⟨rfl,hw⟩:=hw;refine e2b (a1h H.eok H.rel hi (by rw[ef]; simp) hd hc fun v hv=>?_)
  rw[ef]at hv;have hv:v=C.fnv f':=hv;subst hv;rw[ea];refine a5b hfd hx ?_;refine hs A env g s al st Eh pos [] _ _ H hw fun vs us st1 s1 g1 a1 i1 hw1=>⟨a1.rel.sub _ _ (ho _ a1.rel.amb),?_⟩;have c:=Γok f' A g1 s1 al st1.own st1.hz vs [] [] ([]++us) Eh _ Q' (H.go a1).ok a1.rel.b ((H.go a1).fr.b a1.rel) rfl (by simpa using i1) hw1 fun v u ow' s' g' B x3 iv hq=>?_
  ·rw[ea]at c; exact c
  ·exact kk v u _ s' g' (a1.trans (a7u a1.rel B x3)) iv hq.2
 ·exact hw.elim
theorem b5p{pos:Pos}{a:Addr}{xs:List Expr}{kws:List Keyword}{s:e1m}(hd:o.data=.func fd)(hx:∃x r,xs=x::r∧a0j x=true)
 (hks:kws.map (·.arg)=ks.map some)
 (h:e1p (model C.prog C.w) A (spliced (e2e pos (e1z xs env))) (fun vs s₁=>e1p (model C.prog C.w) A (evalAll ((backToKw pos (keywordEach kws env)).map (·.2))) (fun ws s₂=>s₂.heap.get? a=some o∧e1p (model C.prog C.w) A (call (.ref a) vs (ks.zip ws)) Q' Eh s₂) Eh s₁) Eh s) :
  e1p (model C.prog C.w) A (callWith pos (.ref a) [] (e2e pos (e1z xs env)) (backToKw pos (keywordEach kws env))) Q' Eh s:=by
 obtain⟨x,r,rfl,hu⟩:=hx;have e1:∀kws:List Keyword,∀ks:List Str,kws.map (·.arg)=ks.map some→(backToKw pos (keywordEach kws env)).map (·.1)=ks.map some:=by
  intro kws
  induction kws with
  |nil=>intro ks h; simpa[backToKw,arm_keywordEach_nil]using h
  |cons q r ih=>
   intro ks h;obtain⟨nm,val,p⟩:=q;cases ks with
   |nil=>simp at h
   |cons y ys=>
    simp only[List.map_cons,List.cons.injEq]at h;rw[arm_keywordEach_cons]
    have:=ih ys h.2
    simp only[backToKw,List.map_cons,List.map_map]at this ⊢;rw[h.1];exact congrArg _ this
 have e2:=e1 kws ks hks;have e3:(backToKw pos (keywordEach kws env)).filterMap (·.1)=ks:=by
  have:(backToKw pos (keywordEach kws env)).filterMap (·.1)=((backToKw pos (keywordEach kws env)).map (·.1)).filterMap id:=by rw[List.filterMap_map]; rfl
  rw[this,e2,List.filterMap_map];simp
 have e4:((backToKw pos (keywordEach kws env)).all fun x=>x.1.isSome)=true:=by
  have:((backToKw pos (keywordEach kws env)).all fun x=>x.1.isSome)=((backToKw pos (keywordEach kws env)).map (·.1)).all Option.isSome:=by rw[List.all_map]; rfl
  rw[this,e2];simp
 have e5:e2e pos (e1z (x::r) env)=(false,eval x env)::e2e pos (e1z r env):=by rw[a0g hu]; rfl
 refine callWith_def_kw hd ?_;rw[e5]at h ⊢;refine evalArgs_kw e4 ?_;rw[e3];exact h
theorem c1u {p pos:Pos} {es kvs:Es} {xs:List Expr} {kws:List Keyword} (G:Good C k) (Γok:a3q C Γ n) (hf:k.fname f=some x) (hk:sc.names.lookup x=some .globalImplicit) (hd:(x==("__debug__" : Str))=false)
 (hx:∃x r,xs=x::r∧a0j x=true) (hks:kws.map (·.arg)=ks.map some) (hs:SAs C Γ sc n hz es xs) (hr:SKs C Γ sc n hz ks kvs kws):SE C Γ sc n hz (.callKw f es ks kvs) (.Call (.Name x p) xs kws pos):=fun A env g s al st Eh Q Q' H hw kk=>by
 obtain⟨a,o,fd,ea,hfd,ho⟩:=G.fo f x hf;refine wpAny_Call_Name_kw (a1q H hk hd (ea▸G.fn f x hf) (b5p hfd hx hks ?_));refine hs A env g s al st Eh pos [] _ _ H hw fun vs us st1 s1 g1 a1 i1 hw1=>hr A env g1 s1 al st1 Eh pos [] _ _ (H.go a1) hw1 fun ws xs st2 s2 g2 a2 i2 hl hw2=>⟨a2.rel.sub _ _ (ho _ a2.rel.amb),?_⟩;have c:=Γok f A g2 s2 al st2.own st2.hz vs ks ws (([]++us)++([]++xs)) Eh _ Q' ((H.go a1).go a2).ok a2.rel.b (((H.go a1).go a2).fr.b a2.rel) hl.symm (by simpa using (i1.mono a2.step.sub).append i2) hw2 fun v u ow' s' g' B x3 iv hq=>?_
 ·rw[ea]at c; exact c
 ·exact kk v u _ s' g' (a1.trans (a2.trans (a7u a2.rel B x3))) iv hq.2
end
end
section
section
variable {C:Cfg} {Γ:Ctx} {sc:SI} {n:Nat} {hz:Bool} {k:Ck}
noncomputable def b7y:B→Str
 |.len=>"len" |.min=>"min" |.divmod=>"divmod" |.isint=>"isinstance"
theorem b2q(b:B):b7y b∈bnames:=by cases b <;> decide
theorem a9o(b:B):bootBuiltins (b7y b)=some (d8z b):=by cases b <;> rfl
theorem d2q(b:B):∃id,d8z b=.builtin id:=by cases b <;> exact⟨_,rfl⟩
theorem b0q{env:Env}{g h:Heap}{al:List Addr}{st:St}(R:Rel C sc env g h al st):∀{vs:List e1n} {us:List V} {ds:List e1l},InVs C g al vs us→st.datAll us=some ds→RDHs g h vs ds
 |[],[],_,_,e=>by cases e; exact .nil
 |v::vs,u::us,ds,i,e=>by
  dsimp only[St.datAll]at e;cases e1:st.dat? u with
  |none=>rw[e1]at e; exact nomatch e
  |some d=>
   rw[e1]at e;cases e2:st.datAll us with
   |none=>rw[e2]at e; exact nomatch e
   |some ds'=>
    rw[e2]at e;exact Option.some.inj e ▸ .cons (R.dat? i.1 e1) (b0q R i.2 e2)
 |[],_::_,_,i,_=>i.elim
 |_::_,[],_,i,_=>i.elim
theorem a2f{pos:Pos}{id:String}{xs:List Expr}{s:e1m}(hx:(xs.all a0j)=true)(hne:xs≠[])
 (h:e1p (model C.prog C.w) A (spliced (e2e pos (e1z xs env))) (fun vs s₁=>e1p (model C.prog C.w) A (call (.builtin id) vs) Q' Eh s₁) Eh s) :
  e1p (model C.prog C.w) A (callWith pos (.builtin id) [] (e2e pos (e1z xs env)) []) Q' Eh s:=by
 have e1:∀xs:List Expr,(xs.all a0j)=true→((e2e pos (e1z xs env)).any (·.1))=false:=by
  intro xs
  induction xs with
  |nil=>intro _; rfl
  |cons x r ih=>
   intro h;simp only[List.all_cons,Bool.and_eq_true]at h;rw[a0g h.1];show(false||(e2e pos (e1z r env)).any (·.1))=false
   rw[ih h.2]; rfl
 refine callWith_builtin (e1 xs hx) ?_;obtain⟨x,r,rfl⟩:=List.exists_cons_of_ne_nil hne;simp only[List.all_cons,Bool.and_eq_true]at hx;have e5:e2e pos (e1z (x::r) env)=(false,eval x env)::e2e pos (e1z r env):=by rw[a0g hx.1]; rfl
 rw[e5]at h ⊢;exact evalArgs_plain h
theorem b5u{pos:Pos}{id:String}{xs:List Expr}{s:e1m}(hx:(xs.all a0j)=true)(hne:xs≠[])
 (h:e1p (model C.prog C.w) A (spliced (e2e pos (e1z xs env))) (fun vs s₁=>e1p (model C.prog C.w) A (call (.type id) vs) Q' Eh s₁) Eh s) :
  e1p (model C.prog C.w) A (callWith pos (.type id) [] (e2e pos (e1z xs env)) []) Q' Eh s:=by
 have e1:∀xs:List Expr,(xs.all a0j)=true→((e2e pos (e1z xs env)).any (·.1))=false:=by
  intro xs
  induction xs with
  |nil=>intro _; rfl
  |cons x r ih=>
   intro h;simp only[List.all_cons,Bool.and_eq_true]at h;rw[a0g h.1];show(false||(e2e pos (e1z r env)).any (·.1))=false
   rw[ih h.2]; rfl
 refine PySem.callWith_type (e1 xs hx) ?_;obtain⟨x,r,rfl⟩:=List.exists_cons_of_ne_nil hne;simp only[List.all_cons,Bool.and_eq_true]at hx;have e5:e2e pos (e1z (x::r) env)=(false,eval x env)::e2e pos (e1z r env):=by rw[a0g hx.1]; rfl
 rw[e5]at h ⊢;exact evalArgs_plain h
theorem d8a{b:B}{p pos:Pos}{es:Es}{xs:List Expr}(G:Good C k)(hb:biX b=[])(hz1:hz=true)(hk:sc.names.lookup (b7y b)=some .globalImplicit)(hx:(xs.all a0j)=true)(hne:xs≠[])
 (hs:SRs C Γ sc n hz es xs):SE C Γ sc n hz (.bi b es) (.Call (.Name (b7y b) p) xs [] pos):=fun A env g s al st Eh Q Q' H hw kk=>by
 obtain⟨id,eid⟩:=d2q b;refine e2b (a1s G H hk (by cases b <;> decide) (b2q b) (a9o b) ?_)
 rw[eid];refine a2f hx hne (hs A env g s al st Eh pos [] _ _ H hw fun vs us st1 s1 g1 a1 i1 hl hw1=>?_)
 split at hw1
 ·rename_i ds e
  have e:st1.datAll us=some ds:=by simpa using e
  obtain⟨d,hq,ht⟩:=b7d (C:=C) (A:=A) (E:=Eh) ((H.go a1).hh hz1) a1.rel.sub (b0q a1.rel i1 e) hw1;rw[eid,hb,List.append_nil]at ht;exact(H.go a1).to ht fun v s' g' a3 r=>kk v (.dat _) _ _ _ (a1.trans a3) r hq
 ·exact hw1.elim
theorem b7v {p p2 pos:Pos} {e:E} {x:Expr} (G:Good C k) (hz1:hz=true) (hk:sc.names.lookup ("isinstance" : Str)=some .globalImplicit) (hk2:sc.names.lookup ("int" : Str)=some .globalImplicit) (hx:a0j x=true)
 (hs:SE C Γ sc n hz e x):SE C Γ sc n hz (.isint e) (.Call (.Name "isinstance" p) [x,.Name "int" p2] [] pos):=fun A env g s al st Eh Q Q' H hw kk=>by
 refine e2b (a1s G H hk (by decide) (b2q .isint) (a9o .isint) ?_)
 refine a2f (by show(a0j x&&(true&&true))=true; rw[hx]; rfl) (by simp) (spliced_more (hs A env g s al st Eh _ _ H hw fun va ua st1 s1 g1 a1 i1 hw1=>spliced_more (a1s G (H.go a1) hk2 (by decide) (by decide) (v:=.type "int") rfl (spliced_nil ?_)) rfl) (a0g hx))
 split at hw1
 ·rename_i dd e
  obtain⟨d,hq,ht⟩:=b7d (C:=C) (A:=A) (E:=Eh) ((H.go a1).hh hz1) a1.rel.sub (.cons (a1.rel.dat? i1 e) .nil) hw1;exact(H.go a1).to ht fun v s' g' a3 r=>kk v (.dat _) _ _ _ (a1.trans a3) r hq
 ·exact hw1.elim
theorem c8w{g h:Heap}{al:List Addr}{st:St}(R:Rel C sc env g h al st){u:V}(i:InV C g al v u)(e:st.dat? u=some d):NoD h v:=by
 intro a ea;subst ea;have hg:∀d:e1l,RD g (.ref a) d→∃o,h.get? a=some o∧(o.cls=.type "list" →o.dict=none):=fun d r=>by
  obtain⟨as,r⟩:=r;cases r with
  |list ho hc hd _=>exact⟨_,R.sub _ _ ho,fun h=>R.nd a _ ho h ⟨_,_,hd⟩⟩
  |tuple ho hc hd _=>exact⟨_,R.sub _ _ ho,fun h=>R.nd a _ ho h ⟨_,_,hd⟩⟩
  |dict ho hc=>exact⟨_,R.sub _ _ ho,fun h=>by rw[hc]at h; simp at h⟩
 cases u with
 |dat d'=>exact hg _ i
 |own j=>
  obtain⟨a',ha',e'⟩:=i;cases e';dsimp only[St.dat?]at e;cases hl:st.own[j]? with
  |none=>rw[hl]at e; exact nomatch e
  |some o=>
   rw[hl]at e;cases o with
   |lst l=>
    obtain⟨b,hb,_,vs,⟨m,hp⟩,_⟩:=R.own j _ hl;rw[ha']at hb; cases hb;exact⟨_,hp,fun _=>rfl⟩
   |froz l=>
    obtain⟨b,hb,r⟩:=R.own j _ hl;rw[ha']at hb; cases hb;have e:=Option.some.inj e;subst e;exact hg _ r
   |_=>exact nomatch e
 |_=>cases e
set_option backward.match.sparseCases false in
noncomputable def a4u:Expr→Bool
 |.Name ..=>true|.Constant ..=>true|.Subscript ..=>true|.BinOp ..=>true|.Call (.Attribute ..) _ _ _=>true|_=>false
theorem a1c{o:Expr}(h:a4u o=true):attributeBase o nm env (eval o env)=eval o env:=by
 cases o with
 |Call f a kws p=>
  cases f with
  |Attribute v nm2 p2=>rfl
  |_=>cases h
 |_=>first|rfl|cases h
theorem few{pos:Pos}{xs:List Expr}(hx:(xs.all a0j)=true)(hl:xs.length≤20) :
  ((e2e pos (e1z xs env)).all (fun x=>!x.1)&&(backToKw pos (keywordEach [] env)).all (fun x=>x.1.isSome)&&decide (xs.length+([]:List Keyword).length+(if ([]:List Keyword).isEmpty then 0 else 1)<30))=true:=by
 have e1:∀xs:List Expr,(xs.all a0j)=true→((e2e pos (e1z xs env)).all fun x=>!x.1)=true:=by
  intro xs
  induction xs with
  |nil=>intro _; rfl
  |cons x r ih=>
   intro h;simp only[List.all_cons,Bool.and_eq_true]at h;rw[a0g h.1];show(true&&(e2e pos (e1z r env)).all fun x=>!x.1)=true;rw[ih h.2]; rfl
 rw[e1 xs hx]
 have:xs.length<30:=by omega
 simp[backToKw,arm_keywordEach_nil,this]
theorem a1l{pos:Pos}{id:String}{first:List e1n}{xs:List Expr}{s:e1m}(hx:(xs.all a0j)=true)
 (h:e1p (model C.prog C.w) A (spliced (e2e pos (e1z xs env))) (fun vs s₁=>e1p (model C.prog C.w) A (call (.builtin id) (first++vs)) Q' Eh s₁) Eh s) :
  e1p (model C.prog C.w) A (callWith pos (.builtin id) first (e2e pos (e1z xs env)) []) Q' Eh s:=by
 cases xs with
 |nil=>
  refine callWith_method0 ?_;have h:=h
  have:∀Q:List e1n→e1m→Prop,e1p (model C.prog C.w) A (spliced (e2e pos (e1z [] env))) Q Eh s→Q [] s∨True:=fun _ _=>.inr trivial
  have e:spliced (e2e pos (e1z [] env))=(pure []:Sem (List e1n)):=rfl;rw[e]at h;have h2:=e1k (f:=fun vs=>call (.builtin id) (first++vs)) h;have e2:((pure []:Sem (List e1n)) >>= fun vs=>call (.builtin id) (first++vs))=call (.builtin id) first:=by
   show call (.builtin id) (first++[])=_;rw[List.append_nil]
  rw[e2]at h2;exact h2
 |cons x r=>
  simp only[List.all_cons,Bool.and_eq_true]at hx;have e1:∀xs:List Expr,(xs.all a0j)=true→((e2e pos (e1z xs env)).any (·.1))=false:=by
   intro xs
   induction xs with
   |nil=>intro _; rfl
   |cons x r ih=>
    intro h;simp only[List.all_cons,Bool.and_eq_true]at h;rw[a0g h.1];show(false||(e2e pos (e1z r env)).any (·.1))=false
    rw[ih h.2]; rfl
  exact callWith_method1 h (a0g hx.1) (e1 r hx.2)
theorem d4f{m:M}{a:E}{x:Expr}{es:Es}{xs:List Expr}{ap pos:Pos}(hnm:(meN m:Str)=nm)(hsup:a4u x=true)(hln:(ap.endLine==pos.line)=true)(hx:(xs.all a0j)=true)(hl:xs.length≤20)
 (ha:SE C Γ sc n hz a x) (hs:SRs C Γ sc n hz es xs):SE C Γ sc n hz (.me m a es) (.Call (.Attribute x nm ap) xs [] pos):=fun A env g s al st Eh Q Q' H hw kk=>by
 subst hnm;obtain⟨f1,f2,f3⟩:=b6f m;refine wpAny_Call_method_lateS (a1c hsup) (few hx hl) hln (ha A env g s al st Eh _ _ H hw fun va ua st1 s1 g1 a1 i1 hw1=>?_);obtain⟨hok,hw1⟩:=hw1;have hrec:∃d,st1.dat? ua=some d:=by
  cases e:st1.dat? ua with
  |none=>rw[e]at hok; exact hok.elim
  |some d=>exact⟨d,rfl⟩
 obtain⟨d,ed⟩:=hrec;obtain⟨t1,t2⟩:=c3b (a1.rel.dat? i1 ed) (c8w a1.rel i1 ed) (ed▸hok);refine⟨meT m,meI m,f1,f2,f3,t1,t2,a1l hx (hs A env g1 s1 al st1 Eh pos [] _ _ (H.go a1) hw1 fun vs us st2 s2 g2 a2 i2 hl2 hw2=>?_)⟩
 split at hw2
 ·rename_i d ds e1 e2
  obtain⟨r,hq,ht⟩:=c5c (C:=C) (A:=A) (E:=Eh) ((H.go a1).go a2).ok a2.rel.sub (a2.rel.dat? (i1.mono a2.step.sub) e1) (b0q a2.rel i2 e2) hw2;exact((H.go a1).go a2).to ht fun v s' g' a3 r=>kk v (.dat _) _ _ _ (a1.trans (a2.trans a3)) r hq
 ·exact hw2.elim
theorem c4a{s:e1m}{t:Tok}(hx:x.length≤e2f)(hs:(Builtin.Str.spaceWords x (x.length+1)).length≤e2f)(h1:(Builtin.Str.spaceWords x (x.length+1)==[(0,x.length)])=false) :
  ToF C A Eh g s (call (.builtin "str.split") [.str x t]) ((PySem.wordsOf x).map .str):=fun Q h=>by
 have fin:∀(xs:List (Str×Tok)) tk,xs.map (·.1)=PySem.wordsOf x→Q (.ref s.heap.objs.size) { s with heap:=s.heap.push { cls:=.type "list",data:=.seq (strValues xs).toArray },toks:=tk }:=fun xs tk e=>
  h _ (strValues xs) _ tk (a0f _) (a0e _) ⟨0,Heap.get?_push_size _ rfl⟩ (e▸RDs.strs xs)
 refine call_meets F.slot_str_split (typeIs_str _ _ _) F.entry_str_split (F.args_str_split_1 _) (meets_str_split_space x t hx hs) ?_;rw[h1];rw[strsFrom_eq];exact fin _ _ (numbered_texts _ _)
theorem c5i {x nm:Str} {ws:List Str} {ap pos:Pos} (hnm:("split" : Str)=nm) (hsup:a4u y=true) (hln:(ap.endLine==pos.line)=true) (hx:x.length≤e2f) (hs:(Builtin.Str.spaceWords x (x.length+1)).length≤e2f) (h1:(Builtin.Str.spaceWords x (x.length+1)==[(0,x.length)])=false)
 (hw:PySem.wordsOf x=ws) (ha:SE C Γ sc n hz (.str x) y):SE C Γ sc n hz (.words x ws) (.Call (.Attribute y nm ap) [] [] pos):=fun A env g s al st Eh Q Q' H hw' kk=>by
 subst hw;refine wpAny_Call_method_lateS (a1c hsup) (few rfl (by decide)) hln (ha A env g s al st Eh (fun v st'=>v=.dat (.str x)∧Q (.dat (.list ((PySem.wordsOf x).map .str))) st') _ H ⟨rfl,hw'⟩ fun va ua st1 s1 g1 a1 i1 hw1=>?_)
 obtain⟨rfl,hw1⟩:=hw1;subst hnm;obtain⟨t,rfl⟩:=RD.strE i1;refine⟨"str", "str.split",F.plainAttrs_str,F.slot_str_split,F.type_str_split,typeIs_str _ _ _,(fun _ e=>nomatch e),a1l rfl (spliced_nil ?_)⟩;exact(H.go a1).to (ToF.to a1.rel.sub (c4a hx hs h1)) fun v s' g' a3 r=>kk v (.dat _) _ _ _ (a1.trans a3) r hw1
theorem a3g{g h:Heap}{al:List Addr}{st:St}(R:Rel C sc env g h al st){o:OV}(i:InV C g al v (.own j))(e:st.own[j]?=some o):∃a,v=.ref a∧al[j]?=some a∧OwnOK g h a o:=by
 obtain⟨a,ha,rfl⟩:=i;obtain⟨b,hb,q⟩:=R.own j o e;rw[ha]at hb; cases hb;exact⟨a,rfl,ha,q⟩
theorem a2q{s s':e1m}{al:List Addr}{st:St}{a:Addr}{o:OV}(R:Rel C sc env g s.heap al st)(x:Step [a] s g s' g)(sb:Sub g s'.heap)(ha:al[j]?=some a)(q:OwnOK g s'.heap a o) :
  Aft C sc env al g s st g s' (st.setOwn j o):=
 ⟨rfl,rfl,R.turn x sb ha (by simp) q,x.mono fun b hb=>by simp at hb; subst hb; exact List.mem_append_left _ (List.mem_of_getElem? ha)⟩
theorem a6y {a:Addr} {l:List e1l} {s:e1m} (q:OwnOK g s.heap a (.lst l)):s.TypeIs (.ref a) "list" ∧ ∀b,Value.ref a=.ref b→∃o,s.heap.get? b=some o∧o.dict=none:=by
 obtain⟨_,vs,⟨m,hp⟩,_⟩:=q;have hl:s.heap.IsList a vs.toArray:=⟨_,hp,rfl,m,rfl⟩;exact⟨hl.typeIs,fun b e=>by cases e; exact⟨_,hp,rfl⟩⟩
theorem d3t {e:E} {p ap pos:Pos} (hi:sc.ids.lookup x=some i) (hd:(x==("__debug__" : Str))=false) (hc:(x==("__classdict__" : Str))=false) (hln:(ap.endLine==pos.line)=true) (hy:a0j y=true)
 (h:SE C Γ sc n hz e y):SE C Γ sc n hz (.pop i e) (.Call (.Attribute (.Name x p) "pop" ap) [y] [] pos):=fun A env g s al st Eh Q Q' H hw kk=>by
 dsimp only[wpE]at hw
 split at hw
 ·rename_i j ej
  obtain⟨⟨l,hl⟩,hw⟩:=hw;refine wpAny_Call_method_lateS (a1c (o:=.Name x p) rfl) (few (by show(a0j y&&true)=true; rw[hy]; rfl) (by simp)) hln (a1h H.eok H.rel hi (by rw[ej]; simp) hd hc fun v hv=>?_)
  rw[ej]at hv;obtain⟨a,rfl,ha,q⟩:=a3g H.rel hv hl;obtain⟨t1,t2⟩:=a6y q;refine⟨"list", "list.pop",F.plainAttrs_list,F.slot_list_pop,F.type_list_pop,t1,t2,a1l (by show(a0j y&&true)=true; rw[hy]; rfl) (spliced_more (h A env g s al st Eh _ _ H hw fun va ua st1 s1 g1 a1 i1 hw1=>spliced_nil ?_) (a0g hy))⟩
  split at hw1
  ·rename_i jj l1 e1 e2
   obtain⟨h1,h2,hw1⟩:=hw1
   split at hw1
   ·rename_i m em
    split at hw1
    ·rename_i d ed
     obtain⟨b,hb,q1⟩:=a1.rel.own j _ e2;rw[ha]at hb; cases hb;obtain⟨t,rfl⟩:=RD.intE (a1.rel.dat? i1 e1);refine c6n a1.rel.sub q1 h1 h2 em ed _ fun v s' r x sb q2=>?_;exact kk v (.dat d) _ s' g1 (a1.trans (a2q a1.rel x sb ha q2)) r hw1
    ·exact hw1.elim
   ·exact hw1.elim
  ·exact hw1.elim
 ·exact hw.elim
theorem d0m {p ap pos:Pos} (hi:sc.ids.lookup x=some i) (hd:(x==("__debug__" : Str))=false) (hc:(x==("__classdict__" : Str))=false) (hln:(ap.endLine==pos.line)=true) :
  SE C Γ sc n hz (.pop0 i) (.Call (.Attribute (.Name x p) "pop" ap) [] [] pos):=fun A env g s al st Eh Q Q' H hw kk=>by
 dsimp only[wpE]at hw
 split at hw
 ·rename_i j ej
  split at hw
  ·rename_i l hl
   obtain⟨h1,hw⟩:=hw
   split at hw
   ·rename_i d ed
    refine wpAny_Call_method_lateS (a1c (o:=.Name x p) rfl) (few rfl (by simp)) hln (a1h H.eok H.rel hi (by rw[ej]; simp) hd hc fun v hv=>?_)
    rw[ej]at hv;obtain⟨a,rfl,ha,q⟩:=a3g H.rel hv hl;obtain⟨t1,t2⟩:=a6y q;refine⟨"list", "list.pop",F.plainAttrs_list,F.slot_list_pop,F.type_list_pop,t1,t2,a1l rfl (spliced_nil ?_)⟩;refine c3n H.rel.sub q h1 ed _ fun v s' r x sb q2=>?_;exact kk v (.dat d) _ s' g (a2q H.rel x sb ha q2) r hw
   ·exact hw.elim
  ·exact hw.elim
 ·exact hw.elim
theorem d1z {p p2 pos:Pos} (G:Good C k) (hk:sc.names.lookup ("next" : Str)=some .globalImplicit) (hi:sc.ids.lookup x=some i) (hd:(x==("__debug__" : Str))=false) (hc:(x==("__classdict__" : Str))=false) :
  SE C Γ sc n hz (.next i) (.Call (.Name "next" p) [.Name x p2] [] pos):=fun A env g s al st Eh Q Q' H hw kk=>by
 dsimp only[wpE]at hw
 split at hw
 ·rename_i j ej
  split at hw
  ·rename_i d r hl
   refine e2b (a1s G H hk (by decide) (by decide) (v:=.builtin "next") rfl ?_)
   refine a2f rfl (by simp) (spliced_more (a1h H.eok H.rel hi (by rw[ej]; simp) hd hc fun v hv=>spliced_nil ?_) rfl)
   rw[ej]at hv;obtain⟨a,rfl,ha,q⟩:=a3g H.rel hv hl;refine c0a H.rel.sub q _ fun v s' r x sb q2=>?_;exact kk v (.dat d) _ s' g (a2q H.rel x sb ha q2) r hw
  ·exact hw.elim
 ·exact hw.elim
end
end
section
noncomputable def wr(sc:SI)(env:Env):List Addr:=env.locals::sc.own.filterMap fun x=>env.cells.lookup x
section
variable {C:Cfg} {Γ:Ctx} {sc:SI} {n:Nat} {hz:Bool} {k:Ck}
theorem c4u{g h:Heap}{al:List Addr}{st:St}(R:Rel C sc env g h al st){b:Addr}(hb:b∈al++C.TA):∃o,h.get? b=some o:=by
 rcases List.mem_append.mp hb with h1|h1
 ·exact R.alh b h1
 ·obtain⟨_,o,ho,_⟩:=R.tabs b h1; exact⟨o,ho⟩
theorem a1a{g g':Heap}{s s':e1m}{al:List Addr}{st st':St}(x:Aft C sc env al g s st g' s' st'){b:Addr}(hb:s'.heap.get? b=none):s.heap.get? b=none:=by
 cases e:s.heap.get? b with
 |none=>rfl
 |some o=>
  by_cases hm:b∈al++C.TA
  ·obtain⟨o',ho'⟩:=c4u x.rel hm; rw[ho']at hb; cases hb
  ·exact((x.step.keep b o hm e).none hb).elim
def SIt(C:Cfg)(Γ:Ctx)(sc:SI)(n:Nat)(hz:Bool)(target:Expr)(it:I)(x:Expr):Prop:=
 ∀(A:e1x) (env:Env) (g:Heap) (s:e1m) (al:List Addr) (st:St) (Eh:e1n→e1m→Prop) (Q:List e1l→St→Prop) (Q':e1n→e1m→Prop),Here C sc hz n A env g s al st→wpI Γ it st Q→
  (∀I ws IS ds st' s' g',Aft C sc env al g s st g' s' st'→IterOK C A target I ws ds IS→IS 0 g' s'.heap→(∀b∈ws,s.heap.get? b=none)→Q ds st'→Q' (.ref I) s')→
  e1p (model C.prog C.w) A (eval x env) (fun v s₁=>e1p (model C.prog C.w) A (pyIter v) Q' Eh s₁) Eh s
theorem c7f{e:E}{x:Expr}(ht:a0l target=true)(h:SE C Γ sc n hz e x):SIt C Γ sc n hz target (.over e) x:=fun A env g s al st Eh Q Q' H hw kk=>by
 refine h A env g s al st Eh _ _ H hw fun va ua st1 s1 g1 a1 i1 hw1=>?_;obtain⟨d,st2,g2,e2,⟨z2,hw2⟩,r2,x2,R2⟩:=a1.rel.keepV i1 (a2i hw1);have a2:Aft C sc env al g1 s1 st1 g2 s1 st2:=⟨e2,z2,R2,x2⟩
 split at hw2
 ·rename_i l hl
  refine d4y ht R2.sub r2 hl _ fun I ws IS s' i j f x=>?_;have sb:Sub g2 s'.heap:=x.low R2.sub;exact kk I ws IS l st2 s' g2 (a1.trans (a2.trans ⟨rfl,rfl,R2.step x sb,x.nil⟩)) i j (fun b hb=>a1a (a1.trans a2) (f b hb)) hw2
 ·exact hw2.elim
theorem a3x {s:e1m} {al:List Addr} {st:St} {id:String} {xs:List Expr} {p pos:Pos} (G:Good C k) (H:Here C sc hz n A env g s al st) (hd:(nm==("__debug__" : Str))=false) (hm:nm∈bnames) (hv:bootBuiltins nm=some (.type id))
 (hk:sc.names.lookup nm=some .globalImplicit) (hx:(xs.all a0j)=true) (hne:xs≠[])
 (h:e1p (model C.prog C.w) A (spliced (e2e pos (e1z xs env))) (fun vs s₁=>e1p (model C.prog C.w) A (call (.type id) vs) Q' Eh s₁) Eh s) :
  e1p (model C.prog C.w) A (eval (.Call (.Name nm p) xs [] pos) env) Q' Eh s:=
 e2b (a1s G H hk hd hm hv (b5u hx hne h))
theorem a7w{g g1:Heap}{s s1:e1m}{al:List Addr}{st st1:St}{Q:List e1l→St→Prop}(a1:Aft C sc env al g s st g1 s1 st1)(hq:Q ds st1)
 (kk:∀I ws IS ds st' s' g',Aft C sc env al g s st g' s' st'→IterOK C A target I ws ds IS→IS 0 g' s'.heap→(∀b∈ws,s.heap.get? b=none)→Q ds st'→Q' (.ref I) s')
 (I:Addr) (ws:List Addr) (IS:Nat→Heap→Heap→Prop) (s':e1m) (i:IterOK C A target I ws ds IS) (j:IS 0 g1 s'.heap) (f:∀b∈ws,s1.heap.get? b=none) (x:Step [] s1 g1 s' g1):Q' (.ref I) s':=by
 have sb:Sub g1 s'.heap:=x.low a1.rel.sub;exact kk I ws IS _ st1 s' g1 (a1.trans ⟨rfl,rfl,a1.rel.step x sb,x.nil⟩) i j (fun b hb=>a1a a1 (f b hb)) hq
theorem un1{x:Expr}(h:a0j x=true):([x].all a0j)=true:=by show(a0j x&&true)=true; rw[h]; rfl
theorem un2{x y:Expr}(h:a0j x=true)(h2:a0j y=true):([x,y].all a0j)=true:=by show(a0j x&&(a0j y&&true))=true; rw[h,h2]; rfl
theorem c2f {e:E} {x:Expr} {p pos:Pos} (G:Good C k) (hz1:hz=true) (ht:a0l target=true) (hk:sc.names.lookup ("range" : Str)=some .globalImplicit) (hx:a0j x=true) (h:SE C Γ sc n hz e x) :
  SIt C Γ sc n hz target (.range e) (.Call (.Name "range" p) [x] [] pos):=fun A env g s al st Eh Q Q' H hw kk=>by
 refine a3x G H (by decide) (by decide) rfl hk (un1 hx) (by simp) (spliced_more (h A env g s al st Eh _ _ H hw fun va ua st1 s1 g1 a1 i1 hw1=>spliced_nil ?_) (a0g hx))
 split at hw1
 ·rename_i m em
  obtain⟨⟨h0,h1⟩,hw1⟩:=hw1;obtain⟨t,rfl⟩:=RD.intE (a1.rel.dat? i1 em);exact c1s ((H.go a1).hh hz1) ht a1.rel.sub h1 Q' (a7w a1 hw1 kk) h0
 ·exact hw1.elim
theorem b9a {e f:E} {x y:Expr} {p pos:Pos} (G:Good C k) (hz1:hz=true) (ht:a0l target=true) (hk:sc.names.lookup ("range" : Str)=some .globalImplicit) (hx:a0j x=true) (hy:a0j y=true)
 (h:SE C Γ sc n hz e x) (h':SE C Γ sc n hz f y):SIt C Γ sc n hz target (.range2 e f) (.Call (.Name "range" p) [x,y] [] pos):=fun A env g s al st Eh Q Q' H hw kk=>by
 refine a3x G H (by decide) (by decide) rfl hk (un2 hx hy) (by simp) (spliced_more (h A env g s al st Eh _ _ H hw fun va ua st1 s1 g1 a1 i1 hw1=>
  spliced_more (h' A env g1 s1 al st1 Eh _ _ (H.go a1) hw1 fun vb ub st2 s2 g2 a2 i2 hw2=>spliced_nil ?_) (a0g hy)) (a0g hx))
 split at hw2
 ·rename_i m1 m2 e1 e2
  obtain⟨⟨h0,h1,h2,h3⟩,hw2⟩:=hw2;obtain⟨t,rfl⟩:=RD.intE (a2.rel.dat? (i1.mono a2.step.sub) e1);obtain⟨u,rfl⟩:=RD.intE (a2.rel.dat? i2 e2);exact c3o (((H.go a1).go a2).hh hz1) ht a2.rel.sub ⟨h0,h1⟩ ⟨h2,h3⟩ Q' (a7w (a1.trans a2) hw2 kk)
 ·exact hw2.elim
theorem c6r {e:E} {x:Expr} {x1:Nat} {tp p pos:Pos} (G:Good C k) (hk:sc.names.lookup ("enumerate" : Str)=some .globalImplicit) (hx:a0j x=true) (h:SE C Γ sc n hz e x) :
  SIt C Γ sc n hz (.Tuple elts x1 tp) (.enum e) (.Call (.Name "enumerate" p) [x] [] pos):=fun A env g s al st Eh Q Q' H hw kk=>by
 refine a3x G H (by decide) (by decide) rfl hk (un1 hx) (by simp) (spliced_more (h A env g s al st Eh _ _ H hw fun va ua st1 s1 g1 a1 i1 hw1=>spliced_nil ?_) (a0g hx))
 obtain⟨d,st2,g2,e2,⟨z2,hw2⟩,r2,x2,R2⟩:=a1.rel.keepV i1 (a2i hw1);have a2:Aft C sc env al g1 s1 st1 g2 s1 st2:=⟨e2,z2,R2,x2⟩
 split at hw2
 ·exact d0f R2.sub r2 Q' (a7w (a1.trans a2) hw2.2 kk)
 ·exact hw2.elim
theorem d2h {e f:E} {x y:Expr} {x1:Nat} {tp p pos:Pos} (G:Good C k) (hz1:hz=true) (hk:sc.names.lookup ("zip" : Str)=some .globalImplicit) (hx:a0j x=true) (hy:a0j y=true)
 (h:SE C Γ sc n hz e x) (h':SE C Γ sc n hz f y):SIt C Γ sc n hz (.Tuple elts x1 tp) (.zip e f) (.Call (.Name "zip" p) [x,y] [] pos):=fun A env g s al st Eh Q Q' H hw kk=>by
 refine a3x G H (by decide) (by decide) rfl hk (un2 hx hy) (by simp) (spliced_more (h A env g s al st Eh _ _ H hw fun va ua st1 s1 g1 a1 i1 hw1=>?_) (a0g hx))
 obtain⟨d,st2,g2,e2,⟨z2,hw2⟩,r2,x2,R2⟩:=a1.rel.keepV i1 (a2i hw1);have a2:Aft C sc env al g1 s1 st1 g2 s1 st2:=⟨e2,z2,R2,x2⟩;refine spliced_more (h' A env g2 s1 al st2 Eh _ _ ((H.go a1).go a2) hw2 fun vb ub st3 s3 g3 a3 i3 hw3=>spliced_nil ?_) (a0g hy);obtain⟨d4,st4,g4,e4,⟨z4,hw4⟩,r4,x4,R4⟩:=a3.rel.keepV i3 (a2i hw3);have a4:Aft C sc env al g3 s3 st3 g4 s3 st4:=⟨e4,z4,R4,x4⟩
 split at hw4
 ·exact d3y (((((H.go a1).go a2).go a3).go a4).hh hz1) R4.sub ((r2.mono a3.step.sub).mono a4.step.sub) r4 Q' (a7w (a1.trans (a2.trans (a3.trans a4))) hw4 kk)
 ·exact hw4.elim
theorem d2f {e:E} {x:Expr} {p pos:Pos} (G:Good C k) (hz1:hz=true) (ht:a0l target=true) (hk:sc.names.lookup ("reversed" : Str)=some .globalImplicit) (hx:a0j x=true) (h:SE C Γ sc n hz e x) :
  SIt C Γ sc n hz target (.rev e) (.Call (.Name "reversed" p) [x] [] pos):=fun A env g s al st Eh Q Q' H hw kk=>by
 refine a3x G H (by decide) (by decide) rfl hk (un1 hx) (by simp) (spliced_more (h A env g s al st Eh _ _ H hw fun va ua st1 s1 g1 a1 i1 hw1=>spliced_nil ?_) (a0g hx))
 obtain⟨d,st2,g2,e2,⟨z2,hw2⟩,r2,x2,R2⟩:=a1.rel.keepV i1 (a2i hw1);have a2:Aft C sc env al g1 s1 st1 g2 s1 st2:=⟨e2,z2,R2,x2⟩
 split at hw2
 ·exact d4s (((H.go a1).go a2).hh hz1) ht R2.sub r2 Q' (a7w (a1.trans a2) hw2 kk)
 ·exact hw2.elim
end
end
section
section
variable {C:Cfg} {Γ:Ctx} {sc:SI} {n:Nat} {hz:Bool} {k:Ck}
noncomputable def a8t(sc:SI)(x:Str)(i:Nat):Bool:=
 sc.ids.lookup x==some i&&(sc.names.lookup x==some .local||(sc.names.lookup x==some .cell&&sc.own.contains x))
theorem b0x(h:a8t sc x i=true):sc.ids.lookup x=some i:=by
 simp only[a8t,Bool.and_eq_true,beq_iff_eq]at h; exact h.1
theorem a8r(h:a8t sc x i=true):sc.names.lookup x=some .local∨(sc.names.lookup x=some .cell∧x∈sc.own):=by
 simp only[a8t,Bool.and_eq_true,beq_iff_eq,Bool.or_eq_true,List.contains_eq_mem,decide_eq_true_eq]at h; exact h.2
theorem b4k{b:Addr}(h:a8t sc x i=true)(hb:b=env.locals∨(sc.names.lookup x=some .cell∧env.cells.lookup x=some b)):b∈wr sc env:=by
 rcases hb with rfl|⟨h1,h2⟩
 ·exact .head _
 ·rcases a8r h with h3|⟨_,h3⟩
  ·rw[h1]at h3; cases h3
  ·exact List.mem_cons_of_mem _ (List.mem_filterMap.mpr ⟨x,h3,h2⟩)
theorem a2g{b:Addr}(h:b∈wr sc env):b∈a4o env:=by
 rcases List.mem_cons.mp h with rfl|h
 ·exact .head _
 ·obtain⟨x,_,hx⟩:=List.mem_filterMap.mp h
  exact List.mem_cons_of_mem _ (List.mem_map.mpr ⟨_,e1r hx,rfl⟩)
theorem a4k{s:e1m}{al:List Addr}{st:St}{u:V}{Q:Unit→e1m→Prop}(so:SIOK sc)(H:Here C sc hz n A env g s al st)(hx:a8t sc x i=true)(hv:InV C g al v u)
 (h:∀s',Step (wr sc env) s g s' g→Here C sc hz n A env g s' al (st.set i u)→Q () s'):e1p (model C.prog C.w) A (storeName env x v) Q Eh s:=by
 refine a9k so H.eok H.rel (b0x hx) ((a8r hx).imp id fun h=>h.1) hv fun s' b hb x' R _ _=>?_;exact h s' (x'.mono fun c hc=>by simp at hc; subst hc; exact b4k hx hb) ⟨H.ok,H.hz,H.eok,R,H.fr.step x' fun c hc=>.inl (by simp at hc; subst hc; exact a2g (b4k hx hb))⟩
noncomputable def d8r(st:St)(l:List (Nat×e1l)):St:=l.foldl (fun st p=>st.set p.1 (.dat p.2)) st
noncomputable def a7l(sc:SI):List Nat→List Expr→Bool
 |[],[]=>true
 |i::is,x::xs=>isK 23 x&&(a8t sc (xN x) i&&a7l sc is xs)
 |_,_=>false
theorem b5v(so:SIOK sc){al:List Addr}(is:List Nat):∀{xs:List Expr} {vs:List e1n} {ds:List e1l} {g:Heap} {s:e1m} {st:St} {Q:Unit→e1m→Prop},
  a7l sc is xs=true→Here C sc hz n A env g s al st→RDs g vs ds→is.length=ds.length→
  (∀s',Step (wr sc env) s g s' g→Here C sc hz n A env g s' al (d8r st (is.zip ds))→Q () s')→e1p (model C.prog C.w) A (assignInOrder ((assignEach xs env).map (·.2)) vs) Q Eh s:=by
 induction is with
 |nil=>
  intro xs vs ds g s st Q hc H r hl h;cases xs with
  |nil=>
   cases ds with
   |nil=>exact assignInOrder_nil (h s .refl H)
   |cons _ _=>cases hl
  |cons x r=>cases hc
 |cons i is ih=>
  intro xs vs ds g s st Q hc H r hl h;cases xs with
  |nil=>cases hc
  |cons x xs=>
   obtain⟨x,p,rfl⟩:=c0l (a0b hc);have hc:=a0a hc;cases ds with
   |nil=>cases hl
   |cons d ds=>
    have hlen:=r.length;cases vs with
    |nil=>cases hlen
    |cons v vs=>
     obtain⟨d',r',e,r1,r2⟩:=r.cases;cases e;show e1p _ _ (assignInOrder (assign (.Name x p) env::(assignEach xs env).map (·.2)) (v::vs)) Q Eh s;refine assignInOrder_cons (wpAny_assign_Name (a4k (u:=.dat d) so H (a0b hc) r1 fun s' x' H'=>?_));refine ih (a0a hc) H' r2 (by simpa using hl) fun s2 x2 H2=>h s2 (x'.tr x2) H2
noncomputable def ckT(sc:SI):T→Expr→Bool
 |.one i,x=>isK 23 x&&a8t sc (xN x) i
 |.tup is,x=>isK 25 x&&a7l sc is (xs x)
theorem a9f{α:Type}{a:α}{l:List (Bool×α)}(h:l.findIdx? (·.1)=none):((false,a)::l).findIdx? (·.1)=none:=by
 rw[List.findIdx?_cons,h]; rfl
theorem a8w{is:List Nat}{xs:List Expr}(env:Env)(h:a7l sc is xs=true):(assignEach xs env).length=is.length∧(assignEach xs env).findIdx? (·.1)=none:=by
 induction is generalizing xs with
 |nil=>cases xs with
  |nil=>exact⟨rfl,rfl⟩
  |cons x r=>cases h
 |cons i is ih=>cases xs with
  |nil=>cases h
  |cons x r=>
   obtain⟨y,p,rfl⟩:=c0l (a0b h);obtain⟨h1,h2⟩:=ih (a0a (a0a h));exact⟨congrArg (· + 1) h1,a9f h2⟩
theorem a9h{s:e1m}{al:List Addr}{st:St}{t:T}{x:Expr}{K:St→Prop}{Q:Unit→e1m→Prop}(so:SIOK sc)(H:Here C sc hz n A env g s al st)(hx:ckT sc t x=true)
 (hv:RD g v d) (hb:bindT t d st K) (h:∀s' st',st'.hz=st.hz→Step (wr sc env) s g s' g→Here C sc hz n A env g s' al st'→K st'→Q () s'):e1p (model C.prog C.w) A (assign x env v) Q Eh s:=by
 cases t with
 |one i=>
  have h2:=a0a hx;obtain⟨y,p,rfl⟩:=c0l (a0b hx);have hb:K (st.set i (.dat d)):=hb;exact wpAny_assign_Name (a4k (u:=.dat d) so H h2 hv fun s' x' H'=>h s' _ (by rfl) x' H' hb)
 |tup is=>
  ·have h2:=a0a hx
   obtain⟨xs,k1,p,rfl⟩:=d7a (a0b hx);have hx:a7l sc is xs=true:=h2;obtain⟨l1,l2⟩:=a8w env hx;have key:∀ds:List e1l,seqD d=some ds→is.length=ds.length→K ((is.zip ds).foldl (fun st p=>st.set p.1 (.dat p.2)) st)→e1p (model C.prog C.w) A (assign (.Tuple xs k1 p) env v) Q Eh s:=fun ds hs hl hk=>by
    rw[arm_assign_Tuple];refine e1k (e1y ?_);unfold unpack;rw[l1,l2,hl];refine e1k (e1s (a5v H.ok.handled H.rel.sub (.of H.rel.sub hv) hs fun vs h' sb r=>?_));have x1:Step [] s g { s with heap:=h' } g:=Step.ext (tk:=s.toks) sb
    have a1:=H.stay { s with heap:=h' } x1 (H.rel.sub.trans sb)
    refine b5v so is hx (H.go a1) r hl fun s2 x2 H2=>h s2 _ ?_ ((x1.nil).tr x2) H2 hk
    have:∀(l:List (Nat×e1l)) (st:St),(l.foldl (fun st p=>st.set p.1 (.dat p.2)) st).hz=st.hz:=by
     intro l; induction l with
     |nil=>intro st; rfl
     |cons p r ih=>intro st; exact(ih _).trans rfl
    exact this _ _
   cases d with
   |tuple ds=>exact key ds rfl hb.1 hb.2
   |list ds=>exact key ds rfl hb.1 hb.2
   |_=>exact hb.elim
end
end
section
section
variable {C:Cfg} {Γ:Ctx} {sc:SI} {n:Nat} {hz:Bool} {k:Ck}
theorem BRel.move{g g':Heap}{s s':e1m}{al:List Addr}{ow:List OV}(B:BRel C g s.heap al ow)(x:Step W s g s' g')(sb:Sub g' s'.heap)(hW:∀b∈W,b∉al∧b∉C.TA):BRel C g' s'.heap al ow where
 sub:=sb
 amb:=B.amb.mono x.sub
 nd:=x.nd B.nd
 tabs:=fun P hP=>by
  obtain⟨h1,o,ho,hc,r⟩:=B.tabs P hP;have hm:P∉W:=fun hm=>(hW P hm).2 hP;exact⟨x.fresh P o hm ho h1,o,(x.keep P o hm ho).exact hc,hc,C.tabMono _ _ _ _ x.sub r⟩
 olen:=B.olen
 own:=fun j o e=>by
  obtain⟨a,ha,q⟩:=B.own j o e;have hm:a∉W:=fun hm=>(hW a hm).1 (List.mem_of_getElem? ha);obtain⟨ob,hob⟩:=q.alive B.sub;exact⟨a,ha,q.keep x.sub (fun ob=>x.keep a ob hm) (x.fresh a ob hm hob)⟩
 alnd:=B.alnd
 ata:=B.ata
 base:=B.base
theorem Rel.move{g g':Heap}{s s':e1m}{al:List Addr}{st:St}(R:Rel C sc env g s.heap al st)(x:Step W s g s' g')(sb:Sub g' s'.heap)(hW:∀b∈W,b∉al∧b∉C.TA∧b∉a4o env):Rel C sc env g' s'.heap al st:=by
 have B:=R.b.move x sb fun b hb=>⟨(hW b hb).1,(hW b hb).2.1⟩;have kp:∀b∈a4o env,b∉W:=fun b hb hm=>(hW b hm).2.2 hb;have cm:∀{y:Str} {c:Addr},env.cells.lookup y=some c→c∈a4o env:=fun hy=>List.mem_cons_of_mem _ (List.mem_map.mpr ⟨_,e1r hy,rfl⟩);exact{
  sub:=sb,amb:=B.amb,nd:=B.nd,tabs:=B.tabs
  ns:=R.ns.imp fun m hm=>KeptIn.ns hm fun o e=>x.keep _ o (kp _ (.head _)) e
  cell:=fun y hy=>by
   obtain⟨c,v,hc,hcell⟩:=R.cell y hy;exact⟨c,v,hc,KeptIn.cell hcell fun o ho=>x.keep c o (kp c (cm hc)) ho⟩
  vars:=fun y i hi=>by
   rcases R.vars y i hi with h0|⟨v,hl,hv⟩
   ·exact .inl h0
   ·exact .inr ⟨v,hl.mono (fun o e=>x.keep _ o (kp _ (.head _)) e) (fun c o hc e=>x.keep c o (kp c (cm hc)) e),hv.mono x.sub⟩
  olen:=B.olen,own:=B.own,alnd:=B.alnd,pnd:=R.pnd
  pgl:=by
   obtain⟨o,ho⟩:=R.plt _ (.head _);exact x.fresh _ o (kp _ (.head _)) ho R.pgl
  pgc:=fun y c hk hc=>by
   obtain⟨o,ho⟩:=R.plt c (cm hc);exact x.fresh c o (kp c (cm hc)) ho (R.pgc y c hk hc)
  plt:=fun b hb=>(R.plt b hb).elim fun o ho=>(x.keep b o (kp b hb) ho).alive
  pal:=R.pal,pta:=R.pta,ata:=R.ata,base:=R.base }
theorem a2t{g g':Heap}{s s':e1m}{D:Addr}{o:OV}(q:OwnOK g s.heap D o)(sb:Sub g s.heap)(x:Step W s g s' g')(hD:D∉W):OwnOK g' s'.heap D o:=by
 obtain⟨ob,hob⟩:=q.alive sb;exact q.keep x.sub (fun ob=>x.keep D ob hD) (x.fresh D ob hD hob)
theorem c4p{g h:Heap}{D:Addr}{l:List e1l}(q:OwnOK g h D (.lst l))(ho:h.get? D=some o):b9t o:=by
 obtain⟨_,vs,⟨m,hp⟩,_⟩:=q;rw[hp]at ho; cases ho;intro es ep h; cases h
structure DSep(C:Cfg)(env:Env)(al:List Addr)(D:Addr):Prop where
 al:D∉al
 ta:D∉C.TA
 pr:D∉a4o env
structure GAft(C:Cfg)(sc:SI)(hz:Bool)(n:Nat)(A:e1x)(env:Env)(al:List Addr)(D:Addr)(g:Heap)(s:e1m)(st:St)(g':Heap)(s':e1m)(st':St)(acc:List e1l):Prop where
 sthz:st'.hz=st.hz
 here:Here C sc hz n A env g' s' al st'
 step:Step (D::(wr sc env++(al++C.TA))) s g s' g'
 dok:OwnOK g' s'.heap D (.lst acc)
theorem GAft.of{g g':Heap}{s s':e1m}{al:List Addr}{st st':St}{D:Addr}(H:Here C sc hz n A env g s al st)(d:DSep C env al D)(q:OwnOK g s.heap D (.lst acc))(a:Aft C sc env al g s st g' s' st') :
  GAft C sc hz n A env al D g s st g' s' st' acc:=
 ⟨a.hz,H.go a,a.step.mono fun b hb=>List.mem_cons_of_mem _ (List.mem_append_right _ hb),a2t q H.rel.sub a.step fun hm=>(List.mem_append.mp hm).elim d.al d.ta⟩
theorem GAft.trans{g g' g'':Heap}{s s' s'':e1m}{al:List Addr}{st st' st'':St}{D:Addr}{acc acc':List e1l}(x:GAft C sc hz n A env al D g s st g' s' st' acc)(y:GAft C sc hz n A env al D g' s' st' g'' s'' st'' acc') :
  GAft C sc hz n A env al D g s st g'' s'' st'' acc':=⟨y.sthz.trans x.sthz,y.here,x.step.tr y.step,y.dok⟩
def d9x(C:Cfg)(A:e1x)(E:e1n→e1m→Prop)(elt:Expr)(gens:List e1u)(scope:Scope)(pos:Pos)(nxt:Option Expr)(d:Nat)(env:Env)(D:Addr)(Q:e1m→Prop)(s:e1m):Prop:=match nxt with
 |none=>e1p (model C.prog C.w) A (eval elt env) (fun x s₁=>e1p (model C.prog C.w) A (call (.builtin "list.append") [.ref D,x]) (fun _ s₂=>Q s₂) E s₁) E s
 |some it=>e1p (model C.prog C.w) A (eval it env) (fun x s₁=>e1p (model C.prog C.w) A (pyIter x) (fun i s₂=>codeAny (model C.prog C.w) A (.compStart (.ListComp elt gens scope pos) d i (.ref D) env) (fun r s'=>match r with
  |.ok _=>Q s'
  |.error x=>cameBackBy (model C.prog C.w) A env E x s') s₂) E s₁) E s
def c7g(C:Cfg)(Γ:Ctx)(sc:SI)(n:Nat)(hz:Bool)(gg:G)(elt:Expr)(gens:List e1u)(scope:Scope)(pos:Pos)(nxt:Option Expr)(dd:Nat):Prop:=
 ∀(A:e1x) (env:Env) (g:Heap) (s:e1m) (al:List Addr) (st:St) (Eh:e1n→e1m→Prop) (D:Addr) (acc:List e1l) (K:List e1l→St→Prop) (Q:e1m→Prop),Here C sc hz n A env g s al st→DSep C env al D→OwnOK g s.heap D (.lst acc)→
  wpG Γ gg st acc K→(∀s' g' st' acc',GAft C sc hz n A env al D g s st g' s' st' acc'→K acc' st'→Q s')→d9x C A Eh elt gens scope pos nxt dd env D Q s
theorem d3c{e:E}{x:Expr}{pos:Pos}{dd:Nat}(h:SE C Γ sc n hz e x):c7g C Γ sc n hz (.elt e) x gens scope pos none dd:=fun A env g s al st Eh D acc K Q H d q hw kk=>by
 refine h A env g s al st Eh _ _ H hw fun v u st1 s1 g1 a1 i1 hw1=>?_;obtain⟨dd,st2,g2,e2,⟨z2,hw2⟩,r2,x2,R2⟩:=a1.rel.keepV i1 (a2i hw1);have a2:Aft C sc env al g1 s1 st1 g2 s1 st2:=⟨e2,z2,R2,x2⟩;have b2:=GAft.of H d q (a1.trans a2);refine a7d R2.sub b2.dok r2 hw2.1 _ fun s3 x3 sb q3=>?_;refine kk s3 g2 st2 _ (b2.trans ⟨rfl,⟨b2.here.ok,b2.here.hz,b2.here.eok,R2.move x3 sb fun b hb=>by simp at hb; subst hb; exact⟨d.al,d.ta,d.pr⟩,b2.here.fr.step x3 fun b hb=>.inr (.inr (.inr fun o ho=>by simp at hb; subst hb; exact c4p b2.dok ho))⟩,x3.mono fun b hb=>by simp at hb; subst hb; exact .head _,q3⟩) hw2.2
def d2n(C:Cfg)(sc:SI)(n:Nat)(hz:Bool)(tw:St→(Bool→St→Prop)→Prop)(ifs:List Expr):Prop:=
 ∀(A:e1x) (env:Env) (g:Heap) (s:e1m) (al:List Addr) (st:St) (Eh:e1n→e1m→Prop) (Q:Bool→St→Prop) (Q':Bool→e1m→Prop),Here C sc hz n A env g s al st→tw st Q→
  (∀b st' s' g',Aft C sc env al g s st g' s' st'→Q b st'→Q' b s')→
  e1p (model C.prog C.w) A (forIn ifs true fun c r=>if r=true then do let ok ←PySem.isTrue c env (eval c env); pure (ForInStep.yield ok)else pure (ForInStep.yield r)) Q' Eh s
theorem a8b:d2n C sc n hz (fun st Q=>Q true st) []:=fun A env g s al st Eh Q Q' H hw kk=>wpAny_tests_nil (kk _ st s g (Aft.refl H.rel) hw)
theorem b1l{c:E}{x:Expr}(h:ST C Γ sc n hz c x):d2n C sc n hz (fun st Q=>wpT Γ c st Q) [x]:=fun A env g s al st Eh Q Q' H hw kk=>
 wpAny_tests_one (h A env g s al st Eh Q Q' H hw kk)
def b4m(gens:List e1u)(d:Nat)(nxt:Option Expr):Prop:=match nxt with
 |none=>gens[d]?=none
 |some i2=>∃t2 f2,gens[d]?=some ⟨t2,i2,f2,0⟩∧∀env x,foldedSetIterable i2 env x=pure x
def b7g(C:Cfg)(A:e1x)(E:e1n→e1m→Prop)(target:Expr)(it:e1n)(P:e1m→Prop)(T:e1n→e1m→Prop):Option e1n→e1m→Prop
 |none,s₁=>P s₁
 |some v,s₁=>e1p (model C.prog C.w) A (letOwnedTupleGo target it v) (fun _ s₂=>T v s₂) E s₁
theorem c1p{E:e1n→e1m→Prop}{s:e1m}{elt target iter:Expr}{pos:Pos}{D:Addr}{d:Nat}{Q:Fin→e1m→Prop}(P:e1m→Prop)(T:e1n→e1m→Prop)(hg:gens[d]?=some ⟨target,iter,ifs,0⟩)
 (hn:b4m gens (d+1) nxt)
 (h:e1p (model C.prog C.w) A (pyNext it) (b7g C A E target it P T) E s) (hP:∀s₁,P s₁→Q (.done .next) s₁)
 (hT:∀v s₂,T v s₂→e1p (model C.prog C.w) A (assign target env v) (fun _ s₃=>
 e1p (model C.prog C.w) A (forIn ifs true fun c r=>if r=true then do let ok ←PySem.isTrue c env (eval c env); pure (ForInStep.yield ok)else pure (ForInStep.yield r)) (fun ok s₄=>
 if ok=true then d9x C A E elt gens scope pos nxt (d+1) env D (fun s₅=>Q (.again (.compLoop (.ListComp elt gens scope pos) d it (.ref D) env)) s₅) s₄
 else Q (.again (.compLoop (.ListComp elt gens scope pos) d it (.ref D) env)) s₄) E s₃) E s₂) :
  e1p (model C.prog C.w) A (compTurn (.ListComp elt gens scope pos) d it (.ref D) env) Q E s:=by
 unfold compTurn;have h0:((0:Int) != 0)=false:=rfl;dsimp only;generalize gens[d]?=og at hg ⊢;subst hg;dsimp only;refine e1k (e1y (e1k (e1w h (fun r s₁ h₁=>?_) fun _ _ h'=>h')));cases r with
 |none=>exact e1o (hP _ h₁)
 |some v=>
  refine e1k (e1w h₁ (fun _ s₂ h₂=>e1k (e1w (hT _ _ h₂) (fun _ s₃ h₃=>e1k (e1w h₃ (fun ok s₄ h₄=>?_) fun _ _ h'=>h')) fun _ _ h'=>h')) fun _ _ h'=>h');cases ok with
  |false=>exact e1o h₄
  |true=>
   cases nxt with
   |none=>
    have hn:gens[d+1]?=none:=hn;simp only[hn,if_true];exact e1k (e1k (e1w h₄ (fun x s₅ h₅=>e1k (e1w h₅ (fun _ s₆ h₆=>e1o (e1o h₆)) fun _ _ h'=>h')) fun _ _ h'=>h'))
   |some i2=>
    obtain⟨t2,f2,hn,hf⟩:=hn;simp only[hn,if_true,h0,Bool.false_eq_true,if_false];refine e1k (e1w h₄ (fun x s₅ h₅=>e1k (e1y (e1k (e2c (hf env x) (e1k (e1s (e1w h₅ (fun i s₆ h₆=>?_) fun _ _ h'=>h'))))))) fun _ _ h'=>h');exact e1k (wpAny_runOwn (codeAny_mono h₆ fun r s' hr=>by
     cases r with
     |ok f=>exact e1o hr
     |error e=>exact hr))
end
end
section
section
variable {C:Cfg} {Γ:Ctx} {sc:SI} {n:Nat} {hz:Bool} {k:Ck}
theorem a3p{I:Addr}{ws W:List Addr}{IS:Nat→Heap→Heap→Prop}{g g':Heap}{s s':e1m}(hit:IterOK C A target I ws ds IS)(j:IS i g s.heap)(x:Step W s g s' g')(hW:∀b∈ws,b∉W):IS i g' s'.heap:=
 hit.frame i g _ g' _ j x.sub (fun b hb o e=>(x.keep b o (hW b hb) e).exact (by obtain⟨_,o',ho',hc⟩:=hit.here i g _ j b hb; rw[e]at ho'; cases ho'; exact hc)) fun b hb=>have h:=hit.here i g _ j b hb; h.2.elim fun o k=>x.fresh b o (hW b hb) k.1 h.1
theorem b0t{I:Addr}{ws:List Addr}{IS:Nat→Heap→Heap→Prop}{g h:Heap}{b:Addr}(hit:IterOK C A target I ws ds IS)(j:IS i g h)(hb:b∈ws)(ho:h.get? b=some o):b9t o:=by
 obtain⟨_,o',ho',hn⟩:=hit.here i g h j b hb;rw[ho]at ho'; cases ho';exact hn
theorem b1b{s:e1m}{elt target iter:Expr}{pos:Pos}{it acc:e1n}{d:Nat}(hg:gens[d]?=some ⟨target,iter,ifs,0⟩)
 (h0:codeAny (model C.prog C.w) A (.compLoop (.ListComp elt gens scope pos) d it acc env) R s)
 (h:e1p (model C.prog C.w) A (pyIter it) (fun it' s'=>codeAny (model C.prog C.w) A (.compLoop (.ListComp elt gens scope pos) d it' acc env) R s')
 (notedBy (model C.prog C.w) A env fun x s'=>R (.error x) s') s) :
  codeAny (model C.prog C.w) A (.compStart (.ListComp elt gens scope pos) d it acc env) R s:=by
 refine codeAny_of_tree ?_;show e1p _ _ ((compStart (.ListComp elt gens scope pos) d it acc env).onRaise (fun x=>do noteFrame x env; standAt theWindowsPlace)) _ _ s
 refine wpAny_notedAt ?_;unfold compStart;have h00:((0:Int) != 0)=false:=rfl;dsimp only[clausesOf];simp only[hg,Option.elim_some,h00,Bool.false_eq_true,if_false];show e1p _ _ (ask >>= _) _ _ s;refine e1k (wpAny_askSetting (wpAny_ite ?_));split
 ·first
   |exact e1k (e1o (e1o (And.intro rfl h0)))
   |exact e1o (And.intro rfl h0)
 ·first
   |exact e1k (wpAny_rule (e1k (e1y (e1k (e1w h (fun it' s' h'=>e1o (And.intro rfl h')) fun _ _ x=>x)))))
   |(refine e1k (wpAny_rule ?_); show e1p _ _ (standAt iter.pos >>= _) _ _ s; exact e1k (e1y (e1k (e1w h (fun it' s' h'=>e1o (And.intro rfl h')) fun _ _ x=>x))))
def b4p(Γ:Ctx)(t:T)(tw:St→(Bool→St→Prop)→Prop)(gg:G):e1l→St→List e1l→(List e1l→St→Prop)→Prop:=
 fun d st acc K=>bindT t d st fun st=>tw st fun b st=>if b=true then wpG Γ gg st acc K else K acc st
inductive LI(C:Cfg)(sc:SI)(hz:Bool)(n:Nat)(A:e1x)(env:Env)(N:Nat)(al W:List Addr)(D:Addr)(s:e1m)(g:Heap)(z:Bool)(IS:Nat→Heap→Heap→Prop)(P:Nat→St→List e1l→Prop)(m:Nat)(s':e1m):Prop
 |mk:∀g' st' acc' i,i+m=N→st'.hz=z→Here C sc hz n A env g' s' al st'→OwnOK g' s'.heap D (.lst acc')→IS i g' s'.heap→Step W s g s' g'→P i st' acc'→LI C sc hz n A env N al W D s g z IS P m s'
theorem c0w{t:T}{target iter elt:Expr}{pos:Pos}{d:Nat}{tw:St→(Bool→St→Prop)→Prop}{gg:G}(so:SIOK sc)(ht:ckT sc t target=true)(hg:gens[d]?=some ⟨target,iter,ifs,0⟩)
 (hn:b4m gens (d+1) nxt)
 (htst:d2n C sc n hz tw ifs) (hin:c7g C Γ sc n hz gg elt gens scope pos nxt (d+1))
 (A:e1x) (env:Env) (g:Heap) (s:e1m) (al:List Addr) (st:St) (D:Addr) (acc:List e1l) (I:Addr) (ws:List Addr) (IS:Nat→Heap→Heap→Prop) (ds:List e1l) (K:List e1l→St→Prop) (R:Result→e1m→Prop)
 (H:Here C sc hz n A env g s al st) (dp:DSep C env al D) (q:OwnOK g s.heap D (.lst acc)) (hit:IterOK C A target I ws ds IS) (his:IS 0 g s.heap) (hws:∀b∈ws,b∉al∧b∉C.TA∧b∉a4o env∧b≠D)
 (hw:a1n (b4p Γ t tw gg) ds st acc K)
 (kk:∀s' g' st' acc',st'.hz=st.hz→Here C sc hz n A env g' s' al st'→Step (ws++D::(wr sc env++(al++C.TA))) s g s' g'→OwnOK g' s'.heap D (.lst acc')→K acc' st'→R (.ok .next) s') :
  codeAny (model C.prog C.w) A (.compStart (.ListComp elt gens scope pos) d (.ref I) (.ref D) env) R s:=by
 have wsAT:∀b∈ws,b∉al++C.TA:=fun b hb hm=>(List.mem_append.mp hm).elim (hws b hb).1 (hws b hb).2.1;have wsWr:∀b∈ws,b∉wr sc env:=fun b hb hm=>(hws b hb).2.2.1 (a2g hm);have wsG:∀b∈ws,b∉D::(wr sc env++(al++C.TA)):=fun b hb hm=>by
  rcases List.mem_cons.mp hm with h|h
  ·exact(hws b hb).2.2.2 h
  ·exact(List.mem_append.mp h).elim (wsWr b hb) (wsAT b hb)
 have dws:D∉ws:=fun hm=>(hws D hm).2.2.2 rfl;have dwr:D∉wr sc env:=fun hm=>dp.pr (a2g hm);have dat:D∉al++C.TA:=fun hm=>(List.mem_append.mp hm).elim dp.al dp.ta;have i1:∀b∈ws,b∈ws++D::(wr sc env++(al++C.TA)):=fun b hb=>List.mem_append_left _ hb;have i2:∀b∈D::(wr sc env++(al++C.TA)),b∈ws++D::(wr sc env++(al++C.TA)):=fun b hb=>List.mem_append_right _ hb;have i3:∀b∈wr sc env,b∈ws++D::(wr sc env++(al++C.TA)):=fun b hb=>i2 b (List.mem_cons_of_mem _ (List.mem_append_left _ hb));have i4:∀b∈al++C.TA,b∈ws++D::(wr sc env++(al++C.TA)):=fun b hb=>i2 b (List.mem_cons_of_mem _ (List.mem_append_right _ hb));have loop:codeAny (model C.prog C.w) A (.compLoop (.ListComp elt gens scope pos) d (.ref I) (.ref D) env) R s:=by
  refine codeAny_loop rfl (LI C sc hz n A env ds.length al (ws++D::(wr sc env++(al++C.TA))) D s g st.hz IS fun i st' acc'=>a1n (b4p Γ t tw gg) (ds.drop i) st' acc' K)
   (fun m s1 hI=>?_) ds.length ⟨g,st,acc,0,by exact a3f (.e (.p (.k 0) N0) N0),rfl,H,q,his,.refl,hw⟩
  obtain⟨g1,st1,acc1,i,hi,z1,H1,q1,is1,x1,hw1⟩:=hI;show e1p _ A ((compTurn (.ListComp elt gens scope pos) d (.ref I) (.ref D) env).onRaise (fun x=>do noteFrame x env; theTreesLotGoes x)) _ _ s1
  refine wpAny_noted ?_
  by_cases hlt:i<ds.length
  ·have e0:ds[i]?=some ds[i]:=List.getElem?_eq_getElem hlt
   rw[List.drop_eq_getElem_cons hlt]at hw1;have hw1:bindT t ds[i] st1 fun st=>tw st fun b st=>if b=true then wpG Γ gg st acc1 (fun acc st=>a1n (b4p Γ t tw gg) (ds.drop (i+1)) st acc K)else a1n (b4p Γ t tw gg) (ds.drop (i+1)) st acc1 K:=hw1
   refine c1p (fun _=>False) (fun v s2=>∃g2,Step ws s1 g1 s2 g2∧Sub g2 s2.heap∧RD g2 v ds[i]∧IS (i+1) g2 s2.heap) hg hn ?_ (fun _ f=>f.elim) fun v s2 h2=>?_
   ·refine e1w (hit.item i ds[i] s1 g1 (fun v s2=>∃g2,Step ws s1 g1 s2 g2∧Sub g2 s2.heap∧RD g2 v ds[i]∧IS (i+1) g2 s2.heap) _ e0 H1.rel.sub is1 fun v s2 g2 x2 sb2 r2 is2=>⟨g2,x2,sb2,r2,is2⟩) (fun r s2 h2=>?_) fun _ _ e=>e
    cases r with
    |none=>exact h2.elim
    |some v=>exact h2
   obtain⟨g2,x2,sb2,r2,is2⟩:=h2;have H2:Here C sc hz n A env g2 s2 al st1:=⟨H1.ok.mono x2.sub,H1.hz,H1.eok,H1.rel.move x2 sb2 fun b hb=>⟨(hws b hb).1,(hws b hb).2.1,(hws b hb).2.2.1⟩,H1.fr.step x2 fun b hb=>.inr (.inr (.inr fun o ho=>b0t hit is1 hb ho))⟩;have q2:=a2t q1 H1.rel.sub x2 dws;refine a9h so H2 ht r2 hw1 fun s3 st3 z3 x3 H3 hw3=>?_;have q3:=a2t q2 H2.rel.sub x3 dwr;have is3:=a3p hit is2 x3 wsWr;refine htst A env g2 s3 al st3 _ _ _ H3 hw3 fun b st4 s4 g4 a4 hw4=>?_;have H4:=H3.go a4;have q4:=a2t q3 H3.rel.sub a4.step dat;have is4:=a3p hit is3 a4.step wsAT;have x4:=(((x1.tr (x2.mono i1)).tr (x3.mono i3)).tr (a4.step.mono i4));cases b with
   |false=>exact⟨rfl,m-1,by exact a2a (.t (.s N0 O1) N0) (.e (.p N1 N0) N2) (.t N1 N2) hi hlt,.mk g4 st4 acc1 (i+1) (by exact a2a (.e (.p (.p N0 O1) (.s N1 O1)) N2) (.e (.p N0 N1) N2) (.t N0 N2) hi hlt) (a4.hz.trans (z3.trans z1)) H4 q4 is4 x4 hw4⟩
   |true=>
    refine hin A env g4 s4 al st4 _ D acc1 _ _ H4 dp q4 hw4 fun s5 g5 st5 acc5 a5 hw5=>?_;exact⟨rfl,m-1,by exact a2a (.t (.s N0 O1) N0) (.e (.p N1 N0) N2) (.t N1 N2) hi hlt,.mk g5 st5 acc5 (i+1) (by exact a2a (.e (.p (.p N0 O1) (.s N1 O1)) N2) (.e (.p N0 N1) N2) (.t N0 N2) hi hlt) (a5.sthz.trans (a4.hz.trans (z3.trans z1))) a5.here a5.dok (a3p hit is4 a5.step wsG) (x4.tr (a5.step.mono i2)) hw5⟩
  ·have ei:i=ds.length:=by exact a2a (.e N0 N1) (.e (.p N0 N2) N1) (.n (.t N0 N1)) hi hlt
   subst ei;rw[List.drop_length]at hw1;refine c1p (fun s2=>Step ws s1 g1 s2 g1∧Sub g1 s2.heap) (fun _ _=>False) hg hn ?_ (fun s2 h2=>?_) (fun _ _ f=>f.elim)
   ·refine e1w (hit.done s1 g1 (fun s2=>Step ws s1 g1 s2 g1∧Sub g1 s2.heap) _ H1.rel.sub H1.ok.handled is1 fun s2 x2 sb2=>⟨x2,sb2⟩) (fun r s2 h2=>?_) fun _ _ e=>e
    cases r with
    |none=>exact h2
    |some v=>exact h2.elim
   obtain⟨x2,sb2⟩:=h2;have H2:Here C sc hz n A env g1 s2 al st1:=⟨H1.ok,H1.hz,H1.eok,H1.rel.move x2 sb2 fun b hb=>⟨(hws b hb).1,(hws b hb).2.1,(hws b hb).2.2.1⟩,H1.fr.step x2 fun b hb=>.inr (.inr (.inr fun o ho=>b0t hit is1 hb ho))⟩;exact kk s2 g1 st1 acc1 z1 H2 (x1.tr (x2.mono i1)) (a2t q1 H1.rel.sub x2 dws) hw1
 exact b1b hg loop (hit.self 0 _ _ _ _ his loop)
theorem d4m{t:T}{target iter elt:Expr}{pos:Pos}{d:Nat}{tw:St→(Bool→St→Prop)→Prop}{gg gall:G}{it:I}(so:SIOK sc)(ht:ckT sc t target=true)(hg:gens[d+1]?=some ⟨target,iter,ifs,0⟩)
 (hn:b4m gens (d+1+1) nxt)
 (htst:d2n C sc n hz tw ifs) (hin:c7g C Γ sc n hz gg elt gens scope pos nxt (d+1+1)) (hI:SIt C Γ sc n hz target it iter)
 (hall:∀st acc K,wpG Γ gall st acc K→wpI Γ it st fun ds st=>a1n (b4p Γ t tw gg) ds st acc K) :
  c7g C Γ sc n hz gall elt gens scope pos (some iter) (d+1):=fun A env g s al st Eh D acc K Q H dp q hw kk=>by
 refine hI A env g s al st Eh _ _ H (hall _ _ _ hw) fun I ws IS ds st1 s1 g1 a1 hit his hf hw1=>?_;have b1:=GAft.of H dp q a1;have hws:∀b∈ws,b∉al∧b∉C.TA∧b∉a4o env∧b≠D:=fun b hb=>by
  have hb':=hf b hb;refine⟨fun hm=>?_,fun hm=>?_,fun hm=>?_,fun hm=>?_⟩
  ·obtain⟨o,ho⟩:=H.rel.alh b hm; rw[ho]at hb'; cases hb'
  ·obtain⟨_,o,ho,_⟩:=H.rel.tabs b hm; rw[ho]at hb'; cases hb'
  ·obtain⟨o,ho⟩:=H.rel.plt b hm; rw[ho]at hb'; cases hb'
  ·subst hm; obtain⟨o,ho⟩:=q.alive H.rel.sub; rw[ho]at hb'; cases hb'
 refine c0w so ht hg hn htst hin A env g1 s1 al st1 D acc I ws IS ds K _ b1.here dp b1.dok hit his hws hw1 fun s2 g2 st2 acc2 z2 H2 x2 q2 hk=>?_;refine kk s2 g2 st2 acc2 ⟨z2.trans a1.hz,H2,?_,q2⟩ hk;refine b1.step.trans x2 fun b hb=>?_
 rcases List.mem_append.mp hb with h|h
 ·exact .inr (hf b h)
 ·exact .inl h
end
end
section
noncomputable def a2d(scope:Scope)(sc:SI):List (Str×NameKind):=scope.names.map fun(n,k)=>if (k==NameKind.free&&sc.names.lookup n==some NameKind.cell)then(n,NameKind.cell)else(n,k)
noncomputable def a1p(scope:Scope)(sc:SI)(tids:List (Str×Nat)):SI where
 names:=a2d scope sc
 ids:=tids++sc.ids.filter fun p=>scope.names.lookup p.1==some .free
 own:=(tids.map (·.1)).filter fun x=>scope.names.lookup x==some .cell
structure CompOK(scope:Scope)(sc:SI)(tids:List (Str×Nat))(is:List Nat):Prop where
 kind:scope.kind=.function
 nodup:(scope.names.map (·.1)).Nodup
 free:∀p∈scope.names,p.2=.free→sc.names.lookup p.1=some .cell∨sc.names.lookup p.1=some .free
 nd:((a1p scope sc tids).ids.map (·.2)).Nodup
 tid:∀p∈tids,scope.names.lookup p.1=some .local∨scope.names.lookup p.1=some .cell
 ids:tids.map (·.2)=is
theorem a0q{α:Type}{l:List (Str×α)}(hn:(l.map (·.1)).Nodup){a:α}(h:(x,a)∈l):l.lookup x=some a:=by
 induction l with
 |nil=>cases h
 |cons p r ih=>
  obtain⟨y,b⟩:=p;rw[List.map_cons,List.nodup_cons]at hn
  by_cases hxy:x=y
  ·subst hxy
   rcases List.mem_cons.mp h with e|e
   ·cases e; simp
   ·exact absurd (List.mem_map.mpr ⟨_,e,rfl⟩) hn.1
  ·have hb:(x==y)=false:=beq_false_of_ne hxy
   rw[List.lookup_cons,hb]
   rcases List.mem_cons.mp h with e|e
   ·cases e; exact absurd rfl hxy
   ·exact ih hn.2 e
theorem a2x{α:Type}{l:List (Str×α)}(h:x∉l.map (·.1)):l.lookup x=none:=by
 cases e:l.lookup x with
 |none=>rfl
 |some a=>exact absurd (List.mem_map.mpr ⟨_,e1r e,rfl⟩) h
theorem a3n{α:Type}(P:Str→Bool):∀(l:List (Str×α)) (x:Str),(l.filter fun p=>P p.1).lookup x=if P x then l.lookup x else none
 |[]=>fun x=>by simp
 |(y,b)::r=>fun x=>by
  by_cases hxy:x=y
  ·subst hxy
   cases hp:P x <;> simp[List.filter_cons,hp,a3n P r]
  ·have hb:(x==y)=false:=beq_false_of_ne hxy
   cases hp:P y <;> simp[List.filter_cons,hp,a3n P r,List.lookup_cons,hb]
theorem a2v{α:Type}:∀(l m:List (Str×α)) (x:Str),(l++m).lookup x=match l.lookup x with|some a=>some a|none=>m.lookup x
 |[]=>fun m x=>rfl
 |(y,b)::r=>fun m x=>by
  cases hb:x==y <;> simp[List.lookup_cons,hb,a2v r m x]
theorem b8n{l:List (Str×NameKind)}{f:Str→NameKind→NameKind}:∀(x:Str),(l.map fun p=>(p.1,f p.1 p.2)).lookup x=(l.lookup x).map (f x):=by
 intro x
 induction l with
 |nil=>rfl
 |cons p r ih=>
  obtain⟨y,k⟩:=p;cases hb:x==y
  ·simp[List.lookup_cons,hb,ih]
  ·have:x=y:=by simpa using hb
   subst this
   simp
theorem b5q(scope:Scope)(sc:SI):a2d scope sc=scope.names.map fun p=>(p.1,if (p.2==NameKind.free&&sc.names.lookup p.1==some NameKind.cell)then NameKind.cell else p.2):=by
 unfold a2d;refine List.map_congr_left fun p _=>?_;obtain⟨n,k⟩:=p;dsimp only
 split <;> rfl
theorem a1w(scope:Scope)(sc:SI)(x:Str):(a2d scope sc).lookup x=(scope.names.lookup x).map fun k=>if (k==NameKind.free&&sc.names.lookup x==some NameKind.cell)then NameKind.cell else k:=by
 rw[b5q]; exact b8n (f:=fun n k=>if (k==NameKind.free&&sc.names.lookup n==some NameKind.cell)then NameKind.cell else k) x
theorem a0n:∀(names:List (Str×NameKind)) (n:Nat) (acc:List (Str×Addr)),(names.map (·.1)).Nodup→∀x,(names.lookup x≠some .cell→(cellsFrom n names acc).lookup x=acc.lookup x)∧(names.lookup x=some .cell→∃c,(cellsFrom n names acc).lookup x=some c∧n≤c)
 |[]=>fun n acc _ x=>⟨fun _=>rfl,fun h=>by simp at h⟩
 |(y,k)::r=>fun n acc hn x=>by
  rw[List.map_cons,List.nodup_cons]at hn;unfold cellsFrom
  by_cases hxy:x=y
  ·subst hxy
   have hr:r.lookup x≠some .cell:=by rw[a2x hn.1]; simp
   rw[List.lookup_cons,beq_self_eq_true];dsimp only
   by_cases hk:k=.cell
   ·subst hk
    refine⟨fun h=>absurd rfl h,fun _=>⟨n,?_,Nat.le_refl _⟩⟩
    have:=(a0n r (n+1) ((x,n)::acc) hn.2 x).1 hr
    simpa using this
   ·have hkb:(k==NameKind.cell)=false:=by simpa using hk
    rw[hkb];exact⟨fun _=>(a0n r n acc hn.2 x).1 hr,fun h=>absurd (Option.some.inj h) hk⟩
  ·have hb:(x==y)=false:=beq_false_of_ne hxy
   rw[List.lookup_cons,hb];dsimp only
   by_cases hk:k=.cell
   ·subst hk
    obtain⟨h1,h2⟩:=a0n r (n+1) ((y,n)::acc) hn.2 x;refine⟨fun h=>?_,fun h=>?_⟩
    ·have:=h1 h; rw[List.lookup_cons,hb]at this; simpa using this
    ·obtain⟨c,hc,hle⟩:=h2 h; exact⟨c,by simpa using hc,by omega⟩
   ·have hkb:(k==NameKind.cell)=false:=by simpa using hk
    rw[hkb];exact a0n r n acc hn.2 x
theorem a1g:∀(names:List (Str×NameKind)) (n:Nat) (acc:List (Str×Addr)),cellsFrom n names acc=cellsFrom n names []++acc
 |[]=>fun _ _=>rfl
 |(y,k)::r=>fun n acc=>by
  unfold cellsFrom;split
  ·rw[a1g r (n+1) ((y,n)::acc),a1g r (n+1) [(y,n)],List.append_assoc]; rfl
  ·exact a1g r n acc
noncomputable def a1e(env:Env):List (Str×NameKind)→List (Str×Addr)→List (Str×Addr)
 |[],acc=>acc
 |(x,k)::r,acc=>if k==NameKind.free then a1e env r ((x,(env.cells.lookup x).getD 0)::acc)else a1e env r acc
theorem a5g(h:∀p∈scope.names,p.2=.free→∃c,env.cells.lookup p.1=some c):closureFor scope env=pure (a1e env scope.names []):=by
 unfold closureFor;have key:∀(l:List (Str×NameKind)) (acc:List (Str×Addr)),(∀p∈l,p.2=.free→∃c,env.cells.lookup p.1=some c)→
   (forIn l acc fun(x:Str×NameKind) cs=>match x with
    |(name,kind)=>if (kind==NameKind.free)=true then do
      let a ←cellOf env name
      pure (ForInStep.yield ((name,a)::cs))
     else pure (ForInStep.yield cs):Sem (List (Str×Addr)))=pure (a1e env l acc):=by
  intro l
  induction l with
  |nil=>intro acc _; rfl
  |cons p r ih=>
   intro acc hp;obtain⟨x,kd⟩:=p;have ihr:=fun a=>ih a fun q hq=>hp q (List.mem_cons_of_mem _ hq);rw[List.forIn_cons];dsimp only[a1e]
   by_cases hk:kd=.free
   ·subst hk
    obtain⟨c,hc⟩:=hp (x,.free) (.head _) rfl;have hc:env.cells.lookup x=some c:=hc;simp only[beq_self_eq_true,if_true,cellOf,hc,Option.getD_some];exact ihr _
   ·have hkb:(kd==NameKind.free)=false:=by simpa using hk
    simp only[hkb,Bool.false_eq_true,if_false];exact ihr _
 have:=key scope.names [] h
 refine Eq.trans (congrArg (· >>= pure) ?_) (congrArg (· >>= pure) this)
 rfl
theorem a3c{env:Env}:∀{names:List (Str×NameKind)} {acc:List (Str×Addr)} {x:Str} {c:Addr},(x,c)∈a1e env names acc→(x,c)∈acc∨((x,NameKind.free)∈names∧c=(env.cells.lookup x).getD 0)
 |[],acc,x,c,h=>.inl h
 |(y,k)::r,acc,x,c,h=>by
  dsimp only[a1e]at h
  split at h
  ·rename_i hk
   have hk:k=.free:=by simpa using hk
   subst hk
   rcases a3c h with h|⟨h,e⟩
   ·rcases List.mem_cons.mp h with e|h
    ·cases e; exact .inr ⟨.head _,rfl⟩
    ·exact .inl h
   ·exact .inr ⟨List.mem_cons_of_mem _ h,e⟩
  ·rcases a3c h with h|⟨h,e⟩
   ·exact .inl h
   ·exact .inr ⟨List.mem_cons_of_mem _ h,e⟩
theorem a1y{env:Env}:∀{names:List (Str×NameKind)} {acc:List (Str×Addr)},((names.map (·.1)).Nodup)→((acc.map (·.1)).Nodup)→(∀x∈acc.map (·.1),x∉names.map (·.1))→((a1e env names acc).map (·.1)).Nodup
 |[],acc,_,h,_=>h
 |(y,k)::r,acc,hn,ha,hd=>by
  rw[List.map_cons,List.nodup_cons]at hn;dsimp only[a1e];split
  ·refine a1y hn.2 ?_ fun x hx=>?_
   ·rw[List.map_cons,List.nodup_cons]
    exact⟨fun hm=>hd y hm (by simp),ha⟩
   ·rcases List.mem_cons.mp hx with e|hx
    ·subst e; exact hn.1
    ·intro hm; exact hd x hx (by rw[List.map_cons]; exact List.mem_cons_of_mem _ hm)
  ·exact a1y hn.2 ha fun x hx hm=>hd x hx (by rw[List.map_cons]; exact List.mem_cons_of_mem _ hm)
theorem a5i{env:Env}:∀{names:List (Str×NameKind)} {acc:List (Str×Addr)} {p:Str×Addr},(p∈acc∨((p.1,NameKind.free)∈names∧p.2=(env.cells.lookup p.1).getD 0))→p∈a1e env names acc
 |[],acc,p,h=>by
  rcases h with h|⟨h,_⟩
  ·exact h
  ·cases h
 |(y,k)::r,acc,p,h=>by
  dsimp only[a1e];split
  ·refine a5i ?_
   rcases h with h|⟨h,e⟩
   ·exact .inl (List.mem_cons_of_mem _ h)
   ·rcases List.mem_cons.mp h with e'|h
    ·cases e'; exact .inl (by obtain⟨a,b⟩:=p; dsimp only at e ⊢; subst e; exact .head _)
    ·exact .inr ⟨h,e⟩
  ·rename_i hk
   refine a5i ?_
   rcases h with h|⟨h,e⟩
   ·exact .inl h
   ·rcases List.mem_cons.mp h with e'|h
    ·cases e'; simp at hk
    ·exact .inr ⟨h,e⟩
theorem a7t(st:St)(is:List Nat)(i:Nat):(i∈is→(st.clr is).get i=.undef)∧(i∉is→(st.clr is).get i=st.get i):=by
 have key:∀(is:List Nat) (vs:List V),((vs.getD i .undef=.undef∨i∈is)→(is.foldl (fun vs j=>vs.set j .undef) vs).getD i .undef=.undef)∧(i∉is→(is.foldl (fun vs j=>vs.set j .undef) vs).getD i .undef=vs.getD i .undef):=by
  intro is
  induction is with
  |nil=>intro vs; exact⟨fun h=>h.elim id (fun h=>nomatch h),fun _=>rfl⟩
  |cons j r ih=>
   intro vs;rw[List.foldl_cons];have hs:∀(a:Nat),(vs.set a V.undef).getD i .undef=if a=i then .undef else vs.getD i .undef:=fun a=>by
    simp only[List.getD_eq_getElem?_getD,List.getElem?_set];split
    ·split <;> rfl
    ·rfl
   refine⟨fun h=>(ih _).1 ?_,fun h=>?_⟩
   ·rw[hs]
    split
    ·exact .inl rfl
    ·rename_i hji
     rcases h with h|h
     ·exact .inl h
     ·rcases List.mem_cons.mp h with e|h
      ·exact absurd e.symm hji
      ·exact .inr h
   ·rw[List.mem_cons,not_or]at h
    rw[(ih _).2 h.2,hs,if_neg (fun e=>h.1 e.symm)]
 exact⟨fun h=>(key is st.vars).1 (.inr h),fun h=>(key is st.vars).2 h⟩
end
section
section
variable {C:Cfg} {Γ:Ctx} {sc:SI} {n:Nat} {hz:Bool} {k:Ck}
noncomputable def a1v(scope:Scope)(env:Env)(L:Nat):List (Str×Addr):=cellsFrom (L+1) scope.names (a1e env scope.names [])
noncomputable def a2e(scope:Scope)(env:Env)(L:Nat):Env:=
 { scope:=relabel scope env,locals:=L,globals:=env.globals,cells:=a1v scope env L,qual:=env.qual,func:=none,code:=env.code,frame:=env.frame,builtins:=env.builtins }
theorem b5z{s:e1m}{Q:Env→e1m→Prop}
 (h:∀env':Env,{ env' with scope:=relabel scope env }=a2e scope env s.heap.objs.size→env'.locals=s.heap.objs.size→Q env' { s with heap:=pushCells (s.heap.push { cls:=.type "dict",data:=.dict #[] }) scope.names }) :
  e1p (model C.prog C.w) A (newFunctionEnv scope env.globals (a1e env scope.names []) [] env.qual none .none (some env)) Q Eh s:=by
 simp only[newFunctionEnv,Option.isSome_some,if_true];refine e1k (wpAny_alloc ?_);refine e1k (wpAny_layCells _ (fun name kind cells=>by cases hkc:kind==NameKind.cell <;> simp[hkc]) _ _ _ _ ?_)
 rw[show({ s with heap:=s.heap.push { cls:=.type "dict",data:=.dict #[] } }:e1m).heap.objs.size=s.heap.objs.size+1 from Heap.size_push ..]
 exact e1k (e1o (e1o (h _ rfl rfl)))
theorem a3h(e:EnvOK sc env):(relabel scope env).names=a2d scope sc:=by
 show(scope.names.map fun(n,k)=>if (k==NameKind.free&&env.scope.kind==ScopeKind.function&&env.kindOf n==some NameKind.cell)then(n,NameKind.cell)else(n,k))=_
 unfold a2d;refine List.map_congr_left fun p _=>?_;obtain⟨x,kd⟩:=p;dsimp only;rw[e.kind,e.kindOf,show(ScopeKind.function==ScopeKind.function)=true from rfl,Bool.and_true]
theorem b5h{is:List Nat}(ok:CompOK scope sc tids is) :(a2d scope sc).lookup x=some .cell∨(a2d scope sc).lookup x=some .free→scope.names.lookup x=some .cell∨scope.names.lookup x=some .free:=by
 rw[a1w];cases e:scope.names.lookup x with
 |none=>exact fun h=>h.elim (fun h=>nomatch h) fun h=>nomatch h
 |some kd=>cases kd <;> first|exact fun _=>.inl rfl|exact fun _=>.inr rfl|exact fun h=>h.elim (fun h=>nomatch h) fun h=>nomatch h
theorem b6d(h:(a1p scope sc tids).ids.lookup x=some i):(tids.lookup x=some i)∨(scope.names.lookup x=some .free∧sc.ids.lookup x=some i∧tids.lookup x=none):=by
 have h:(tids++sc.ids.filter fun p=>scope.names.lookup p.1==some NameKind.free).lookup x=some i:=h;rw[a2v]at h;cases e:tids.lookup x with
 |some j=>rw[e]at h; exact .inl h
 |none=>
  rw[e]at h;have h:(sc.ids.filter fun p=>scope.names.lookup p.1==some NameKind.free).lookup x=some i:=h;rw[a3n (fun y=>scope.names.lookup y==some NameKind.free)]at h
  split at h
  ·rename_i hf; exact .inr ⟨by simpa using hf,h,rfl⟩
  ·cases h
theorem a2k{is:List Nat}(ok:CompOK scope sc tids is):SIOK (a1p scope sc tids):=⟨ok.nd,fun x i h=>by
 rw[show(a1p scope sc tids).names=a2d scope sc from rfl,a1w]
 rcases b6d h with h|⟨h,_,_⟩
 ·rcases ok.tid _ (e1r h)with e|e
  ·rw[show scope.names.lookup x=some .local from e]; exact .inl rfl
  ·rw[show scope.names.lookup x=some .cell from e]; exact .inr (.inl rfl)
 ·rw[h]
  by_cases hc:sc.names.lookup x=some .cell
  ·right; left; simp[hc]
  ·right; right; simp[hc]⟩
theorem b9g{s:e1m}{al:List Addr}{st:St}{is:List Nat}(so:SIOK sc)(ok:CompOK scope sc tids is)(H:Here C sc hz n A env g s al st){tk:Nat} :
  Here C (a1p scope sc tids) hz n A (a2e scope env s.heap.objs.size) g { s with heap:=pushCells (s.heap.push { cls:=.type "dict",data:=.dict #[] }) scope.names,toks:=tk } al (st.clr is) ∧
  SIOK (a1p scope sc tids)∧(∀b∈wr (a1p scope sc tids) (a2e scope env s.heap.objs.size),s.heap.get? b=none) ∧
  Sub s.heap (pushCells (s.heap.push { cls:=.type "dict",data:=.dict #[] }) scope.names) ∧
  (∀D,s.heap.get? D≠none→D∉al→D∉C.TA→D∉a4o env→DSep C (a2e scope env s.heap.objs.size) al D):=by
 have sb:Sub s.heap (pushCells (s.heap.push { cls:=.type "dict",data:=.dict #[] }) scope.names):=fun b o e=>pushCells_keeps _ _ b o (a0f _ b o e);have R:=H.rel;have R1:Rel C sc env g (pushCells (s.heap.push { cls:=.type "dict",data:=.dict #[] }) scope.names) al st:=R.step (s':={ s with heap:=pushCells (s.heap.push { cls:=.type "dict",data:=.dict #[] }) scope.names,toks:=tk }) (Step.ext sb) (R.sub.trans sb)
 generalize hL:s.heap.objs.size=L at *;generalize hH:pushCells (s.heap.push { cls:=.type "dict",data:=.dict #[] }) scope.names=H1 at *;have okc:CellsOk H1 (L+1) (cellsFrom (L+1) scope.names []):=by
  have:=cellsFrom_ok scope.names (s.heap.push { cls:=.type "dict",data:=.dict #[] }) (L+1) [] ⟨fun _ _ hm=>(nomatch hm),List.Pairwise.nil⟩ (by rw[Heap.size_push,hL]; exact Nat.le_refl _)
  rw[Heap.size_push,hL,hH]at this
  exact this
 have hns:H1.Ns L fun _=>none:=by
  have:=(Heap.Ns.new s.heap (.type "dict")).keeps (pushCells_keeps scope.names (s.heap.push { cls:=.type "dict",data:=.dict #[] }))
  rw[hL,hH]at this
  exact this
 have old:∀{b:Addr},(∃o,s.heap.get? b=some o)→b<L:=fun h=>h.elim fun o ho=>hL▸Heap.lt_size ho;have new:∀{b:Addr},L≤b→s.heap.get? b=none:=fun{b} hb=>a0s (hL▸hb);have fc:∀p∈scope.names,p.2=.free→∃c v,env.cells.lookup p.1=some c∧s.heap.IsCell c v:=fun p hp hf=>R.cell p.1 (ok.free p hp hf);have clm:∀{x:Str} {c:Addr},(x,c)∈a1e env scope.names []→(x,NameKind.free)∈scope.names∧env.cells.lookup x=some c:=fun{x c} hm=>by
  rcases a3c hm with h|⟨h,e⟩
  ·cases h
  ·obtain⟨c',v,hc,_⟩:=fc _ h rfl
   have hc:env.cells.lookup x=some c':=hc;rw[hc]at e;exact⟨h,e▸hc⟩
 have clp:∀{x:Str} {c:Addr},(x,c)∈a1e env scope.names []→c∈a4o env:=fun hm=>List.mem_cons_of_mem _ (List.mem_map.mpr ⟨_,e1r (clm hm).2,rfl⟩);have clo:∀{x:Str} {c:Addr},(x,c)∈a1e env scope.names []→c<L:=fun hm=>old (R.plt _ (clp hm));have own:∀{x:Str} {c:Addr},(x,c)∈cellsFrom (L+1) scope.names []→L+1≤c∧H1.IsCell c none:=fun hm=>⟨(okc.empty _ _ hm).2,(okc.empty _ _ hm).1⟩;have ceq:a1v scope env L=cellsFrom (L+1) scope.names []++a1e env scope.names []:=a1g _ _ _;have lkCell:∀{x:Str},scope.names.lookup x=some .cell→∃c,(a1v scope env L).lookup x=some c∧(x,c)∈cellsFrom (L+1) scope.names []:=fun{x} hx=>by
  obtain⟨c,hc,_⟩:=(a0n scope.names (L+1) [] ok.nodup x).2 hx;obtain⟨c',hc',_⟩:=(a0n scope.names (L+1) (a1e env scope.names []) ok.nodup x).2 hx;refine⟨c,?_,e1r hc⟩;rw[ceq,a2v,hc]
 have lkFree:∀{x:Str} {c:Addr},scope.names.lookup x=some .free→env.cells.lookup x=some c→(a1v scope env L).lookup x=some c:=fun{x c} hx hc=>by
  have h1:(a1v scope env L).lookup x=(a1e env scope.names []).lookup x:=(a0n scope.names (L+1) _ ok.nodup x).1 (by rw[hx]; simp)
  rw[h1];refine a0q (a1y (acc:=[]) ok.nodup List.nodup_nil (fun _ h=>nomatch h)) (a5i (.inr ⟨e1r hx,?_⟩));show c=(env.cells.lookup x).getD 0;rw[hc]; rfl
 have pmem:∀b∈a4o (a2e scope env L),b=L∨(∃x,(x,b)∈cellsFrom (L+1) scope.names [])∨∃x,(x,b)∈a1e env scope.names []:=fun b hb=>by
  rcases List.mem_cons.mp hb with h|h
  ·exact .inl h
  ·obtain⟨⟨x,c⟩,hp,rfl⟩:=List.mem_map.mp h
   have hp:(x,c)∈a1v scope env L:=hp;rw[ceq]at hp
   rcases List.mem_append.mp hp with h|h
   ·exact .inr (.inl ⟨x,h⟩)
   ·exact .inr (.inr ⟨x,h⟩)
 have sid:∀{x:Str} {i:Nat},(a1p scope sc tids).ids.lookup x=some i→(tids.lookup x=some i)∨(scope.names.lookup x=some .free∧sc.ids.lookup x=some i∧tids.lookup x=none):=fun h=>b6d h;have soI:SIOK (a1p scope sc tids):=a2k ok;refine⟨⟨H.ok,H.hz,⟨ok.kind,a3h H.eok,H.eok.globals,H.eok.builtins⟩,?_,?_⟩,soI,fun b hb=>?_,sb,fun D hD h1 h2 h3=>⟨h1,h2,fun hm=>?_⟩⟩
 ·exact{
   sub:=R1.sub,amb:=R1.amb,nd:=R1.nd,tabs:=R1.tabs
   ns:=⟨_,hns⟩
   cell:=fun x hx=>by
    rcases b5h ok hx with h|h
    ·obtain⟨c,hc,hm⟩:=lkCell h
     exact⟨c,none,hc,(own hm).2⟩
    ·obtain⟨c,v,hc,o,ho,hd⟩:=fc _ (e1r h) rfl
     exact⟨c,v,lkFree h hc,o,sb _ _ ho,hd⟩
   vars:=fun x i hi=>by
    rcases sid hi with h|⟨h,h',h''⟩
    ·exact .inl fun u hu=>hu▸(a7t st is i).1 (ok.ids▸List.mem_map.mpr ⟨_,e1r h,rfl⟩)
    ·have hni:i∉is:=fun hm=>by
      rw[←ok.ids]at hm;obtain⟨⟨y,j⟩,hy,e⟩:=List.mem_map.mp hm;have e:j=i:=e;subst e;have hnd:=ok.nd;have h1:((tids++sc.ids.filter fun p=>scope.names.lookup p.1==some NameKind.free).map (·.2)).Nodup:=hnd;rw[List.map_append,List.nodup_append]at h1;refine h1.2.2 j (List.mem_map.mpr ⟨_,hy,rfl⟩) j (List.mem_map.mpr ⟨(x,j),List.mem_filter.mpr ⟨e1r h',by simp[h]⟩,rfl⟩) rfl
     rw[(a7t st is i).2 hni]
     rcases R1.vars x i h' with h0|⟨v,hl,hv⟩
     ·exact .inl h0
     ·refine .inr ⟨v,?_,hv⟩
      obtain⟨c,_,hc,_⟩:=fc _ (e1r h) rfl;have hc:env.cells.lookup x=some c:=hc;have hkx:=ok.free _ (e1r h) rfl;have hkx:sc.names.lookup x=some .cell∨sc.names.lookup x=some .free:=hkx
      rcases hl with⟨hk,_⟩|⟨_,c',hc',hcell⟩
      ·rw[H.eok.kindOf]at hk
       rcases hkx with e|e <;> rw[e]at hk <;> cases hk
      ·rw[hc]at hc'; cases hc'
       refine .inr ⟨?_,c,lkFree h hc,hcell⟩;show(relabel scope env).names.lookup x=_∨(relabel scope env).names.lookup x=_;rw[a3h H.eok,a1w,h]
       by_cases hcc:sc.names.lookup x=some .cell
       ·left; simp[hcc]
       ·right; simp[hcc]
   olen:=R1.olen,own:=R1.own,alnd:=R1.alnd
   pnd:=by
    show(L::(a1v scope env L).map (·.2)).Nodup;rw[List.nodup_cons,ceq,List.map_append];refine⟨fun hm=>?_,?_⟩
    ·rcases List.mem_append.mp hm with h|h <;> obtain⟨⟨x,c⟩,hp,e⟩:=List.mem_map.mp h
     ·have:=(own hp).1; have e:c=L:=e; exact Nat.lt_irrefl L (e▸this)
     ·have:=clo hp; have e:c=L:=e; exact Nat.lt_irrefl L (e▸this)
    ·rw[List.nodup_append]
     refine⟨List.pairwise_map.mpr okc.apart,?_,fun a ha b hb e=>?_⟩
     ·have hk:=a1y (env:=env) (names:=scope.names) (acc:=[]) ok.nodup List.nodup_nil (fun _ h=>nomatch h)
      have hnd:=(List.nodup_cons.mp R.pnd).2;have hk:=List.pairwise_map.mp hk;refine List.pairwise_map.mpr (List.Pairwise.imp_of_mem (fun{p q} hp hq hne=>?_) hk);obtain⟨x,c⟩:=p;obtain⟨y,d⟩:=q;exact a3d hnd (clm hp).2 (clm hq).2 hne
     ·obtain⟨⟨x,c⟩,hp,e1⟩:=List.mem_map.mp ha
      obtain⟨⟨y,d⟩,hq,e2⟩:=List.mem_map.mp hb;have h1:=(own hp).1;have h2:=clo hq;have e1:c=a:=e1;have e2:d=b:=e2;have e3:c=d:=e1.trans (e.trans e2.symm);exact Nat.lt_irrefl _ (Nat.lt_trans (e3▸h1) h2)
   pgl:=a2y R.sub (new (Nat.le_refl _))
   pgc:=fun x c hk hc=>by
    have hc:(a1v scope env L).lookup x=some c:=hc;have hm:=e1r hc;rw[ceq]at hm
    rcases List.mem_append.mp hm with h|h
    ·exact a2y R.sub (new (Nat.le_of_succ_le (own h).1))
    ·have hk:(relabel scope env).names.lookup x=some .cell:=hk
     rw[a3h H.eok,a1w,a0q ok.nodup (clm h).1]at hk;have hcc:sc.names.lookup x=some .cell:=by
      by_cases q:sc.names.lookup x=some .cell
      ·exact q
      ·simp[q]at hk
     exact R.pgc x c (by rw[H.eok.kindOf]; exact hcc) (clm h).2
   plt:=fun b hb=>by
    rcases pmem b hb with rfl|⟨x,h⟩|⟨x,h⟩
    ·obtain⟨o,_,_,ho,_⟩:=hns; exact⟨o,ho⟩
    ·obtain⟨o,ho,_⟩:=(own h).2; exact⟨o,ho⟩
    ·exact R1.plt b (clp h)
   pal:=fun b hb hm=>by
    rcases pmem b hb with rfl|⟨x,h⟩|⟨x,h⟩
    ·exact Nat.lt_irrefl _ (old (R.alh _ hm))
    ·exact Nat.lt_irrefl _ (Nat.lt_trans (own h).1 (old (R.alh _ hm)))
    ·exact R.pal b (clp h) hm
   pta:=fun b hb hm=>by
    have al':∃o,s.heap.get? b=some o:=(R.tabs b hm).2.imp fun _=>And.left
    rcases pmem b hb with rfl|⟨x,h⟩|⟨x,h⟩
    ·exact Nat.lt_irrefl _ (old al')
    ·exact Nat.lt_irrefl _ (Nat.lt_trans (own h).1 (old al'))
    ·exact R.pta b (clp h) hm
   ata:=R1.ata,base:=R1.base }
 ·obtain⟨fs,f1,f2⟩:=H.fr
  refine⟨fs,f1,fun e he=>?_⟩;obtain⟨f3,L',f4,f5⟩:=f2 e he;refine⟨f3,L',f4,.inr ?_⟩;have key:∀L',(∃o es ep,s.heap.get? L'=some o∧o.data=.dict es ep)→g.get? L'=none→L'∉al→L'∉C.TA→L'∉env.cells.map (·.2)→g.get? L'=none∧L'∉al∧L'∉C.TA∧L'∉a4o (a2e scope env L)∧∃o es ep,H1.get? L'=some o∧o.data=.dict es ep:=fun L' ⟨o,es,ep,a1,a2⟩ b1 b2 b3 b4=>by
   refine⟨b1,b2,b3,fun hm=>?_,o,es,ep,sb _ _ a1,a2⟩
   rcases pmem L' hm with rfl|⟨x,h⟩|⟨x,h⟩
   ·exact Nat.lt_irrefl _ (old ⟨o,a1⟩)
   ·exact Nat.lt_irrefl _ (Nat.lt_trans (own h).1 (old ⟨o,a1⟩))
   ·exact b4 (List.mem_map.mpr ⟨_,e1r (clm h).2,rfl⟩)
  rcases f5 with rfl|⟨a1,a2,a3,a4,a5⟩
  ·obtain⟨m,o,es,ep,ho,hd,_⟩:=R.ns
   exact key _ ⟨o,es,ep,ho,hd⟩ R.pgl (R.pal _ (.head _)) (R.pta _ (.head _)) (List.nodup_cons.mp R.pnd).1
  ·exact key _ a5 a1 a2 a3 fun hm=>a4 (List.mem_cons_of_mem _ hm)
 ·rcases List.mem_cons.mp hb with rfl|h
  ·exact new (Nat.le_refl _)
  ·obtain⟨x,hx,hc⟩:=List.mem_filterMap.mp h
   have hx:x∈(tids.map (·.1)).filter fun x=>scope.names.lookup x==some NameKind.cell:=hx;obtain⟨_,hx⟩:=List.mem_filter.mp hx;have hx:scope.names.lookup x=some .cell:=by simpa using hx
   obtain⟨c,hc',hm⟩:=lkCell hx;have hc:(a1v scope env L).lookup x=some b:=hc;rw[hc']at hc; cases hc;exact new (Nat.le_of_succ_le (own hm).1)
 ·have hD:∃o,s.heap.get? D=some o:=by
   cases e:s.heap.get? D with
   |none=>exact absurd e hD
   |some o=>exact⟨o,rfl⟩
  rcases pmem D hm with rfl|⟨x,h⟩|⟨x,h⟩
  ·exact Nat.lt_irrefl _ (old hD)
  ·exact Nat.lt_irrefl _ (Nat.lt_trans (own h).1 (old hD))
  ·exact h3 (clp h)
end
end
section
section
variable {C:Cfg} {Γ:Ctx} {sc:SI} {n:Nat} {hz:Bool} {k:Ck}
theorem c6q{st:St}{is:List Nat}(h:∀i∈is,st.get i=.undef):st.clr is=st:=by
 have key:∀(is:List Nat) (vs:List V),(∀i∈is,vs.getD i .undef=.undef)→is.foldl (fun vs i=>vs.set i .undef) vs=vs:=by
  intro is
  induction is with
  |nil=>intro vs _; rfl
  |cons i r ih=>
   intro vs h;rw[List.foldl_cons];have e:vs.set i .undef=vs:=by
    have h1:=h i (.head _)
    by_cases hl:i<vs.length
    ·have:vs[i]=V.undef:=by rw[List.getD_eq_getElem?_getD,List.getElem?_eq_getElem hl]at h1; exact h1
     rw[←this]; exact List.set_getElem_self hl
    ·exact List.set_eq_of_length_le (by omega)
   rw[e];exact ih vs fun j hj=>h j (List.mem_cons_of_mem _ hj)
 show({ st with vars:=_ }:St)=st
 rw[key is st.vars h]
theorem Rel.clr{g h:Heap}{al:List Addr}{st:St}(R:Rel C sc env g h al st)(is:List Nat):Rel C sc env g h al (st.clr is):=
 {
  R with
  vars:=fun x i hi=>by
   by_cases hm:i∈is
   ·exact .inl fun u hu=>hu▸(a7t st is i).1 hm
   ·rw[(a7t st is i).2 hm]; exact R.vars x i hi
  olen:=R.olen,own:=R.own }
theorem a7j{t:T}{target iter elt:Expr}{rest:List e1u}{pos p0:Pos}{tw:St→(Bool→St→Prop)→Prop}{gg gall:G}{it:I} 
 (so:SIOK sc) (ok:CompOK scope sc tids gall.ids) (ht:ckT (a1p scope sc tids) t target=true) (hfold:∀env x,foldedSetIterable iter env x=pure x) (hn:b4m (⟨target,iter,ifs,0⟩::rest) 1 nxt)
 (hI:SIt C Γ sc n hz target it iter) (htst:d2n C (a1p scope sc tids) n hz tw ifs) (hin:c7g C Γ (a1p scope sc tids) n hz gg elt (⟨target,iter,ifs,0⟩::rest) scope pos nxt 1)
 (hall:∀st acc K,wpG Γ gall st acc K→wpI Γ it st fun ds st=>a1n (b4p Γ t tw gg) ds st acc K)
 (A:e1x) (env:Env) (g:Heap) (s:e1m) (al:List Addr) (st:St) (Eh:e1n→e1m→Prop) (use:Option (e1n→Sem Unit)) (Q:e1l→St→Prop) (Q':e1n→e1m→Prop) (H:Here C sc hz n A env g s al st)
 (hw:wpG Γ gall (st.clr gall.ids) [] fun acc st'=>Q (.list acc) { st' with vars:=st.vars })
 (fin:∀(D L:Addr) acc s' g' st',Aft C sc env al g s st g' s' st'→s.heap.get? D=none→OwnOK g' s'.heap D (.lst acc)→s.heap.get? L=none→L≠D→(∃m,s'.heap.Ns L m)→g'.get? L=none→Q (.list acc) st'→
 compPost (model C.prog C.w) A Eh use Q' (.ref D) L (.ok .next) s') :
  e1p (model C.prog C.w) A (comprehension (.ListComp elt (⟨target,iter,ifs,0⟩::rest) scope pos) scope env p0 (newList []) false (eval iter env) use) Q' Eh s:=by
 have hfree:∀p∈scope.names,p.2=.free→∃c,env.cells.lookup p.1=some c:=fun p hp hf=>by
  obtain⟨c,_,hc,_⟩:=H.rel.cell p.1 (ok.free p hp hf); exact⟨c,hc⟩
 have hnames:∀x∈scope.names,x.2=.local→scope.names.lookup x.1=some .local:=fun x hx he=>by
  obtain⟨y,kd⟩:=x;have he:kd=.local:=he;subst he;exact a0q ok.nodup hx
 refine wpAny_comprehension_free rfl (fun x=>hfold env x) (a5g hfree) ok.kind hnames ?_;have H0:Here C sc hz n A env g s al (st.clr gall.ids):=⟨H.ok,H.hz,H.eok,H.rel.clr _,H.fr⟩;refine hI A env g s al (st.clr gall.ids) Eh _ _ H0 (hall _ _ _ hw) fun I ws IS ds st1 s1 g1 a1 hit his hf hw1=>?_;have H1:=H0.go a1;refine wpAny_newList ?_ (by decide)
 have sb1:Sub s1.heap (s1.heap.push { cls:=.type "list",data:=.seq ([]:List e1n).toArray }):=a0f _;have hDn:s1.heap.get? s1.heap.objs.size=none:=a0e _;have hDp:(s1.heap.push { cls:=.type "list",data:=.seq ([]:List e1n).toArray }).get? s1.heap.objs.size=some { cls:=.type "list",data:=.seq ([]:List e1n).toArray }:=Heap.get?_push_size _ rfl;generalize hD:s1.heap.objs.size=D at *;have x2:Step [] s1 g1 { s1 with heap:=s1.heap.push { cls:=.type "list",data:=.seq ([]:List e1n).toArray } } g1:=Step.ext (tk:=s1.toks) sb1
 have a2:=H1.stay { s1 with heap:=s1.heap.push { cls:=.type "list",data:=.seq ([]:List e1n).toArray } } x2 (H1.rel.sub.trans sb1)
 have H2:=H1.go a2;have fresh1:∀{b:Addr},s.heap.get? b=none→b∉al∧b∉C.TA∧b∉a4o env:=fun{b} hb=>by
  refine⟨fun hm=>?_,fun hm=>?_,fun hm=>?_⟩
  ·obtain⟨o,ho⟩:=H.rel.alh b hm; rw[ho]at hb; cases hb
  ·obtain⟨_,o,ho,_⟩:=H.rel.tabs b hm; rw[ho]at hb; cases hb
  ·obtain⟨o,ho⟩:=H.rel.plt b hm; rw[ho]at hb; cases hb
 have Dfr:s.heap.get? D=none:=a1a a1 hDn;generalize hs2:({ s1 with heap:=s1.heap.push { cls:=.type "list",data:=.seq ([]:List e1n).toArray } }:e1m)=s2 at *
 have hs2h:s2.heap=s1.heap.push { cls:=.type "list",data:=.seq ([]:List e1n).toArray }:=by rw[←hs2]
 refine b5z fun env' he hl=>?_;obtain⟨H3,soI,hwr,sb3,hsep⟩:=b9g (tids:=tids) (is:=gall.ids) so ok H2 (tk:=s2.toks);have ec:st1.clr gall.ids=st1:=c6q fun i hi=>by
  have:st1.get i=(st.clr gall.ids).get i:=by unfold St.get; rw[a1.vars]
  rw[this]; exact(a7t st gall.ids i).1 hi
 rw[ec]at H3;rw[he];have hl':env'.locals=(a2e scope env s2.heap.objs.size).locals:=by rw[←he]
 rw[hl'];have x3:Step [] s2 g1 { s2 with heap:=pushCells (s2.heap.push { cls:=.type "dict",data:=.dict #[] }) scope.names } g1:=Step.ext (tk:=s2.toks) sb3
 have Dal:s2.heap.get? D≠none:=by rw[hs2h,hDp]; simp
 obtain⟨d1,d2,d3⟩:=fresh1 Dfr;have dp:=hsep D Dal d1 d2 d3;have hws:∀b∈ws,b∉al∧b∉C.TA∧b∉a4o (a2e scope env s2.heap.objs.size)∧b≠D:=fun b hb=>by
  obtain⟨b1,b2,b3⟩:=fresh1 (hf b hb);obtain⟨_,o,ho,_⟩:=hit.here 0 _ _ his b hb;have q:=hsep b (by rw[hs2h,sb1 _ _ ho]; simp) b1 b2 b3
  refine⟨b1,b2,q.pr,fun e=>?_⟩;subst e; rw[hDn]at ho; cases ho
 have q2:OwnOK g1 s2.heap D (.lst []):=⟨a2y a1.rel.sub hDn,[],⟨0,by rw[hs2h]; exact hDp⟩,RDs.nil⟩
 have q3:=a2t q2 (by rw[hs2h]; exact a1.rel.sub.trans sb1) x3 (by simp)
 have is3:=a3p hit (a3p hit his x2 (by simp)) x3 (by simp)
 refine c0w soI ht rfl hn htst hin A _ g1 _ al st1 D [] I ws IS ds _ _ H3 dp q3 hit is3 hws hw1 fun s' g' st' acc' z' H' x' q' hk=>?_;have back:∀{b:Addr},s2.heap.get? b=none→s.heap.get? b=none:=fun{b} hb=>a1a (a1.trans a2) hb;have xx:Step (al++C.TA) s g s' g':=by
  refine(a1.trans a2).step.trans ((x3.mono (W':=ws++D::(wr (a1p scope sc tids) (a2e scope env s2.heap.objs.size)++(al++C.TA))) fun _ h=>nomatch h).tr x') fun b hb=>?_
  rcases List.mem_append.mp hb with h|h
  ·exact .inr (hf b h)
  ·rcases List.mem_cons.mp h with h|h
   ·exact .inr (h▸Dfr)
   ·rcases List.mem_append.mp h with h|h
    ·exact .inr (back (hwr b h))
    ·exact .inl h
 have R':=H.rel.back xx (fun b hb=>(List.mem_append.mp hb).elim .inl fun h=>.inr (.inl h)) H'.rel.b;have zz:st'.hz=st.hz:=z'.trans a1.hz;have es:({ st' with vars:=st.vars }:St)={ st with own:=st'.own }:=by rw[←zz]
 have Lfr:s2.heap.get? s2.heap.objs.size=none:=a0e _;refine fin D s2.heap.objs.size acc' s' g' { st' with vars:=st.vars } ⟨rfl,zz,es▸R',xx⟩ Dfr q' (back Lfr) (fun e=>by rw[←e]at Dal; exact Dal Lfr) H'.rel.ns H'.rel.pgl hk
theorem c2n{t:T}{target iter elt:Expr}{rest:List e1u}{pos:Pos}{tw:St→(Bool→St→Prop)→Prop}{gg gall:G}{it:I} 
 (so:SIOK sc) (ok:CompOK scope sc tids gall.ids) (ht:ckT (a1p scope sc tids) t target=true) (hfold:∀env x,foldedSetIterable iter env x=pure x) (hn:b4m (⟨target,iter,ifs,0⟩::rest) 1 nxt)
 (hI:SIt C Γ sc n hz target it iter) (htst:d2n C (a1p scope sc tids) n hz tw ifs) (hin:c7g C Γ (a1p scope sc tids) n hz gg elt (⟨target,iter,ifs,0⟩::rest) scope pos nxt 1)
 (hall:∀st acc K,wpG Γ gall st acc K→wpI Γ it st fun ds st=>a1n (b4p Γ t tw gg) ds st acc K):SE C Γ sc n hz (.comp gall) (.ListComp elt (⟨target,iter,ifs,0⟩::rest) scope pos):=fun A env g s al st Eh Q Q' H hw kk=>by
 rw[eval_ListComp];refine a7j so ok ht hfold hn hI htst hin hall A env g s al st Eh none (fun d st=>Q (.dat d) st) Q' H hw fun D L acc s' g' st' a hDn q hLn hne hns hgL hq=>?_;obtain⟨m,hm⟩:=hns;refine⟨m,hm,fun h' hs=>?_⟩;have fresh1:∀{b:Addr},s.heap.get? b=none→b∉al∧b∉C.TA∧b∉a4o env:=fun{b} hb=>by
  refine⟨fun hm=>?_,fun hm=>?_,fun hm=>?_⟩
  ·obtain⟨o,ho⟩:=H.rel.alh b hm; rw[ho]at hb; cases hb
  ·obtain⟨_,o,ho,_⟩:=H.rel.tabs b hm; rw[ho]at hb; cases hb
  ·obtain⟨o,ho⟩:=H.rel.plt b hm; rw[ho]at hb; cases hb
 obtain⟨x1,sb1⟩:=Step.one (tk:=s'.toks) a.rel.sub hgL hs;have R1:=a.rel.move x1 sb1 fun b hb=>by simp at hb; subst hb; exact fresh1 hLn
 have q1:=a2t q a.rel.sub x1 (by simp; exact fun e=>hne e.symm)
 obtain⟨hgD,vs,⟨mm,hp⟩,r⟩:=q1;obtain⟨g2,s1,s2,s3,s4,s5⟩:=a5o sb1 D (fun o e _=>by rw[hp]at e; cases e; rfl)
 have x2:Step [D] { s' with heap:=h',toks:=s'.toks } g' { s' with heap:=h',toks:=s'.toks } g2:=⟨⟨h',s'.toks,rfl⟩,s1,fun _ _ _ e=>.of e,fun _=>s2,fun b o hb _ e=>(s4 b (by simpa using hb)).trans e,s5⟩
 have R2:=R1.move x2 s2 fun b hb=>by simp at hb; subst hb; exact fresh1 hDn
 refine kk (.ref D) (.dat (.list acc)) st' _ g2 ⟨a.vars,a.hz,R2,?_⟩ (RD.list ⟨_,s3.trans hp,rfl,mm,rfl⟩ (r.mono s1)) hq;refine(a.step.trans x1 fun b hb=>?_).trans x2 fun b hb=>?_
 ·simp at hb; subst hb; exact .inr hLn
 ·simp at hb; subst hb; exact .inr hDn
end
end
section
set_option backward.match.sparseCases false
noncomputable def a5x (sc:SI) (x:Str):Bool:=sc.names.lookup x==some .globalImplicit && !(x == "__debug__")
noncomputable def nmv (sc:SI) (x:Str) (i:Nat):Bool:=sc.ids.lookup x==some i && !(x == "__debug__") && !(x == "__classdict__")
noncomputable def d5y:B→Bool|.isint=>false|_=>true
noncomputable def xP:Expr→Pos|.BoolOp _ _ p=>p|.BinOp _ _ _ p=>p|.UnaryOp _ _ p=>p|.IfExp _ _ _ p=>p|.ListComp _ _ _ p=>p|.DictComp _ _ _ _ p=>p|.Compare _ _ _ p=>p|.Call _ _ _ p=>p|.Constant _ _ p=>p|.Attribute _ _ p=>p|.Subscript _ _ p=>p|.Name _ p=>p|.List _ p=>p|.Tuple _ _ p=>p|.Slice _ _ _ p=>p|_=>default
noncomputable def x1:Expr→Expr|.BinOp l _ _ _=>l|.UnaryOp _ z _=>z|.Compare l _ _ _=>l|.IfExp t _ _ _=>t|.Subscript y _ _=>y|.ListComp e _ _ _=>e|.DictComp e _ _ _ _=>e|.Call f _ _ _=>f|.Attribute o _ _=>o|x=>x
noncomputable def x2:Expr→Expr|.BinOp _ _ r _=>r|.DictComp _ e _ _ _=>e|.IfExp _ y _ _=>y|.Subscript _ z _=>z|x=>x
noncomputable def x3:Expr→Expr|.IfExp _ _ z _=>z|x=>x
noncomputable def xK:Expr→Nat|.Constant _ k _=>k|.Tuple _ k _=>k|_=>0
noncomputable def xW:Expr→List Keyword|.Call _ _ k _=>k|_=>[]
noncomputable def xG:Expr→List e1u|.ListComp _ g _ _=>g|.DictComp _ _ g _ _=>g|_=>[]
noncomputable def xS:Expr→Scope|.ListComp _ _ s _=>s|.DictComp _ _ _ s _=>s|_=>default
noncomputable def xLo:Expr→Expr|.Slice (some l) _ _ _=>l|x=>x
noncomputable def xHi:Expr→Expr|.Slice _ (some h) _ _=>h|x=>x
noncomputable def xh(l:List Expr):Expr:=match l with|x::_=>x|[]=>default
noncomputable def xa0(x:Expr):Expr:=xh (xs x)
noncomputable def xa1(x:Expr):Expr:=xh (xs x).tail
noncomputable def cT(l:List e1u):Expr:=match l with|c::_=>c.target|[]=>default
noncomputable def cI(l:List e1u):Expr:=match l with|c::_=>c.iter|[]=>default
noncomputable def cF(l:List e1u):Expr:=match l with|c::_=>xh c.ifs|[]=>default
noncomputable def kV(l:List Keyword):Expr:=match l with|c::_=>c.value|[]=>default
noncomputable def kP(l:List Keyword):Pos:=match l with|c::_=>c.pos|[]=>default
noncomputable def hdS(l:List Str):Str:=match l with|c::_=>c|[]=>⟨#[]⟩
noncomputable def rbN(x:Expr):Expr:=.Name (xN x) (xP x)
noncomputable def b0p(y:Str)(x:Expr):Expr:=.Name y (xP x)
noncomputable def d3o:T→Expr→List (Str×Nat)
 |.one i,x=>if isK 23 x=true then[(xN x,i)]else[]
 |.tup is,x=>if isK 25 x=true then((xs x).zip is).filterMap fun p=>if isK 23 p.1=true then some (xN p.1,p.2)else none else[]
noncomputable def c6m:G→List e1u→List (Str×Nat)
 |.elt _,_=>[]
 |.for t _ g,⟨target,_,_,_⟩::r=>d3o t target++c6m g r
 |.forIf t _ _ g,⟨target,_,_,_⟩::r=>d3o t target++c6m g r
 |_,[]=>[]
noncomputable def c8o(scope:Scope)(sc:SI)(tids:List (Str×Nat))(is:List Nat):Bool:=
 scope.kind == .function&&decide ((scope.names.map (·.1)).Nodup)&&(scope.names.all fun p=>p.2 != .free||(sc.names.lookup p.1==some .cell||sc.names.lookup p.1==some .free))
 && decide (((a1p scope sc tids).ids.map (·.2)).Nodup)&&(tids.all fun p=>scope.names.lookup p.1==some .local||scope.names.lookup p.1==some .cell)&&tids.map (·.2)==is
noncomputable def b6a(s:Str)(ws:List Str):Bool:=decide (s.length≤e2f)&&decide ((Builtin.Str.spaceWords s (s.length+1)).length≤e2f) && !(Builtin.Str.spaceWords s (s.length+1)==[(0,s.length)])&&PySem.wordsOf s==ws
mutual
noncomputable def rbE:E→Expr→Expr
 |.int i,x=>.Constant (.int i) (xK x) (xP x)
 |.str s,x=>.Constant (.str s) (xK x) (xP x)
 |.bool b,x=>.Constant (.bool b) (xK x) (xP x)
 |.none,x=>.Constant .none (xK x) (xP x)
 |.var _,x=>rbN x
 |.gint y _,x=>b0p y x
 |.gstr y _,x=>b0p y x
 |.gfn _,x=>rbN x
 |.bin o a b,x=>.BinOp (rbE a (x1 x)) (c5o o) (rbE b (x2 x)) (xP x)
 |.not a,x=>.UnaryOp .Not (rbE a (x1 x)) (xP x)
 |.neg a,x=>.UnaryOp .USub (rbE a (x1 x)) (xP x)
 |.inv a,x=>.UnaryOp .Invert (rbE a (x1 x)) (xP x)
 |.and a b,x=>.BoolOp .And [rbE a (xa0 x),rbE b (xa1 x)] (xP x)
 |.or a b,x=>.BoolOp .Or [rbE a (xa0 x),rbE b (xa1 x)] (xP x)
 |.cmp o a b,x=>.Compare (rbE a (x1 x)) [a9a o] [rbE b (xa0 x)] (xP x)
 |.ite c a b,x=>.IfExp (rbE c (x1 x)) (rbE a (x2 x)) (rbE b (x3 x)) (xP x)
 |.idx a i,x=>.Subscript (rbE a (x1 x)) (rbE i (x2 x)) (xP x)
 |.sl a lo hi,x=>.Subscript (rbE a (x1 x)) (.Slice (rbO lo (xLo (x2 x))) (rbO hi (xHi (x2 x))) none (xP (x2 x))) (xP x)
 |.list es,x=>.List (a7a es (xs x)) (xP x)
 |.tup es,x=>.Tuple (a7a es (xs x)) (xK x) (xP x)
 |.comp g,x=>.ListComp (c4n g (x1 x)) (rbG g (xG x)) (xS x) (xP x)
 |.call _ es,x=>.Call (rbN (x1 x)) (a7a es (xs x)) [] (xP x)
 |.callV _ _ es,x=>.Call (rbN (x1 x)) (a7a es (xs x)) [] (xP x)
 |.callKw _ es ks kvs,x=>.Call (rbN (x1 x)) (a7a es (xs x)) (d7h kvs ks (xW x)) (xP x)
 |.isint e,x=>.Call (b0p "isinstance" (x1 x)) [rbE e (xa0 x),b0p "int" (xa1 x)] [] (xP x)
 |.bi b es,x=>.Call (b0p (b7y b) (x1 x)) (a7a es (xs x)) [] (xP x)
 |.me m a es,x=>.Call (.Attribute (rbE a (x1 (x1 x))) (meN m) (xP (x1 x))) (a7a es (xs x)) [] (xP x)
 |.words s _,x=>.Call (.Attribute (.Constant (.str s) (xK (x1 (x1 x))) (xP (x1 (x1 x)))) "split" (xP (x1 x))) [] [] (xP x)
 |.pop _ e,x=>.Call (.Attribute (rbN (x1 (x1 x))) "pop" (xP (x1 x))) [rbE e (xa0 x)] [] (xP x)
 |.pop0 _,x=>.Call (.Attribute (rbN (x1 (x1 x))) "pop" (xP (x1 x))) [] [] (xP x)
 |.next _,x=>.Call (b0p "next" (x1 x)) [rbN (xa0 x)] [] (xP x)
noncomputable def rbO:O→Expr→Option Expr
 |.none,_=>none
 |.some e,x=>some (rbE e x)
noncomputable def a7a:Es→List Expr→List Expr
 |.nil,_=>[]
 |.cons e es,l=>rbE e (xh l)::a7a es l.tail
noncomputable def d7h:Es→List Str→List Keyword→List Keyword
 |.nil,_,_=>[]
 |.cons e es,ks,l=>⟨some (hdS ks),rbE e (kV l),kP l⟩::d7h es ks.tail l.tail
noncomputable def c4n:G→Expr→Expr
 |.elt e,x=>rbE e x
 |.for _ _ g,x=>c4n g x
 |.forIf _ _ _ g,x=>c4n g x
noncomputable def rbG:G→List e1u→List e1u
 |.elt _,_=>[]
 |.for _ it g,l=>⟨cT l,rbI it (cI l),[],0⟩::rbG g l.tail
 |.forIf _ it c g,l=>⟨cT l,rbI it (cI l),[rbE c (cF l)],0⟩::rbG g l.tail
noncomputable def rbI:I→Expr→Expr
 |.over e,x=>rbE e x
 |.range e,x=>.Call (b0p "range" (x1 x)) [rbE e (xa0 x)] [] (xP x)
 |.range2 e f,x=>.Call (b0p "range" (x1 x)) [rbE e (xa0 x),rbE f (xa1 x)] [] (xP x)
 |.enum e,x=>.Call (b0p "enumerate" (x1 x)) [rbE e (xa0 x)] [] (xP x)
 |.zip e f,x=>.Call (b0p "zip" (x1 x)) [rbE e (xa0 x),rbE f (xa1 x)] [] (xP x)
 |.rev e,x=>.Call (b0p "reversed" (x1 x)) [rbE e (xa0 x)] [] (xP x)
end
noncomputable def c7c:Es→Bool|.nil=>false|_=>true
mutual
noncomputable def ckE(k:Ck)(hz:Bool)(sc:SI):E→Expr→Bool
 |.int _,_=>true
 |.str _,_=>true
 |.bool _,_=>true
 |.none,_=>true
 |.var i,x=>nmv sc (xN x) i
 |.gint y i,_=>a5x sc y&&k.gi.lookup y==some i
 |.gstr y i,_=>a5x sc y&&k.gs.lookup y==some i
 |.gfn f,x=>a5x sc (xN x)&&k.fname f==some (xN x)
 |.bin _ a b,x=>ckE k hz sc a (x1 x)&&ckE k hz sc b (x2 x)
 |.not a,x=>ckE k hz sc a (x1 x)
 |.neg a,x=>ckE k hz sc a (x1 x)
 |.inv a,x=>ckE k hz sc a (x1 x)
 |.and a b,x=>ckE k hz sc a (xa0 x)&&ckE k hz sc b (xa1 x)
 |.or a b,x=>ckE k hz sc a (xa0 x)&&ckE k hz sc b (xa1 x)
 |.cmp o a b,x=>!behindInMarks (a9a o) (rbE b (xa0 x))&&(ckE k hz sc a (x1 x)&&ckE k hz sc b (xa0 x))
 |.ite c a b,x=>b7t k hz sc c (x1 x)&&(ckE k hz sc a (x2 x)&&ckE k hz sc b (x3 x))
 |.idx a i,x=>ckE k hz sc a (x1 x)&&ckE k hz sc i (x2 x)
 |.sl a lo hi,x=>ckE k hz sc a (x1 x)&&(ckO k hz sc lo (xLo (x2 x))&&ckO k hz sc hi (xHi (x2 x)))
 |.list es,x=>decide ((a7a es (xs x)).length≤1000)&&b8b k hz sc es (xs x)
 |.tup es,x=>decide ((a7a es (xs x)).length≤1000)&&b8b k hz sc es (xs x)
 |.comp g,x=>c8o (xS x) sc (c6m g (rbG g (xG x))) g.ids&&e1c k hz sc (xS x) (c6m g (rbG g (xG x))) g (x1 x) (xG x)
 |.call f es,x=>c7c es&&(a5x sc (xN (x1 x))&&(k.fname f==some (xN (x1 x))&&b8b k hz sc es (xs x)))
 |.callV i f es,x=>c7c es&&(nmv sc (xN (x1 x)) i&&(k.fcl f&&b8b k hz sc es (xs x)))
 |.callKw f es ks kvs,x=>c7c es&&(a5x sc (xN (x1 x))&&(k.fname f==some (xN (x1 x))&&((d7h kvs ks (xW x)).map (·.arg)==ks.map some&&(b8b k hz sc es (xs x)&&d8g k hz sc kvs ks (xW x)))))
 |.isint e,x=>hz&&(a5x sc "isinstance" && (a5x sc "int" && ckE k hz sc e (xa0 x)))
 |.bi b es,x=>c7c es&&(hz&&(d5y b&&(a5x sc (b7y b)&&b8b k hz sc es (xs x))))
 |.me _ a es,x=>a4u (rbE a (x1 (x1 x)))&&((xP (x1 x)).endLine==(xP x).line&&(decide ((a7a es (xs x)).length≤20)&&(ckE k hz sc a (x1 (x1 x))&&b8b k hz sc es (xs x))))
 |.words s ws,x=>(xP (x1 x)).endLine==(xP x).line&&b6a s ws
 |.pop i e,x=>nmv sc (xN (x1 (x1 x))) i&&((xP (x1 x)).endLine==(xP x).line&&ckE k hz sc e (xa0 x))
 |.pop0 i,x=>nmv sc (xN (x1 (x1 x))) i&&(xP (x1 x)).endLine==(xP x).line
 |.next i,x=>a5x sc "next" && nmv sc (xN (xa0 x)) i
noncomputable def b7t(k:Ck)(hz:Bool)(sc:SI):E→Expr→Bool
 |.not a,x=>b7t k hz sc a (x1 x)
 |.and a b,x=>b7t k hz sc a (xa0 x)&&b7t k hz sc b (xa1 x)
 |.or a b,x=>b7t k hz sc a (xa0 x)&&b7t k hz sc b (xa1 x)
 |.cmp o a b,x=>!behindInMarks (a9a o) (rbE b (xa0 x))&&(ckE k hz sc a (x1 x)&&ckE k hz sc b (xa0 x))
 |.var i,x=>nmv sc (xN x) i
 |.idx a i,x=>ckE k hz sc a (x1 x)&&ckE k hz sc i (x2 x)
 |.bin _ a b,x=>ckE k hz sc a (x1 x)&&ckE k hz sc b (x2 x)
 |.call f es,x=>c7c es&&(a5x sc (xN (x1 x))&&(k.fname f==some (xN (x1 x))&&b8b k hz sc es (xs x)))
 |.isint e,x=>hz&&(a5x sc "isinstance" && (a5x sc "int" && ckE k hz sc e (xa0 x)))
 |.me _ a es,x=>a4u (rbE a (x1 (x1 x)))&&((xP (x1 x)).endLine==(xP x).line&&(decide ((a7a es (xs x)).length≤20)&&(ckE k hz sc a (x1 (x1 x))&&b8b k hz sc es (xs x))))
 |_,_=>false
noncomputable def ckO(k:Ck)(hz:Bool)(sc:SI):O→Expr→Bool
 |.none,_=>true
 |.some e,x=>ckE k hz sc e x
noncomputable def b8b(k:Ck)(hz:Bool)(sc:SI):Es→List Expr→Bool
 |.nil,_=>true
 |.cons e es,l=>ckE k hz sc e (xh l)&&b8b k hz sc es l.tail
noncomputable def d8g(k:Ck)(hz:Bool)(sc:SI):Es→List Str→List Keyword→Bool
 |.nil,ks,_=>ks.isEmpty
 |.cons e es,ks,l=>!ks.isEmpty&&(ckE k hz sc e (kV l)&&d8g k hz sc es ks.tail l.tail)
noncomputable def e1c(k:Ck)(hz:Bool)(sc:SI)(scope:Scope)(ts:List (Str×Nat)):G→Expr→List e1u→Bool
 |.elt _,_,_=>false
 |.for t it g,x,l=>ckT (a1p scope sc ts) t (cT l)&&(ckI k hz sc (cT l) it (cI l)&&ckG k hz (a1p scope sc ts) g x l.tail)
 |.forIf t it c g,x,l=>ckT (a1p scope sc ts) t (cT l)&&(ckI k hz sc (cT l) it (cI l)&&(b7t k hz (a1p scope sc ts) c (cF l)&&ckG k hz (a1p scope sc ts) g x l.tail))
noncomputable def ckG(k:Ck)(hz:Bool)(sc:SI):G→Expr→List e1u→Bool
 |.elt e,x,_=>ckE k hz sc e x
 |.for t it g,x,l=>ckT sc t (cT l)&&(ckI k hz sc (cT l) it (cI l)&&ckG k hz sc g x l.tail)
 |.forIf t it c g,x,l=>ckT sc t (cT l)&&(ckI k hz sc (cT l) it (cI l)&&(b7t k hz sc c (cF l)&&ckG k hz sc g x l.tail))
noncomputable def ckI(k:Ck)(hz:Bool)(sc:SI)(target:Expr):I→Expr→Bool
 |.over e,x=>a0l target&&ckE k hz sc e x
 |.range e,x=>hz&&(a0l target&&(a5x sc "range" && ckE k hz sc e (xa0 x)))
 |.range2 e f,x=>hz&&(a0l target&&(a5x sc "range" && (ckE k hz sc e (xa0 x)&&ckE k hz sc f (xa1 x))))
 |.enum e,x=>isK 25 target&&(a5x sc "enumerate" && ckE k hz sc e (xa0 x))
 |.zip e f,x=>hz&&(isK 25 target&&(a5x sc "zip" && (ckE k hz sc e (xa0 x)&&ckE k hz sc f (xa1 x))))
 |.rev e,x=>hz&&(a0l target&&(a5x sc "reversed" && ckE k hz sc e (xa0 x)))
end
end
section
section
variable {C:Cfg} {Γ:Ctx} {n:Nat} {hz:Bool} {k:Ck}
theorem a0z {sc:SI} (h:a5x sc x=true):sc.names.lookup x=some .globalImplicit∧(x==("__debug__" : Str))=false:=by
 simp only[a5x,Bool.and_eq_true,beq_iff_eq,Bool.not_eq_true']at h; exact h
theorem a3w {sc:SI} (h:nmv sc x i=true):sc.ids.lookup x=some i∧(x==("__debug__" : Str))=false∧(x==("__classdict__" : Str))=false:=by
 simp only[nmv,Bool.and_eq_true,beq_iff_eq,Bool.not_eq_true']at h; exact⟨h.1.1,h.1.2,h.2⟩
theorem a7b{sc:SI}{is:List Nat}(h:c8o scope sc tids is=true):CompOK scope sc tids is:=by
 have h3:=List.all_eq_true.mp (a0a (a0b (a0b (a0b h))));have h5:=List.all_eq_true.mp (a0a (a0b h));exact⟨beq_iff_eq.mp (a0b (a0b (a0b (a0b (a0b h))))),of_decide_eq_true (a0a (a0b (a0b (a0b (a0b h))))),fun p hp hf=>(Bool.or_eq_true_iff.mp (h3 p hp)).elim (fun k=>absurd hf (bne_iff_ne.mp k)) fun k=>(Bool.or_eq_true_iff.mp k).imp beq_iff_eq.mp beq_iff_eq.mp,
  of_decide_eq_true (a0a (a0b (a0b h))),fun p hp=>(Bool.or_eq_true_iff.mp (h5 p hp)).imp beq_iff_eq.mp beq_iff_eq.mp,beq_iff_eq.mp (a0a h)⟩
theorem c0m{s:Str}{ws:List Str}(h:b6a s ws=true):s.length≤e2f∧(Builtin.Str.spaceWords s (s.length+1)).length≤e2f∧(Builtin.Str.spaceWords s (s.length+1)==[(0,s.length)])=false∧PySem.wordsOf s=ws:=by
 simp only[b6a,Bool.and_eq_true,decide_eq_true_eq,Bool.not_eq_true',beq_iff_eq]at h;exact⟨h.1.1.1,h.1.1.2,h.1.2,h.2⟩
theorem b1t{a:Bool}(h:(!a)=true):a=false:=by cases a; rfl; cases h
theorem a3s(e:E)(x:Expr):a0j (rbE e x)=true:=by cases e <;> rfl
theorem b3d:∀(es:Es) (l:List Expr),(a7a es l).all a0j=true
 |.nil=>fun _=>rfl
 |.cons e es=>fun l=>by
  show(a0j (rbE e (xh l))&&(a7a es l.tail).all a0j)=true;rw[a3s,b3d es]; rfl
theorem b8o{es:Es}(h:c7c es=true)(l:List Expr):∃z zs,a7a es l=z::zs∧a0j z=true:=by
 cases es with
 |nil=>cases h
 |cons e es=>exact⟨_,_,rfl,a3s _ _⟩
theorem d5m{es:Es}(h:c7c es=true)(l:List Expr):a7a es l≠[]:=by
 cases es with
 |nil=>cases h
 |cons e es=>exact List.cons_ne_nil _ _
theorem a4s(it:I)(x:Expr)(env:Env)(v:e1n):foldedSetIterable (rbI it x) env v=pure v:=by
 cases it <;> first|rfl|(rename_i e; cases e <;> rfl)
theorem b5x(c:Const)(a:Nat)(p:Pos):a4u (.Constant c a p)=true:=rfl
theorem c9l{b:B}(h:d5y b=true):biX b=[]:=by cases b <;> first|rfl|cases h
noncomputable def d6k(gs:List e1u):Option Expr:=gs.head?.map (·.iter)
theorem a9y(g:G){pre l:List e1u}:b4m (pre++rbG g l) pre.length (d6k (rbG g l)):=by
 cases g with
 |elt e=>
  show(pre++[])[pre.length]?=none;simp
 |«for» t it gg=>exact⟨cT l,[],(by show(pre++_::_)[pre.length]?=_; simp),fun env x=>a4s it _ env x⟩
 |forIf t it c gg=>exact⟨cT l,[rbE c (cF l)],(by show(pre++(⟨cT l,rbI it (cI l),[rbE c (cF l)],0⟩:e1u)::_)[pre.length]?=_; simp),fun env x=>a4s it _ env x⟩
theorem c3j{t:T}{target iter elt:Expr}{pre rest:List e1u}{pos:Pos}{sc:SI}{tw:St→(Bool→St→Prop)→Prop}{gg gall:G}{it:I}(so:SIOK sc)(ht:ckT sc t target=true)(hp:0<pre.length)
 (hn:b4m ((pre++[Comprehension.mk target iter ifs 0])++rest) (pre++[Comprehension.mk target iter ifs 0]).length nxt) (hc:d2n C sc n hz tw ifs) (hg:c7g C Γ sc n hz gg elt ((pre++[Comprehension.mk target iter ifs 0])++rest) scope pos nxt (pre++[Comprehension.mk target iter ifs 0]).length) (hi:SIt C Γ sc n hz target it iter)
 (hw:∀st acc K,wpG Γ gall st acc K→wpI Γ it st fun ds st=>a1n (fun d st acc K=>bindT t d st fun st=>tw st fun b st=>if b=true then wpG Γ gg st acc K else K acc st) ds st acc K):c7g C Γ sc n hz gall elt (pre++Comprehension.mk target iter ifs 0::rest) scope pos (some iter) pre.length:=by
 obtain⟨d,hd⟩:∃d,pre.length=d+1:=⟨pre.length-1,by exact a0o (.e N0 (.p (.s N0 O1) O1)) (.t (.k 0) N0) hp⟩
 have e1:pre++Comprehension.mk target iter ifs 0::rest=(pre++[Comprehension.mk target iter ifs 0])++rest:=by simp
 rw[List.length_append,hd]at hn hg;rw[hd,e1];refine d4m so ht ?_ hn hc hg hi hw;rw[←hd]; simp
variable (Gd:Good C k) (Γok:a3q C Γ n)
include Gd Γok
mutual
theorem a0h:(e:E)→(sc:SI)→(x:Expr)→SIOK sc→ckE k hz sc e x=true→SE C Γ sc n hz e (rbE e x)
 |.int i=>fun sc x so h=>c0f
 |.str i=>fun sc x so h=>c8b
 |.bool i=>fun sc x so h=>d0d
 |.none=>fun sc x so h=>d0j
 |.var i=>fun sc x so h=>let k:=a3w h; c8a k.1 k.2.1 k.2.2
 |.gint y i=>fun sc x so h=>d2c Gd (beq_iff_eq.mp (a0a h)) (a0z (a0b h)).1 (a0z (a0b h)).2
 |.gstr y i=>fun sc x so h=>d2r Gd (beq_iff_eq.mp (a0a h)) (a0z (a0b h)).1 (a0z (a0b h)).2
 |.gfn f=>fun sc x so h=>d6i Gd (beq_iff_eq.mp (a0a h)) (a0z (a0b h)).1 (a0z (a0b h)).2
 |.bin o a b=>fun sc x so h=>c8m (a0h a sc _ so (a0b h)) (a0h b sc _ so (a0a h))
 |.not a=>fun sc x so h=>d5b (a0h a sc _ so h)
 |.neg a=>fun sc x so h=>c7r (a0h a sc _ so h)
 |.inv a=>fun sc x so h=>d3v (a0h a sc _ so h)
 |.and a b=>fun sc x so h=>d3m (a0h a sc _ so (a0b h)) (a0h b sc _ so (a0a h))
 |.or a b=>fun sc x so h=>d9f (a0h a sc _ so (a0b h)) (a0h b sc _ so (a0a h))
 |.cmp o a b=>fun sc x so h=>d6x (a0h a sc _ so (a0b (a0a h))) (a0h b sc _ so (a0a (a0a h))) (b1t (a0b h))
 |.ite c a b=>fun sc x so h=>d5i (a2o c sc _ so (a0b h)) (a0h a sc _ so (a0b (a0a h))) (a0h b sc _ so (a0a (a0a h)))
 |.idx a i=>fun sc x so h=>c8d (a0h a sc _ so (a0b h)) (a0h i sc _ so (a0a h))
 |.sl a lo hi=>fun sc x so h=>d8o (a0h a sc _ so (a0b h)) (c8v lo sc _ so (a0b (a0a h))) (c8v hi sc _ so (a0a (a0a h)))
 |.list es=>fun sc x so h=>d2e (a1r es sc _ so (a0a h)).1 (of_decide_eq_true (a0b h))
 |.tup es=>fun sc x so h=>d4x (a1r es sc _ so (a0a h)).1 (of_decide_eq_true (a0b h))
 |.comp (.elt _)=>fun sc x so h=>Bool.noConfusion (show false=true from a0a h)
 |.comp (.for t it g)=>fun sc x so h=>
  have ok:=a7b (a0b h)
  c2n so ok (a0b (a0a h)) (fun env x=>a4s it _ env x) (a9y g (pre:=[_])) (a8j it sc _ _ so (a0b (a0a (a0a h)))) a8b (a9n g _ _ [_] _ _ _ (a2k ok) (a0a (a0a (a0a h))) (Nat.succ_pos _)) (fun st acc K hw=>hw)
 |.comp (.forIf t it c g)=>fun sc x so h=>
  have ok:=a7b (a0b h)
  c2n so ok (a0b (a0a h)) (fun env x=>a4s it _ env x) (a9y g (pre:=[_])) (a8j it sc _ _ so (a0b (a0a (a0a h)))) (b1l (a2o c _ _ (a2k ok) (a0b (a0a (a0a (a0a h)))))) (a9n g _ _ [_] _ _ _ (a2k ok) (a0a (a0a (a0a (a0a h)))) (Nat.succ_pos _)) (fun st acc K hw=>hw)
 |.call f es=>fun sc x so h=>c2o Gd Γok (beq_iff_eq.mp (a0b (a0a (a0a h)))) (a0z (a0b (a0a h))).1 (a0z (a0b (a0a h))).2 (b8o (a0b h) _) (a1r es sc _ so (a0a (a0a (a0a h)))).2.1
 |.callV i f es=>fun sc x so h=>let k:=a3w (a0b (a0a h)); c6b Gd Γok (a0b (a0a (a0a h))) k.1 k.2.1 k.2.2 (b8o (a0b h) _) (a1r es sc _ so (a0a (a0a (a0a h)))).2.1
 |.callKw f es ks kvs=>fun sc x so h=>c1u Gd Γok (beq_iff_eq.mp (a0b (a0a (a0a h)))) (a0z (a0b (a0a h))).1 (a0z (a0b (a0a h))).2 (b8o (a0b h) _) (beq_iff_eq.mp (a0b (a0a (a0a (a0a h))))) (a1r es sc _ so (a0b (a0a (a0a (a0a (a0a h)))))).2.1 (c3x kvs ks sc _ so (a0a (a0a (a0a (a0a (a0a h))))))
 |.isint e=>fun sc x so h=>b7v Gd (a0b h) (a0z (a0b (a0a h))).1 (a0z (a0b (a0a (a0a h)))).1 (a3s _ _) (a0h e sc _ so (a0a (a0a (a0a h))))
 |.bi b es=>fun sc x so h=>d8a Gd (c9l (a0b (a0a (a0a h)))) (a0b (a0a h)) (a0z (a0b (a0a (a0a (a0a h))))).1 (b3d es _) (d5m (a0b h) _) (a1r es sc _ so (a0a (a0a (a0a (a0a h))))).2.2
 |.me m a es=>fun sc x so h=>d4f (m:=m) (nm:=meN m) (x:=rbE a (x1 (x1 x))) (xs:=a7a es (xs x)) (ap:=xP (x1 x)) (pos:=xP x) rfl (a0b h) (a0b (a0a h)) (b3d es _) (of_decide_eq_true (a0b (a0a (a0a h)))) (a0h a sc _ so (a0b (a0a (a0a (a0a h))))) (a1r es sc _ so (a0a (a0a (a0a (a0a h))))).2.2
 |.words s ws=>fun sc x so h=>by
  have w:=c0m (s:=s) (ws:=ws) (a0a h);have e:rbE (.words s ws) x=.Call (.Attribute (.Constant (.str s) (xK (x1 (x1 x))) (xP (x1 (x1 x)))) "split" (xP (x1 x))) [] [] (xP x):=rfl;rw[e];have l:((xP (x1 x)).endLine==(xP x).line)=true:=a0b h
  rcases w with⟨w1,w2,w3,w4⟩
  have hs:SE C Γ sc n hz (.str s) (.Constant (.str s) (xK (x1 (x1 x))) (xP (x1 (x1 x)))):=c8b;have hn:=b5x (.str s) (xK (x1 (x1 x))) (xP (x1 (x1 x)));generalize (Expr.Constant (.str s) (xK (x1 (x1 x))) (xP (x1 (x1 x))))=y at hs hn ⊢;exact c5i rfl hn l w1 w2 w3 w4 hs
 |.pop i e=>fun sc x so h=>let k:=a3w (a0b h); d3t k.1 k.2.1 k.2.2 (a0b (a0a h)) (a3s _ _) (a0h e sc _ so (a0a (a0a h)))
 |.pop0 i=>fun sc x so h=>let k:=a3w (a0b h); d0m k.1 k.2.1 k.2.2 (a0a h)
 |.next i=>fun sc x so h=>let k:=a3w (a0a h); d1z Gd (a0z (a0b h)).1 k.1 k.2.1 k.2.2
theorem a2o:(e:E)→(sc:SI)→(x:Expr)→SIOK sc→b7t k hz sc e x=true→ST C Γ sc n hz e (rbE e x)
 |.not a=>fun sc x so h=>d5p (a2o a sc _ so h)
 |.and a b=>fun sc x so h=>d6o (a2o a sc _ so (a0b h)) (a2o b sc _ so (a0a h))
 |.or a b=>fun sc x so h=>d8b (a2o a sc _ so (a0b h)) (a2o b sc _ so (a0a h))
 |.cmp o a b=>fun sc x so h=>d5d (a0h a sc _ so (a0b (a0a h))) (a0h b sc _ so (a0a (a0a h))) (b1t (a0b h))
 |.var i=>fun sc x so h=>let k:=a3w h; a4n rfl (c8a k.1 k.2.1 k.2.2) fun _ _=>d0l
 |.idx a i=>fun sc x so h=>a4n rfl (c8d (a0h a sc _ so (a0b h)) (a0h i sc _ so (a0a h))) fun _ _=>d1v
 |.bin o a b=>fun sc x so h=>a4n rfl (c8m (a0h a sc _ so (a0b h)) (a0h b sc _ so (a0a h))) fun _ _=>d0n
 |.call f es=>fun sc x so h=>a4n rfl (c2o Gd Γok (beq_iff_eq.mp (a0b (a0a (a0a h)))) (a0z (a0b (a0a h))).1 (a0z (a0b (a0a h))).2 (b8o (a0b h) _) (a1r es sc _ so (a0a (a0a (a0a h)))).2.1) fun _ _=>c5l
 |.isint e=>fun sc x so h=>a4n rfl (b7v Gd (a0b h) (a0z (a0b (a0a h))).1 (a0z (a0b (a0a (a0a h)))).1 (a3s _ _) (a0h e sc _ so (a0a (a0a (a0a h))))) fun _ _=>c0p
 |.me m a es=>fun sc x so h=>a4n rfl (d4f (m:=m) (nm:=meN m) (x:=rbE a (x1 (x1 x))) (xs:=a7a es (xs x)) (ap:=xP (x1 x)) (pos:=xP x) rfl (a0b h) (a0b (a0a h)) (b3d es _) (of_decide_eq_true (a0b (a0a (a0a h)))) (a0h a sc _ so (a0b (a0a (a0a (a0a h))))) (a1r es sc _ so (a0a (a0a (a0a (a0a h))))).2.2) fun _ _=>d3w
 |.int _=>fun sc x so h=>nomatch h
 |.str _=>fun sc x so h=>nomatch h
 |.bool _=>fun sc x so h=>nomatch h
 |.none=>fun sc x so h=>nomatch h
 |.gint _ _=>fun sc x so h=>nomatch h
 |.gstr _ _=>fun sc x so h=>nomatch h
 |.gfn _=>fun sc x so h=>nomatch h
 |.neg _=>fun sc x so h=>nomatch h
 |.inv _=>fun sc x so h=>nomatch h
 |.ite _ _ _=>fun sc x so h=>nomatch h
 |.sl _ _ _=>fun sc x so h=>nomatch h
 |.list _=>fun sc x so h=>nomatch h
 |.tup _=>fun sc x so h=>nomatch h
 |.comp _=>fun sc x so h=>nomatch h
 |.callV _ _ _=>fun sc x so h=>nomatch h
 |.callKw _ _ _ _=>fun sc x so h=>nomatch h
 |.bi _ _=>fun sc x so h=>nomatch h
 |.words _ _=>fun sc x so h=>nomatch h
 |.pop _ _=>fun sc x so h=>nomatch h
 |.pop0 _=>fun sc x so h=>nomatch h
 |.next _=>fun sc x so h=>nomatch h
theorem c8v:(e:O)→(sc:SI)→(x:Expr)→SIOK sc→ckO k hz sc e x=true→SO C Γ sc n hz e (rbO e x)
 |.none=>fun sc x so h=>d0o
 |.some e=>fun sc x so h=>d2m (a0h e sc x so h)
theorem a1r:(es:Es)→(sc:SI)→(l:List Expr)→SIOK sc→b8b k hz sc es l=true→SEs C Γ sc n hz es (a7a es l)∧SAs C Γ sc n hz es (a7a es l)∧SRs C Γ sc n hz es (a7a es l)
 |.nil=>fun sc l so h=>⟨c9d,d2l,d0q⟩
 |.cons e es=>fun sc l so h=>
  have i1:=a0h e sc _ so (a0b h);have i2:=a1r es sc _ so (a0a h)
  ⟨c7j (a3s _ _) i1 i2.1,c6w (a3s _ _) i1 i2.2.1,c5p (a3s _ _) i1 i2.2.2⟩
theorem c3x:(es:Es)→(ks:List Str)→(sc:SI)→(l:List Keyword)→SIOK sc→d8g k hz sc es ks l=true→SKs C Γ sc n hz ks es (d7h es ks l)
 |.nil,[]=>fun sc l so h=>c9z
 |.cons e es,[]=>fun sc l so h=>nomatch h
 |.nil,_::_=>fun sc l so h=>nomatch h
 |.cons e es,_::ks=>fun sc l so h=>c5e (a0h e sc _ so (a0b h)) (c3x es ks sc _ so (a0a h))
theorem a9n:(g:G)→(sc:SI)→(elt:Expr)→(pre l:List e1u)→(scope:Scope)→(pos:Pos)→SIOK sc→ckG k hz sc g elt l=true→0<pre.length→c7g C Γ sc n hz g (c4n g elt) (pre++rbG g l) scope pos (d6k (rbG g l)) pre.length
 |.elt e=>fun sc elt pre l scope pos so h hp=>d3c (a0h e sc elt so h)
 |.for t it gg=>fun sc elt pre l scope pos so h hp=>by
  have i4:=a9n gg sc elt (pre++[⟨cT l,rbI it (cI l),[],0⟩]) l.tail scope pos so (a0a (a0a h)) (by simp)
  have n4:=a9y gg (pre:=pre++[⟨cT l,rbI it (cI l),[],0⟩]) (l:=l.tail);exact c3j so (a0b h) hp n4 a8b i4 (a8j it sc _ _ so (a0b (a0a h))) fun st acc K hw=>hw
 |.forIf t it c gg=>fun sc elt pre l scope pos so h hp=>by
  have i4:=a9n gg sc elt (pre++[⟨cT l,rbI it (cI l),[rbE c (cF l)],0⟩]) l.tail scope pos so (a0a (a0a (a0a h))) (by simp)
  have n4:=a9y gg (pre:=pre++[⟨cT l,rbI it (cI l),[rbE c (cF l)],0⟩]) (l:=l.tail);exact c3j so (a0b h) hp n4 (b1l (a2o c sc _ so (a0b (a0a (a0a h))))) i4 (a8j it sc _ _ so (a0b (a0a h))) fun st acc K hw=>hw
theorem a8j:(it:I)→(sc:SI)→(target:Expr)→(x:Expr)→SIOK sc→ckI k hz sc target it x=true→SIt C Γ sc n hz target it (rbI it x)
 |.over e=>fun sc target x so h=>c7f (a0b h) (a0h e sc x so (a0a h))
 |.range e=>fun sc target x so h=>c2f Gd (a0b h) (a0b (a0a h)) (a0z (a0b (a0a (a0a h)))).1 (a3s _ _) (a0h e sc _ so (a0a (a0a (a0a h))))
 |.range2 e f=>fun sc target x so h=>b9a Gd (a0b h) (a0b (a0a h)) (a0z (a0b (a0a (a0a h)))).1 (a3s _ _) (a3s _ _) (a0h e sc _ so (a0b (a0a (a0a (a0a h))))) (a0h f sc _ so (a0a (a0a (a0a (a0a h)))))
 |.enum e=>fun sc target x so h=>by
  obtain⟨es,x1,p,e1⟩:=d7a (a0b h);rw[e1];exact c6r Gd (a0z (a0b (a0a h))).1 (a3s _ _) (a0h e sc _ so (a0a (a0a h)))
 |.zip e f=>fun sc target x so h=>by
  obtain⟨es,x1,p,e1⟩:=d7a (a0b (a0a h));rw[e1];exact d2h Gd (a0b h) (a0z (a0b (a0a (a0a h)))).1 (a3s _ _) (a3s _ _) (a0h e sc _ so (a0b (a0a (a0a (a0a h))))) (a0h f sc _ so (a0a (a0a (a0a (a0a h)))))
 |.rev e=>fun sc target x so h=>d2f Gd (a0b h) (a0b (a0a h)) (a0z (a0b (a0a (a0a h)))).1 (a3s _ _) (a0h e sc _ so (a0a (a0a (a0a h))))
end
end
end
section
section
variable {C:Cfg} {Γ:Ctx} {sc:SI} {n:Nat} {hz:Bool} {k:Ck}
theorem a8m{α:Type}{al al':List α}(h:al <+: al'){a:α}(e:al[j]?=some a):al'[j]?=some a:=by
 obtain⟨t,rfl⟩:=h;rw[List.getElem?_append_left]
 ·exact e
 ·exact(List.getElem?_eq_some_iff.mp e).1
theorem InV.al{g:Heap}{al al':List Addr}{v:e1n}{u:V}(h:al <+: al')(i:InV C g al v u):InV C g al' v u:=by
 cases u with
 |own j=>obtain⟨a,ha,e⟩:=i; exact⟨a,a8m h ha,e⟩
 |_=>exact i
structure SAft(C:Cfg)(sc:SI)(hz:Bool)(n:Nat)(A:e1x)(env:Env)(al:List Addr)(g:Heap)(s:e1m)(st:St)(al':List Addr)(g':Heap)(s':e1m)(st':St):Prop where
 pre:al <+: al'
 new:∀b∈al',b∈al∨s.heap.get? b=none
 sthz:st'.hz=st.hz
 here:Here C sc hz n A env g' s' al' st'
 step:Step (wr sc env++(al++C.TA)) s g s' g'
theorem FrOK.saft{g g':Heap}{s s':e1m}{al al':List Addr}(f:FrOK C A env g s.heap al)(x:Step (wr sc env++(al++C.TA)) s g s' g')(new:∀b∈al',b∈al∨s.heap.get? b=none):FrOK C A env g' s'.heap al':=by
 obtain⟨fs,h1,h2⟩:=f;obtain⟨fs',k1,k2⟩:=FrOK.step ⟨fs,h1,h2⟩ x fun b hb=>by
  rcases List.mem_append.mp hb with h|h
  ·exact .inl (a2g h)
  ·exact(List.mem_append.mp h).elim (fun h=>.inr (.inl h)) fun h=>.inr (.inr (.inl h))
 rw[h1.1]at k1; cases k1.1;refine⟨fs,h1,fun e he=>?_⟩;obtain⟨_,L,h4,h5⟩:=h2 e he;obtain⟨k3,L',k4,k5⟩:=k2 e he;rw[h4]at k4; cases k4;refine⟨k3,L,h4,?_⟩
 rcases h5 with h5|⟨a1,a2,a3,a4,o,es,ep,a5,a6⟩
 ·exact .inl h5
 ·rcases k5 with k5|⟨b1,b2,b3,b4,b5⟩
  ·exact .inl k5
  ·refine .inr ⟨b1,fun hm=>?_,b3,b4,b5⟩
   rcases new L hm with h|h
   ·exact a2 h
   ·rw[h]at a5; cases a5
def d7e(g:Heap):Fl→Flow→Prop
 |.next,.next=>True
 |.ret d,.ret v=>RD g v d
 |_,_=>False
theorem SAft.of{g g':Heap}{s s':e1m}{al:List Addr}{st st':St}(H:Here C sc hz n A env g s al st)(a:Aft C sc env al g s st g' s' st'):SAft C sc hz n A env al g s st al g' s' st':=
 ⟨List.prefix_refl _,fun b hb=>.inl hb,a.hz,H.go a,a.step.mono fun b hb=>List.mem_append_right _ hb⟩
theorem SAft.trans{g g' g'':Heap}{s s' s'':e1m}{al al' al'':List Addr}{st st' st'':St}(x:SAft C sc hz n A env al g s st al' g' s' st')(y:SAft C sc hz n A env al' g' s' st' al'' g'' s'' st'')(H:Here C sc hz n A env g s al st) :
  SAft C sc hz n A env al g s st al'' g'' s'' st'' where
 pre:=x.pre.trans y.pre
 new:=fun b hb=>by
  rcases y.new b hb with h|h
  ·exact x.new b h
  ·right
   cases e:s.heap.get? b with
   |none=>rfl
   |some o=>
    have halive:∃o',s'.heap.get? b=some o':=by
     by_cases hm:b∈wr sc env++(al++C.TA)
     ·rcases List.mem_append.mp hm with hw|hw
      ·exact x.here.rel.plt b (a2g hw)
      ·rcases List.mem_append.mp hw with ha|ha
       ·exact x.here.rel.alh b (x.pre.subset ha)
       ·obtain⟨_,o',ho',_⟩:=x.here.rel.tabs b ha; exact⟨o',ho'⟩
     ·exact(x.step.keep b o hm e).alive
    obtain⟨o',ho'⟩:=halive;rw[ho']at h; cases h
 sthz:=y.sthz.trans x.sthz
 here:=y.here
 step:=x.step.trans y.step fun b hb=>by
  rcases List.mem_append.mp hb with h|h
  ·exact .inl (List.mem_append_left _ h)
  ·rcases List.mem_append.mp h with h|h
   ·rcases x.new b h with h|h
    ·exact .inl (List.mem_append_right _ (List.mem_append_left _ h))
    ·exact .inr h
   ·exact .inl (List.mem_append_right _ (List.mem_append_right _ h))
def SS(C:Cfg)(Γ:Ctx)(sc:SI)(n:Nat)(hz:Bool)(S:S)(x:Stmt):Prop:=
 ∀(A:e1x) (env:Env) (g:Heap) (s:e1m) (al:List Addr) (st:St) (Eh:e1n→e1m→Prop) (Q:Fl→St→Prop) (Q':Flow→e1m→Prop),Here C sc hz n A env g s al st→wpS Γ C.toks S st Q→
  (∀fl f al' g' s' st',SAft C sc hz n A env al g s st al' g' s' st'→d7e g' fl f→Q fl st'→Q' f s')→e1p (model C.prog C.w) A (exec x env) Q' Eh s
def SSs(C:Cfg)(Γ:Ctx)(sc:SI)(n:Nat)(hz:Bool)(S:Ss)(x:List Stmt):Prop:=
 ∀(A:e1x) (env:Env) (g:Heap) (s:e1m) (al:List Addr) (st:St) (Eh:e1n→e1m→Prop) (Q:Fl→St→Prop) (Q':Flow→e1m→Prop),Here C sc hz n A env g s al st→a1f Γ C.toks S st Q→
  (∀fl f al' g' s' st',SAft C sc hz n A env al g s st al' g' s' st'→d7e g' fl f→Q fl st'→Q' f s')→e1p (model C.prog C.w) A (execs x env) Q' Eh s
theorem d2t:SSs C Γ sc n hz .nil []:=fun A env g s al st Eh Q Q' H hw kk=>wpAny_execs_nil (kk .next .next al g s st (SAft.of H (Aft.refl H.rel)) trivial hw)
theorem c5w{S:S}{Sr:Ss}{x:Stmt}{xs:List Stmt}(h:SS C Γ sc n hz S x)(h':SSs C Γ sc n hz Sr xs):SSs C Γ sc n hz (.cons S Sr) (x::xs):=fun A env g s al st Eh Q Q' H hw kk=>by
 refine e1t (h A env g s al st Eh _ _ H hw fun fl f al1 g1 s1 st1 a1 hf hw1=>?_);cases fl with
 |next=>
  cases f with
  |next=>exact h' A env g1 s1 al1 st1 Eh _ _ a1.here hw1 fun fl f al2 g2 s2 st2 a2 hf2 hq=>kk fl f al2 g2 s2 st2 (a1.trans a2 H) hf2 hq
  |_=>exact hf.elim
 |ret d=>
  cases f with
  |ret v=>exact kk (.ret d) (.ret v) al1 g1 s1 st1 a1 hf hw1
  |_=>exact hf.elim
theorem a3b{g g1:Heap}{s s1:e1m}{al al1:List Addr}{st st1:St}{u:V}{Q:Unit→e1m→Prop}(so:SIOK sc)(H:Here C sc hz n A env g s al st)
 (a:SAft C sc hz n A env al g s st al1 g1 s1 st1) (hx:a8t sc x i=true) (hv:InV C g1 al1 v u) (h:∀s2,SAft C sc hz n A env al g s st al1 g1 s2 (st1.set i u)→Q () s2):e1p (model C.prog C.w) A (storeName env x v) Q Eh s1:=
 a4k so a.here hx hv fun s2 x2 H2=>h s2 (a.trans ⟨List.prefix_refl _,fun b hb=>.inl hb,rfl,H2,x2.mono fun b hb=>List.mem_append_left _ hb⟩ H)
set_option backward.match.sparseCases false in
noncomputable def b2l:Expr→Bool
 |.ListComp ..=>false|.SetComp ..=>false|.DictComp ..=>false|_=>true
theorem a4b{x:Expr}{t:Option Expr}{l:Nat}(h:b2l x=true):swapsWith x t l env=pure false:=by
 cases x <;> first|rfl|cases h
theorem c1m{e:E}{p pos:Pos}(so:SIOK sc)(hx:a8t sc x i=true)(hc:b2l y=true)(h:SE C Γ sc n hz e y):SS C Γ sc n hz (.assign i e) (.Assign [.Name x p] y pos):=fun A env g s al st Eh Q Q' H hw kk=>by
 refine wpAny_Assign_Name (h A env g s al st Eh _ _ H hw fun v u st1 s1 g1 a1 i1 hw1=>?_) (a4b hc);exact a3b so H (SAft.of H a1) hx i1 fun s2 a2=>kk .next .next _ _ _ _ a2 trivial hw1
theorem a0v{s:e1m}{al:List Addr}{st:St}(R:Rel C sc env g s.heap al st){b:Addr}(hb:s.heap.get? b=none):b∉al∧b∉C.TA∧b∉a4o env:=by
 refine⟨fun hm=>?_,fun hm=>?_,fun hm=>?_⟩
 ·obtain⟨o,ho⟩:=R.alh b hm; rw[ho]at hb; cases hb
 ·obtain⟨_,o,ho,_⟩:=R.tabs b hm; rw[ho]at hb; cases hb
 ·obtain⟨o,ho⟩:=R.plt b hm; rw[ho]at hb; cases hb
theorem Rel.pushOwn{g h:Heap}{al:List Addr}{st:St}(R:Rel C sc env g h al st){D:Addr}{o:OV}(q:OwnOK g h D o)(h1:D∉al)(h2:D∉C.TA)(h3:D∉a4o env):Rel C sc env g h (al++[D]) (st.push o) where
 sub:=R.sub
 amb:=R.amb
 nd:=R.nd
 tabs:=R.tabs
 ns:=R.ns
 cell:=R.cell
 vars:=fun x i hi=>by
  rcases R.vars x i hi with h0|⟨v,hl,hv⟩
  ·exact .inl h0
  ·exact .inr ⟨v,hl,InV.al (List.prefix_append _ _) hv⟩
 olen:=by show(al++[D]).length=(st.own++[o]).length; simp[R.olen]
 own:=fun j o' e=>by
  have e:(st.own++[o])[j]?=some o':=e
  by_cases hj:j<st.own.length
  ·rw[List.getElem?_append_left hj]at e
   obtain⟨a,ha,q⟩:=R.own j o' e;exact⟨a,a8m (List.prefix_append _ _) ha,q⟩
  ·rw[List.getElem?_append_right (by omega)]at e
   have hj0:j-st.own.length=0:=by
    by_cases h0:j-st.own.length=0
    ·exact h0
    ·rw[List.getElem?_eq_none (by simp; exact a1b (.l O1 (.s N0 N1)) (.n (.e (.s N0 N1) (.k 0))) h0)]at e; cases e
   rw[hj0]at e;cases e;refine⟨D,?_,q⟩;rw[List.getElem?_append_right (by rw[R.olen]; omega),R.olen,hj0]; rfl
 alnd:=by
  rw[List.nodup_append];exact⟨R.alnd,by simp,fun a ha b hb e=>by simp at hb; subst hb; subst e; exact h1 ha⟩
 pnd:=R.pnd
 pgl:=R.pgl
 pgc:=R.pgc
 plt:=R.plt
 pal:=fun b hb hm=>by
  rcases List.mem_append.mp hm with h|h
  ·exact R.pal b hb h
  ·simp at h; subst h; exact h3 hb
 pta:=R.pta
 ata:=fun b hb=>by
  rcases List.mem_append.mp hb with h|h
  ·exact R.ata b h
  ·simp at h; subst h; exact h2
 base:=R.base.trans (List.prefix_append _ _)
theorem SAft.push{g g':Heap}{s s':e1m}{al al':List Addr}{st st':St}{D:Addr}{o:OV}(a:SAft C sc hz n A env al g s st al' g' s' st')(H:Here C sc hz n A env g s al st)(hD:s.heap.get? D=none)(hD':D∉al')(q:OwnOK g' s'.heap D o) :
  SAft C sc hz n A env al g s st (al'++[D]) g' s' (st'.push o) where
 pre:=a.pre.trans (List.prefix_append _ _)
 new:=fun b hb=>by
  rcases List.mem_append.mp hb with h|h
  ·exact a.new b h
  ·simp at h; subst h; exact .inr hD
 sthz:=a.sthz
 here:=⟨a.here.ok,a.here.hz,a.here.eok,a.here.rel.pushOwn q hD' (a0v H.rel hD).2.1 (a0v H.rel hD).2.2,H.fr.saft a.step fun b hb=>by
  rcases List.mem_append.mp hb with h|h
  ·exact a.new b h
  ·simp at h; subst h; exact .inr hD⟩
 step:=a.step
def SF(C:Cfg)(Γ:Ctx)(sc:SI)(n:Nat)(hz:Bool)(e:E)(x:Expr):Prop:=
 ∀(A:e1x) (env:Env) (g:Heap) (s:e1m) (al:List Addr) (st:St) (Eh:e1n→e1m→Prop) (Q:V→St→Prop) (Q':e1n→e1m→Prop),Here C sc hz n A env g s al st→wpE Γ e st Q→
  (∀(D:Addr) l st' s' g',Aft C sc env al g s st g' s' st'→s.heap.get? D=none→OwnOK g' s'.heap D (.lst l)→Q (.dat (.list l)) st'→Q' (.ref D) s')→e1p (model C.prog C.w) A (eval x env) Q' Eh s
theorem c9w{es:Es}{xs:List Expr}{pos:Pos}(h:SEs C Γ sc n hz es xs)(hl:xs.length≤1000):SF C Γ sc n hz (.list es) (.List xs pos):=fun A env g s al st Eh Q Q' H hw kk=>by
 refine List_ (h A env g s al st Eh pos _ _ _ H hw fun vs us st1 s1 g1 a1 r1 hlen hq=>?_);have hq:Q (.dat (.list us)) st1:=by simpa using hq
 refine wpAny_newList ?_ (by rw[hlen]; exact Nat.le_trans hl (by decide))
 have hp:(s1.heap.push { cls:=.type "list",data:=.seq vs.toArray }).get? s1.heap.objs.size=some { cls:=.type "list",data:=.seq vs.toArray }:=Heap.get?_push_size _ rfl;have ha:=a0e s1.heap;have x1:Step [] s1 g1 { s1 with heap:=s1.heap.push { cls:=.type "list",data:=.seq vs.toArray } } g1:=Step.ext (tk:=s1.toks) (a0f _)
 have a2:=(H.go a1).stay { s1 with heap:=s1.heap.push { cls:=.type "list",data:=.seq vs.toArray } } x1 (a1.rel.sub.trans (a0f _))
 exact kk _ us st1 _ g1 (a1.trans a2) (a1a a1 ha) ⟨a2y a1.rel.sub ha,vs,⟨0,hp⟩,r1⟩ hq
theorem d6d{es:Es}{b:E}{xs:List Expr}{lp pos:Pos}(h:SEs C Γ sc n hz es xs)(hl:xs.length≤1000)(hb:SE C Γ sc n hz b y):SF C Γ sc n hz (.bin .mul (.list es) b) (.BinOp (.List xs lp) .Mult y pos):=fun A env g s al st Eh Q Q' H hw kk=>by
 refine wpAny_BinOp (List_ (h A env g s al st Eh lp _ _ _ H hw fun vs us st1 s1 g1 a1 r1 hlen hq=>?_));refine wpAny_newList ?_ (by rw[hlen]; exact Nat.le_trans hl (by decide))
 have hp:(s1.heap.push { cls:=.type "list",data:=.seq vs.toArray }).get? s1.heap.objs.size=some { cls:=.type "list",data:=.seq vs.toArray }:=Heap.get?_push_size _ rfl;have ha:=a0e s1.heap;obtain⟨g2,x1,x2,x3⟩:=Step.grow (tk:=s1.toks) a1.rel.sub (a0f _) ha (fun o e _=>by rw[hp]at e; cases e; rfl)
 have a2:Aft C sc env al g1 s1 st1 g2 { s1 with heap:=s1.heap.push { cls:=.type "list",data:=.seq vs.toArray } } st1:=⟨rfl,rfl,a1.rel.step x1 x2,x1.nil⟩
 have hL:g2.IsList s1.heap.objs.size vs.toArray:=⟨_,x3.trans hp,rfl,0,rfl⟩;refine hb A env g2 _ al st1 Eh _ _ ((H.go a1).go a2) hq fun vb ub st3 s3 g3 a3 i3 hw3=>?_
 split at hw3
 ·rename_i x y ex ey
  have ex:some (PyData.list ([]++us))=some x:=ex;cases ex;rw[List.nil_append]at hw3;cases y with
  |int m=>
   obtain⟨⟨h1,h2,h3⟩,hq⟩:=hw3;obtain⟨u,rfl⟩:=RD.intE (a3.rel.dat? i3 ey);have hL3:=a0d a3.rel.sub (a0d a3.step.sub hL);refine b3u hL3 ((r1.mono x1.sub).mono a3.step.sub) h1 h3 (by exact a6c (.t Z0 (.z (Int.pow 2 63))) (.l Z0 (.z 1000000)) h2) _ fun D ws h' tk hk hD hP r=>?_
   have x4:Step [] s3 g3 { s3 with heap:=h',toks:=tk } g3:=Step.ext hk
   have a4:=(((H.go a1).go a2).go a3).stay { s3 with heap:=h',toks:=tk } x4 (a3.rel.sub.trans hk)
   exact kk D _ st3 _ g3 (a1.trans (a2.trans (a3.trans a4))) (a1a a1 (a1a a2 (a1a a3 hD))) ⟨a2y a3.rel.sub hD,ws,hP,r⟩ hq
  |_=>exact hw3.elim
 ·exact hw3.elim
theorem c6t {a:E} {x:Expr} {es:Es} {xs:List Expr} {ap pos:Pos} (hnm:("split" : Str)=nm) (hsup:a4u x=true) (hln:(ap.endLine==pos.line)=true) (hx:(xs.all a0j)=true) (hl:xs.length≤20)
 (ha:SE C Γ sc n hz a x) (hs:SRs C Γ sc n hz es xs):SF C Γ sc n hz (.me .split a es) (.Call (.Attribute x nm ap) xs [] pos):=fun A env g s al st Eh Q Q' H hw kk=>by
 subst hnm;obtain⟨f1,f2,f3⟩:=b6f .split;refine wpAny_Call_method_lateS (a1c hsup) (few hx hl) hln (ha A env g s al st Eh _ _ H hw fun va ua st1 s1 g1 a1 i1 hw1=>?_);obtain⟨hok,hw1⟩:=hw1;have hrec:∃d,st1.dat? ua=some d:=by
  cases e:st1.dat? ua with
  |none=>rw[e]at hok; exact hok.elim
  |some d=>exact⟨d,rfl⟩
 obtain⟨d,ed⟩:=hrec;obtain⟨t1,t2⟩:=c3b (a1.rel.dat? i1 ed) (c8w a1.rel i1 ed) (ed▸hok);refine⟨meT .split,meI .split,f1,f2,f3,t1,t2,a1l hx (hs A env g1 s1 al st1 Eh pos [] _ _ (H.go a1) hw1 fun vs us st2 s2 g2 a2 i2 hl2 hw2=>?_)⟩
 split at hw2
 ·rename_i d ds e1 e2
  obtain⟨sx,px,t,t',rfl,rfl,⟨h0,h1,h2⟩,hq⟩:=(b0q a2.rel i2 e2).str2 (a2.rel.dat? (i1.mono a2.step.sub) e1) hw2;refine b4a (g:=g2) h0 (Nat.le_trans h1 (by decide)) (Nat.le_trans h2 (by decide)) _ fun D ws h' tk sb hD hp r=>?_
  have x3:Step [] s2 g2 { s2 with heap:=h',toks:=tk } g2:=Step.ext sb
  have a3:=((H.go a1).go a2).stay { s2 with heap:=h',toks:=tk } x3 (a2.rel.sub.trans sb)
  exact kk D _ st2 _ g2 (a1.trans (a2.trans a3)) (a1a (a1.trans a2) hD) ⟨a2y a2.rel.sub hD,ws,hp,r⟩ hq
 ·exact hw2.elim
theorem b3j{e:E}{p pos:Pos}(so:SIOK sc)(hx:a8t sc x i=true)(hc:b2l y=true)(h:SF C Γ sc n hz e y):SS C Γ sc n hz (.assignOwn i e) (.Assign [.Name x p] y pos):=fun A env g s al st Eh Q Q' H hw kk=>by
 refine wpAny_Assign_Name (h A env g s al st Eh _ _ H hw fun D l st1 s1 g1 a1 hD q hw1=>?_) (a4b hc);have b1:=SAft.of H a1;have b2:=b1.push H hD (a0v H.rel hD).1 q;refine a3b so H b2 hx (u:=.own st1.own.length) ⟨D,?_,rfl⟩ fun s2 a2=>kk .next .next _ _ _ _ a2 trivial hw1;rw[←a1.rel.olen,List.getElem?_append_right (Nat.le_refl _),Nat.sub_self]; rfl
end
end
section
section
variable {C:Cfg} {Γ:Ctx} {sc:SI} {n:Nat} {hz:Bool} {k:Ck}
inductive SC(C:Cfg)(Γ:Ctx)(sc:SI)(n:Nat)(hz:Bool)(gall:G)(x:Expr):Prop
 |mk:∀elt target iter ifs rest scope pos,x=.ListComp elt (⟨target,iter,ifs,0⟩::rest) scope pos→(∀(p0:Pos) (A:e1x) (env:Env) (g:Heap) (s:e1m) (al:List Addr) (st:St) (Eh:e1n→e1m→Prop) (use:Option (e1n→Sem Unit)) (Q:e1l→St→Prop) (Q':e1n→e1m→Prop),
  Here C sc hz n A env g s al st→(wpG Γ gall (st.clr gall.ids) [] fun acc st'=>Q (.list acc) { st' with vars:=st.vars })→
  (∀(D L:Addr) acc s' g' st',Aft C sc env al g s st g' s' st'→s.heap.get? D=none→OwnOK g' s'.heap D (.lst acc)→s.heap.get? L=none→L≠D→(∃m,s'.heap.Ns L m)→g'.get? L=none→Q (.list acc) st'→
   compPost (model C.prog C.w) A Eh use Q' (.ref D) L (.ok .next) s')→
  e1p (model C.prog C.w) A (comprehension (.ListComp elt (⟨target,iter,ifs,0⟩::rest) scope pos) scope env p0 (newList []) false (eval iter env) use) Q' Eh s)→SC C Γ sc n hz gall x
theorem c4e(Gd:Good C k)(Γok:a3q C Γ n):(gall:G)→(x:Expr)→SIOK sc→ckE k hz sc (.comp gall) x=true→SC C Γ sc n hz gall (rbE (.comp gall) x)
 |.elt e=>fun x so h=>Bool.noConfusion (show false=true from a0a h)
 |.for t it g=>fun x so h=>⟨_,_,_,_,_,_,_,rfl,fun p0 A env g' s al st Eh use Q Q' H hw kk=>
  have ok:=a7b (a0b h)
  a7j so ok (a0b (a0a h)) (fun env x=>a4s it _ env x) (a9y g (pre:=[_])) (a8j Gd Γok it sc _ _ so (a0b (a0a (a0a h)))) a8b (a9n Gd Γok g _ _ [_] _ _ _ (a2k ok) (a0a (a0a (a0a h))) (Nat.succ_pos _)) (fun st acc K hw=>hw) A env g' s al st Eh use Q Q' H hw kk⟩
 |.forIf t it c g=>fun x so h=>⟨_,_,_,_,_,_,_,rfl,fun p0 A env g' s al st Eh use Q Q' H hw kk=>
  have ok:=a7b (a0b h)
  a7j so ok (a0b (a0a h)) (fun env x=>a4s it _ env x) (a9y g (pre:=[_])) (a8j Gd Γok it sc _ _ so (a0b (a0a (a0a h)))) (b1l (a2o Gd Γok c _ _ (a2k ok) (a0b (a0a (a0a (a0a h)))))) (a9n Gd Γok g _ _ [_] _ _ _ (a2k ok) (a0a (a0a (a0a (a0a h)))) (Nat.succ_pos _)) (fun st acc K hw=>hw) A env g' s al st Eh use Q Q' H hw kk⟩
theorem c1c{gall:G}{x:Expr}(h:SC C Γ sc n hz gall x):SF C Γ sc n hz (.comp gall) x:=fun A env g s al st Eh Q Q' H hw kk=>by
 obtain⟨elt,target,iter,ifs,rest,scope,pos,rfl,h⟩:=h;rw[eval_ListComp];refine h _ A env g s al st Eh none (fun d st=>Q (.dat d) st) Q' H hw fun D L acc s' g' st' a hDn q hLn hne hns hgL hq=>?_;obtain⟨m,hm⟩:=hns;refine⟨m,hm,fun h' hs=>?_⟩;obtain⟨x1,sb1⟩:=Step.one (tk:=s'.toks) a.rel.sub hgL hs;have R1:=a.rel.move x1 sb1 fun b hb=>by simp at hb; subst hb; exact a0v H.rel hLn
 have q1:=a2t q a.rel.sub x1 (by simp; exact fun e=>hne e.symm)
 exact kk D acc st' _ g' ⟨a.vars,a.hz,R1,a.step.trans x1 fun b hb=>by simp at hb; subst hb; exact .inr hLn⟩ hDn q1 hq
theorem b6m(x:Expr)(t:Str)(p:Pos)(l:Nat)(env:Env):swapsWith x (some (.Name t p)) l env=pure true∨swapsWith x (some (.Name t p)) l env=pure false:=by
 cases x with
 |ListComp elt gens scope pos=>
  show(pure (_:Bool):Sem Bool)=_∨(pure (_:Bool):Sem Bool)=_;generalize (env.blockKind==ScopeKind.function&&env.kindOf t==some NameKind.local&&p.line==(Expr.ListComp elt gens scope pos).pos.line && !(scope.names.any fun x=>match x with|(n,k)=>n==t&&(k==NameKind.local||k==NameKind.cell)))=b
  cases b
  ·exact .inr rfl
  ·exact .inl rfl
 |SetComp elt gens scope pos=>
  show(pure (_:Bool):Sem Bool)=_∨(pure (_:Bool):Sem Bool)=_;generalize (env.blockKind==ScopeKind.function&&env.kindOf t==some NameKind.local&&p.line==(Expr.SetComp elt gens scope pos).pos.line && !(scope.names.any fun x=>match x with|(n,k)=>n==t&&(k==NameKind.local||k==NameKind.cell)))=b
  cases b
  ·exact .inr rfl
  ·exact .inl rfl
 |DictComp k v gens scope pos=>
  show(pure (_:Bool):Sem Bool)=_∨(pure (_:Bool):Sem Bool)=_;generalize (env.blockKind==ScopeKind.function&&env.kindOf t==some NameKind.local&&p.line==(Expr.DictComp k v gens scope pos).pos.line && !(scope.names.any fun x=>match x with|(n,k)=>n==t&&(k==NameKind.local||k==NameKind.cell)))=b
  cases b
  ·exact .inr rfl
  ·exact .inl rfl
 |_=>exact .inr rfl
theorem c7o{g g':Heap}{s s':e1m}{al al':List Addr}{st st':St}{Q:e1m→Prop}(H:Here C sc hz n A env g s al st)(a:SAft C sc hz n A env al g s st al' g' s' st')(hLn:s.heap.get? L=none)(hLa:L∉al')
 (hns:∃m,s'.heap.Ns L m) (hgL:g'.get? L=none) (h:∀s2,SAft C sc hz n A env al g s st al' g' s2 st'→Q s2):∃m,s'.heap.Ns L m∧∀h',Heap.SameBut L s'.heap h'→Q { s' with heap:=h' }:=by
 obtain⟨m,hm⟩:=hns;refine⟨m,hm,fun h' hs=>h _ ?_⟩;obtain⟨x1,sb1⟩:=Step.one (tk:=s'.toks) a.here.rel.sub hgL hs;obtain⟨l1,l2,l3⟩:=a0v H.rel hLn;have R1:=a.here.rel.move x1 sb1 fun b hb=>by simp at hb; subst hb; exact⟨hLa,l2,l3⟩
 have xs:Step (wr sc env++(al++C.TA)) s g { s' with heap:=h' } g':=a.step.trans x1 fun b hb=>by simp at hb; subst hb; exact .inr hLn
 exact⟨a.pre,a.new,a.sthz,⟨a.here.ok,a.here.hz,a.here.eok,R1,H.fr.saft xs a.new⟩,xs⟩
theorem b8u{gall:G}{p pos:Pos}(so:SIOK sc)(hx:a8t sc x i=true)(h:SC C Γ sc n hz gall y)(he:SE C Γ sc n hz (.comp gall) y):SS C Γ sc n hz (.assign i (.comp gall)) (.Assign [.Name x p] y pos):=fun A env g s al st Eh Q Q' H hw kk=>by
 rcases b6m y x p pos.line env with hs|hs
 ·obtain⟨elt,target,iter,ifs,rest,scope,pos',rfl,h⟩:=h
  rw[exec_Assign_Name_used _ _ _ _ hs];refine e1k (e1y (e1k ?_));show e1p _ A (do let _ ←comprehension (.ListComp elt (⟨target,iter,ifs,0⟩::rest) scope pos') scope env _ (newList []) false (eval iter env) (some (assign (.Name x p) env))) _ _ s
  refine e1k (e1w (h _ A env g s al st Eh (some (assign (.Name x p) env)) (fun d st1=>Q .next (st1.set i (.dat d))) (fun _ s'=>Q' .next s') H hw fun D L acc s' g' st' a hDn q hLn hne hns hgL hq=>?_) (fun _ s' hq=>e1o (e1o hq)) fun _ _ e=>e);obtain⟨hgD,vs,⟨mm,hp⟩,r⟩:=q;obtain⟨g2,s1,s2,s3,s4,s5⟩:=a5o a.rel.sub D (fun o e _=>by rw[hp]at e; cases e; rfl)
  have x2:Step [D] s' g' s' g2:=⟨⟨s'.heap,s'.toks,rfl⟩,s1,fun _ _ _ e=>.of e,fun _=>s2,fun b o hb _ e=>(s4 b (by simpa using hb)).trans e,s5⟩
  have R2:=a.rel.move x2 s2 fun b hb=>by simp at hb; subst hb; exact a0v H.rel hDn
  have a2:Aft C sc env al g s st g2 s' st':=⟨a.vars,a.hz,R2,a.step.trans x2 fun b hb=>by simp at hb; subst hb; exact .inr hDn⟩
  have rd:RD g2 (.ref D) (.list acc):=RD.list ⟨_,s3.trans hp,rfl,mm,rfl⟩ (r.mono s1);refine wpAny_assign_Name (a4k so (H.go a2) hx (u:=.dat (.list acc)) rd fun s3' x3 H3=>?_);have b2:=SAft.of H a2;have b3:SAft C sc hz n A env al g s st al g2 s3' (st'.set i (.dat (.list acc))):=b2.trans ⟨List.prefix_refl _,fun b hb=>.inl hb,rfl,H3,x3.mono fun b hb=>List.mem_append_left _ hb⟩ H;have hL3:∃m,s3'.heap.Ns L m:=by
   obtain⟨m,hm⟩:=hns;refine⟨m,KeptIn.ns hm fun o e=>x3.keep L o (fun hm=>(a0v H.rel hLn).2.2 (a2g hm)) e⟩
  have hgL2:g2.get? L=none:=(s4 L hne).trans hgL;exact c7o H b3 hLn (a0v H.rel hLn).1 hL3 hgL2 fun s4' a4=>kk .next .next _ _ _ _ a4 trivial hq
 ·have hw':wpE Γ (.comp gall) st (fun v st=>Q .next (st.set i v)):=hw
  refine wpAny_Assign_Name (he A env g s al st Eh _ _ H hw' fun v u st1 s1 g1 a1 i1 hw1=>?_) hs;exact a3b so H (SAft.of H a1) hx i1 fun s2 a2=>kk .next .next _ _ _ _ a2 trivial hw1
theorem b0o{gall:G}{p pos:Pos}(so:SIOK sc)(hx:a8t sc x i=true)(h:SC C Γ sc n hz gall y):SS C Γ sc n hz (.assignOwn i (.comp gall)) (.Assign [.Name x p] y pos):=fun A env g s al st Eh Q Q' H hw kk=>by
 rcases b6m y x p pos.line env with hs|hs
 ·obtain⟨elt,target,iter,ifs,rest,scope,pos',rfl,h⟩:=h
  rw[exec_Assign_Name_used _ _ _ _ hs];refine e1k (e1y (e1k ?_));show e1p _ A (do let _ ←comprehension (.ListComp elt (⟨target,iter,ifs,0⟩::rest) scope pos') scope env _ (newList []) false (eval iter env) (some (assign (.Name x p) env))) _ _ s
  refine e1k (e1w (h _ A env g s al st Eh (some (assign (.Name x p) env)) (fun d st1=>match d with|.list l=>Q .next ((st1.push (.lst l)).set i (.own st1.own.length))|_=>False) (fun _ s'=>Q' .next s') H hw fun D L acc s' g' st' a hDn q hLn hne hns hgL hq=>?_) (fun _ s' hq=>e1o (e1o hq)) fun _ _ e=>e)
  have b2:=(SAft.of H a).push H hDn (a0v H.rel hDn).1 q;refine wpAny_assign_Name (a4k so b2.here hx (u:=.own st'.own.length) ⟨D,?_,rfl⟩ fun s3' x3 H3=>?_)
  ·rw[←a.rel.olen,List.getElem?_append_right (Nat.le_refl _),Nat.sub_self]; rfl
  have b3:SAft C sc hz n A env al g s st (al++[D]) g' s3' ((st'.push (.lst acc)).set i (.own st'.own.length)):=b2.trans ⟨List.prefix_refl _,fun b hb=>.inl hb,rfl,H3,x3.mono fun b hb=>List.mem_append_left _ hb⟩ H;have hL3:∃m,s3'.heap.Ns L m:=by
   obtain⟨m,hm⟩:=hns;refine⟨m,KeptIn.ns hm fun o e=>x3.keep L o (fun hm=>(a0v H.rel hLn).2.2 (a2g hm)) e⟩
  exact c7o H b3 hLn (fun hm=>(List.mem_append.mp hm).elim (a0v H.rel hLn).1 fun h=>hne (by simpa using h)) hL3 hgL fun s4' a4=>kk .next .next _ _ _ _ a4 trivial hq
 ·have hw':wpE Γ (.comp gall) st (fun v st=>match v with|.dat (.list l)=>Q .next ((st.push (.lst l)).set i (.own st.own.length))|_=>False):=hw
  refine wpAny_Assign_Name (c1c h A env g s al st Eh _ _ H hw' fun D l st1 s1 g1 a1 hD q hw1=>?_) hs;have b2:=(SAft.of H a1).push H hD (a0v H.rel hD).1 q;refine a3b so H b2 hx (u:=.own st1.own.length) ⟨D,?_,rfl⟩ fun s2 a2=>kk .next .next _ _ _ _ a2 trivial hw1;rw[←a1.rel.olen,List.getElem?_append_right (Nat.le_refl _),Nat.sub_self]; rfl
end
end
section
section
variable {C:Cfg} {Γ:Ctx} {sc:SI} {n:Nat} {hz:Bool} {k:Ck}
theorem d3g{e:E}{pos:Pos}(h:SE C Γ sc n hz e y):SS C Γ sc n hz (.ret e) (.Return (some y) pos):=fun A env g s al st Eh Q Q' H hw kk=>by
 refine wpAny_Return_some (h A env g s al st Eh _ _ H hw fun v u st1 s1 g1 a1 i1 hw1=>?_);obtain⟨d,st2,g2,e2,⟨z2,hw2⟩,r2,x2,R2⟩:=a1.rel.keepV i1 (a2i hw1);have a2:Aft C sc env al g1 s1 st1 g2 s1 st2:=⟨e2,z2,R2,x2⟩;exact kk (.ret d) (.ret v) al g2 s1 st2 (SAft.of H (a1.trans a2)) r2 hw2
theorem c2c{c:E}{m:Option Expr}{pos:Pos}(h:ST C Γ sc n hz c y):SS C Γ sc n hz (.assert c) (.Assert y m pos):=fun A env g s al st Eh Q Q' H hw kk=>by
 refine wpAny_Assert_holds (h A env g s al st Eh _ _ H hw fun b st1 s1 g1 a1 hw1=>?_);exact⟨hw1.1,kk .next .next al g1 s1 st1 (SAft.of H a1) trivial hw1.2⟩
theorem d7t{c:E}{t f:Ss}{ts fs:List Stmt}{pos:Pos}(hc:ST C Γ sc n hz c y)(ht:SSs C Γ sc n hz t ts)(hf:SSs C Γ sc n hz f fs):SS C Γ sc n hz (.ifs c t f) (.If y ts fs pos):=fun A env g s al st Eh Q Q' H hw kk=>by
 refine wpAny_If (hc A env g s al st Eh _ _ H hw fun b st1 s1 g1 a1 hw1=>?_);cases b with
 |true=>exact ht A env _ _ al _ Eh _ _ (H.go a1) hw1 fun fl f al2 g2 s2 st2 a2 h2 hq=>kk fl f al2 g2 s2 st2 ((SAft.of H a1).trans a2 H) h2 hq
 |false=>exact hf A env _ _ al _ Eh _ _ (H.go a1) hw1 fun fl f al2 g2 s2 st2 a2 h2 hq=>kk fl f al2 g2 s2 st2 ((SAft.of H a1).trans a2 H) h2 hq
theorem c8y{s:e1m}{al:List Addr}{st:St}{Q:e1n→e1m→Prop}(e:EnvOK sc env)(R:Rel C sc env g s.heap al st)(hi:sc.ids.lookup x=some i)(hu:st.get i ≠ .undef)
 (hc:(x==("__classdict__" : Str))=false) (h:∀v,InV C g al v (st.get i)→Q v s):e1p (model C.prog C.w) A (loadName env x) Q Eh s:=by
 rcases R.vars x i hi with h0|⟨v,hl,hv⟩
 ·exact absurd (h0 _ rfl) hu
 ·rcases hl with⟨hk,m,hn,hm⟩|⟨hk,c,hcl,hcell⟩
  ·exact e2g e.kind hk hn hm (h v hv)
  ·rcases hk with hk|hk
   ·exact wpAny_loadName_cell e.kind hk hcl hcell (h v hv)
   ·exact wpAny_loadName_free e.kind hk hcl hcell (h v hv) hc
theorem d5t {o:Op2} {e:E} {p pos:Pos} (so:SIOK sc) (hx:a8t sc x i=true) (hc:(x==("__classdict__" : Str))=false) (h:SE C Γ sc n hz e y):SS C Γ sc n hz (.aug i o e) (.AugAssign (.Name x p) (c5o o) y pos):=fun A env g s al st Eh Q Q' H hw kk=>by
 dsimp only[wpS]at hw
 split at hw
 ·rename_i d ed
  refine wpAny_AugAssign_Name (c8y H.eok H.rel (b0x hx) (by rw[ed]; simp) hc fun v hv=>?_)
  rw[ed]at hv;refine h A env g s al st Eh _ _ H hw fun va ua st1 s1 g1 a1 i1 hw1=>?_
  split at hw1
  ·rename_i x' ex
   have hv1:InV C g1 al v (.dat d):=InV.mono a1.step.sub hv;obtain⟨r,hq,ht⟩:=b2s (C:=C) (A:=A) (E:=Eh) a1.rel.sub (.of a1.rel.sub hv1) (a1.rel.dat? i1 ex) hw1;refine(H.go a1).to ht fun v2 s2 g2 a2 r2=>?_;exact a3b so H (SAft.of H (a1.trans a2)) hx (u:=.dat r) r2 fun s3 a3=>kk .next .next _ _ _ _ a3 trivial hq
  ·exact hw1.elim
 ·exact hw.elim
theorem a5e{s:e1m}{pos:Pos}{Q':Flow→e1m→Prop}(e:EnvOK sc env)(hc:b2l y=true)(h:e1p (model C.prog C.w) A (eval y env) (fun _ s'=>Q' .next s') Eh s):e1p (model C.prog C.w) A (exec (.Expr y pos) env) Q' Eh s:=by
 have hi:interactive env=false:=by unfold interactive; rw[e.kind]; rfl
 rw[exec_Expr env y pos hi (a4b hc)];exact e1k (e1y (e1k (e1w h (fun v s' h'=>wpAny_dropValue h') fun _ _ e=>e)))
theorem c3s {x nm:Str} {e:E} {p ap pos pos2:Pos} (hnm:("append" : Str)=nm) (hi:nmv sc x i=true) (hln:(ap.endLine==pos.line)=true) (hy:a0j y=true)
 (h:SE C Γ sc n hz e y):SS C Γ sc n hz (.append i e) (.Expr (.Call (.Attribute (.Name x p) nm ap) [y] [] pos) pos2):=fun A env g s al st Eh Q Q' H hw kk=>by
 obtain⟨n1,hi⟩:=a3w hi;dsimp only[wpS]at hw
 split at hw
 ·rename_i j ej
  obtain⟨⟨l,hl⟩,hw⟩:=hw;refine a5e H.eok rfl (wpAny_Call_method_lateS (a1c (o:=.Name x p) rfl) (few (by show(a0j y&&true)=true; rw[hy]; rfl) (by simp)) hln (a1h H.eok H.rel n1 (by rw[ej]; simp) hi.1 hi.2 fun v hv=>?_))
  rw[ej]at hv;obtain⟨a,rfl,ha,q⟩:=a3g H.rel hv hl;obtain⟨t1,t2⟩:=a6y q;subst hnm;refine⟨"list", "list.append",F.plainAttrs_list,F.slot_list_append,F.type_list_append,t1,t2,a1l (by show(a0j y&&true)=true; rw[hy]; rfl) (spliced_more (h A env g s al st Eh _ _ H hw fun va ua st1 s1 g1 a1 i1 hw1=>spliced_nil ?_) (a0g hy))⟩
  obtain⟨d,st2,g2,e2,⟨z2,hw2⟩,r2,x2,R2⟩:=a1.rel.keepV i1 (a2i hw1);have a2:Aft C sc env al g1 s1 st1 g2 s1 st2:=⟨e2,z2,R2,x2⟩
  split at hw2
  ·rename_i l1 el
   obtain⟨h1,hw2⟩:=hw2;obtain⟨b,hb,q1⟩:=R2.own j _ el;rw[ha]at hb; cases hb;refine a7d R2.sub q1 r2 h1 _ fun s' x sb q2=>?_;exact kk .next .next _ _ _ _ (SAft.of H (a1.trans (a2.trans (a2q R2 x sb ha q2)))) trivial hw2
  ·exact hw2.elim
 ·exact hw.elim
theorem b9l {x nm:Str} {p ap pos pos2:Pos} (hnm:("reverse" : Str)=nm) (hi:nmv sc x i=true) (hln:(ap.endLine==pos.line)=true):SS C Γ sc n hz (.reverse i) (.Expr (.Call (.Attribute (.Name x p) nm ap) [] [] pos) pos2):=fun A env g s al st Eh Q Q' H hw kk=>by
 obtain⟨n1,hi⟩:=a3w hi;dsimp only[wpS]at hw
 split at hw
 ·rename_i j ej
  split at hw
  ·rename_i l hl
   obtain⟨h1,hw⟩:=hw;refine a5e H.eok rfl (wpAny_Call_method_lateS (a1c (o:=.Name x p) rfl) (few rfl (by simp)) hln (a1h H.eok H.rel n1 (by rw[ej]; simp) hi.1 hi.2 fun v hv=>?_))
   rw[ej]at hv;obtain⟨a,rfl,ha,q⟩:=a3g H.rel hv hl;obtain⟨t1,t2⟩:=a6y q;subst hnm;refine⟨"list", "list.reverse",F.plainAttrs_list,F.slot_list_reverse,F.type_list_reverse,t1,t2,a1l rfl (spliced_nil ?_)⟩;refine b2f H.rel.sub q h1 _ fun s' x sb q2=>?_;exact kk .next .next _ _ _ _ (SAft.of H (a2q H.rel x sb ha q2)) trivial hw
  ·exact hw.elim
 ·exact hw.elim
noncomputable def d4w(j:Int)(x:Expr):Expr:=match j with
 |.ofNat k=>.Constant (.int k) (xK x) (xP x)
 |.negSucc k=>.UnaryOp .USub (.Constant (.int (k+1:Nat)) (xK (x1 x)) (xP (x1 x))) (xP x)
theorem d8h(j:Int)(x:Expr):SE C Γ sc n hz (.int j) (d4w j x):=by
 cases j with
 |ofNat k=>exact c0f
 |negSucc k=>exact fun A env g s al st Eh Q Q' H hw kk=>c7r (Γ:=Γ) c0f A env g s al st Eh Q Q' H hw kk
theorem c1f{j:Int}{p p2 pos:Pos}(hi:nmv sc x i=true)(hy:SE C Γ sc n hz (.int j) y):SS C Γ sc n hz (.delIdx i j) (.Delete [.Subscript (.Name x p) y p2] pos):=fun A env g s al st Eh Q Q' H hw kk=>by
 obtain⟨n1,hi⟩:=a3w hi;dsimp only[wpS]at hw
 split at hw
 ·rename_i m em
  split at hw
  ·rename_i l hl
   obtain⟨h1,hw⟩:=hw
   split at hw
   ·rename_i nn en
    refine wpAny_Delete (wpAny_deleteEach_cons (wpAny_delete_Subscript (a1h H.eok H.rel n1 (by rw[em]; simp) hi.1 hi.2 fun v hv=>?_)))
    rw[em]at hv;obtain⟨a,rfl,ha,q⟩:=a3g H.rel hv hl;refine hy A env g s al st Eh (fun v st'=>v=.dat (.int j)∧st'=st) _ H ⟨rfl,rfl⟩ fun va ua st1 s1 g1 a1 i1 hw1=>?_;obtain⟨rfl,rfl⟩:=hw1;obtain⟨t,rfl⟩:=RD.intE i1;obtain⟨b,hb,q1⟩:=a1.rel.own m _ hl;rw[ha]at hb; cases hb;refine b2k a1.rel.sub q1 h1.1 h1.2 en _ fun s' x sb q2=>wpAny_deleteEach_nil ?_;exact kk .next .next _ _ _ _ (SAft.of H (a1.trans (a2q a1.rel x sb ha q2))) trivial hw
   ·exact hw.elim
  ·exact hw.elim
 ·exact hw.elim
theorem c5h{x o i:Expr}{p:Pos}{l:Nat} :swapsWith x (some (.Subscript o i p)) l env=pure false:=by
 cases x <;> rfl
theorem c3k{ix e:E}{y z:Expr}{p p2 pos:Pos}(hi:nmv sc x i=true)(hv:SE C Γ sc n hz e z)(hx:SE C Γ sc n hz ix y):SS C Γ sc n hz (.setIdx i ix e) (.Assign [.Subscript (.Name x p) y p2] z pos):=fun A env g s al st Eh Q Q' H hw kk=>by
 obtain⟨n1,hi⟩:=a3w hi;refine wpAny_Assign_Subscript (hv A env g s al st Eh _ _ H hw fun va ua st1 s1 g1 a1 i1 hw1=>?_) c5h;obtain⟨d,st2,g2,e2,⟨z2,hw2⟩,r2,x2,R2⟩:=a1.rel.keepV i1 (a2i hw1);have a2:Aft C sc env al g1 s1 st1 g2 s1 st2:=⟨e2,z2,R2,x2⟩;have H2:=(H.go a1).go a2
 split at hw2
 ·rename_i j ej
  refine a1h H2.eok H2.rel n1 (by rw[ej]; simp) hi.1 hi.2 fun v hv=>?_
  rw[ej]at hv;obtain⟨a,ha,rfl⟩:=hv;refine hx A env g2 s1 al st2 Eh _ _ H2 hw2 fun vb ub st3 s3 g3 a3 i3 hw3=>?_
  split at hw3
  ·rename_i jj l e1 el
   obtain⟨h1,h2,hw3⟩:=hw3;obtain⟨b,hb,q1⟩:=a3.rel.own j _ el;rw[ha]at hb; cases hb;obtain⟨t,rfl⟩:=RD.intE (a3.rel.dat? i3 e1);refine a6k a3.rel.sub q1 h1 h2 (r2.mono a3.step.sub) _ fun s' x sb q2=>?_;exact kk .next .next _ _ _ _ (SAft.of H (a1.trans (a2.trans (a3.trans (a2q a3.rel x sb ha q2))))) trivial hw3
  ·exact hw3.elim
 ·exact hw2.elim
set_option backward.match.sparseCases false in
noncomputable def b0z:Expr→Bool|.Slice ..=>false|_=>true
theorem b9m{i:Expr}(h:b0z i=true):∀ov iv new,augStore i ov iv new=(do
  holding [new,ov,iv] (setItem ov iv new)
  release [new,ov,iv] []
  pure Flow.next):=fun ov iv new=>by cases i <;> first|rfl|cases h
theorem c0t{o:Op2}{ix e:E}{y z:Expr}{p p2 pos:Pos}(hi:nmv sc x i=true)(hs:b0z y=true)(hv:SE C Γ sc n hz e z)(hx:SE C Γ sc n hz ix y):SS C Γ sc n hz (.augIdx i ix o e) (.AugAssign (.Subscript (.Name x p) y p2) (c5o o) z pos):=fun A env g s al st Eh Q Q' H hw kk=>by
 obtain⟨n1,hi⟩:=a3w hi;dsimp only[wpS]at hw
 split at hw
 ·rename_i j ej
  refine wpAny_AugAssign_SubscriptAny (a1h H.eok H.rel n1 (by rw[ej]; simp) hi.1 hi.2 fun v hv'=>?_) (b9m hs)
  rw[ej]at hv';obtain⟨a,ha,rfl⟩:=hv';refine hx A env g s al st Eh _ _ H hw fun vb ub st1 s1 g1 a1 i1 hw1=>?_
  split at hw1
  ·rename_i jj l e1 el
   obtain⟨h1,hw1⟩:=hw1
   split at hw1
   ·rename_i d ed
    obtain⟨b,hb,q1⟩:=a1.rel.own j _ el;rw[ha]at hb; cases hb;obtain⟨t,rfl⟩:=RD.intE (a1.rel.dat? i1 e1);obtain⟨_,vs,⟨m,hp⟩,r⟩:=q1;obtain⟨ov,hov,rov⟩:=r.get ed;refine wpAny_getItem_list (l:=a) (items:=vs.toArray) (x:=ov) ⟨_,hp,rfl,m,rfl⟩ h1.1 (by exact a6c (.t Z0 (.z (Int.pow 2 63))) (.a (.l (.z 0) Z0) (.l Z0 (.z 1000000))) h1) (by simpa using hov) ?_
    refine hv A env g1 s1 al st1 Eh _ _ (H.go a1) hw1 fun vc uc st2 s2 g2 a2 i2 hw2=>?_
    split at hw2
    ·rename_i x' l2 ex el2
     obtain⟨h3,hw2⟩:=hw2;obtain⟨r',hq,ht⟩:=b2s (C:=C) (A:=A) (E:=Eh) a2.rel.sub (.of a2.rel.sub (rov.mono a2.step.sub)) (a2.rel.dat? i2 ex) hw2;refine((H.go a1).go a2).to ht fun v3 s3 g3 a3 r3=>?_;obtain⟨b,hb,q3⟩:=a3.rel.own j _ el2;rw[ha]at hb; cases hb;refine a6k a3.rel.sub q3 h1 h3 r3 _ fun s' x sb q4=>?_;exact kk .next .next _ _ _ _ (SAft.of H (a1.trans (a2.trans (a3.trans (a2q a3.rel x sb ha q4))))) trivial hq
    ·exact hw2.elim
   ·exact hw1.elim
  ·exact hw1.elim
 ·exact hw.elim
end
end
section
section
variable {C:Cfg} {Γ:Ctx} {sc:SI} {n:Nat} {hz:Bool} {k:Ck}
theorem b4b{E:e1n→e1m→Prop}{s:e1m}{t:Addr}{Q:List e1n→e1m→Prop}(hk:HOK A g)(sg:Sub g s.heap)(ht':s.heap.IsTuple t vs.toArray)
 (hQ:∀h',Sub s.heap h'→Q vs { s with heap:=h' }):e1p (model C.prog C.w) A (unpackItems (.ref t) vs.length none) Q E s:=by
 have hnew:∀b o,s.heap.get? b=some o→b≠s.heap.objs.size:=fun b o e=>Nat.ne_of_lt (Heap.lt_size e);have hgn:g.get? s.heap.objs.size=none:=a2y sg (a0e _);have hlen:vs.toArray.size=vs.length:=by simp
 have hlt:t≠s.heap.objs.size:=by obtain⟨o,ho,_⟩:=ht'; exact hnew _ _ ho
 unfold unpackItems;refine e1k ?_;unfold notIterableAtAll;refine e1k (wpAny_specialOf ht'.typeIs F.slot_tuple_iter.lookup ?_);refine e1o ?_;refine e1k (e1s (wpAny_pyIter_tuple ht' ?_));rw[←hlen];refine e1k (e1s (wpAny_draw_tuple hlt vs.toArray.size 0 _ _ ⟨_,Heap.get?_push_size _ rfl,rfl,rfl⟩ (ht'.push _) (by exact a3f (.l (.p (.k 0) N0) N0)) fun h₁ hit₁ hs₁=>?_))
 have hall:List.take vs.toArray.size (List.drop 0 vs.toArray.toList)=vs.toArray.toList:=by
  rw[List.drop_zero]; exact List.take_of_length_le (by simp)
 rw[hall];rw[if_neg (by simp)]
 have ht₁:h₁.IsTuple t vs.toArray:=(ht'.push _).extBut hs₁.extBut hlt;have sg₁:Sub g h₁:=fun b o e=>(hs₁.2 b (hnew b o (sg _ _ e))).trans (a0f _ _ _ (sg _ _ e));refine e1k (e1s (a2w hk sg₁ hgn hit₁ ht₁ (by simp) fun h₂ he₂=>?_))
 exact e1o (by simpa using hQ h₂ (fun b o e=>he₂ b o (hnew b o e) (hs₁.extBut b o (hnew b o e) (a0f _ _ _ e))))
noncomputable def a4p(st:St)(l:List (Nat×V)):St:=l.foldl (fun st p=>st.set p.1 p.2) st
noncomputable def b3w(sc:SI):List Nat→List Str→Bool
 |[],[]=>true
 |i::is,x::xs=>a8t sc x i&&b3w sc is xs
 |_,_=>false
theorem c6x{is:List Nat}:∀{xs:List Str},b3w sc is xs=true→is.length=xs.length:=by
 induction is with
 |nil=>intro xs h; cases xs with|nil=>rfl|cons _ _=>cases h
 |cons i is ih=>intro xs h; cases xs with
  |nil=>cases h
  |cons x xs=>dsimp only[b3w]at h; simp only[Bool.and_eq_true]at h; simp[ih h.2]
theorem c1x{is:List Nat} :∀{xs:List Str},b3w sc is xs=true→a8t sc x i=true→b3w sc (is++[i]) (xs++[x])=true:=by
 induction is with
 |nil=>intro xs h h2; cases xs with|nil=>dsimp only[b3w,List.nil_append]; simp[h2]|cons _ _=>cases h
 |cons j is ih=>intro xs h h2; cases xs with
  |nil=>cases h
  |cons y xs=>dsimp only[b3w,List.cons_append]at h ⊢; simp only[Bool.and_eq_true]at h ⊢; exact⟨h.1,ih h.2 h2⟩
theorem c6v{is:List Nat}:∀{xs:List Str},b3w sc is xs=true→b3w sc is.reverse xs.reverse=true:=by
 induction is with
 |nil=>intro xs h; cases xs with|nil=>rfl|cons _ _=>cases h
 |cons i is ih=>intro xs h; cases xs with
  |nil=>cases h
  |cons x xs=>dsimp only[b3w]at h; simp only[Bool.and_eq_true]at h; rw[List.reverse_cons,List.reverse_cons]; exact c1x (ih h.2) h.1
theorem InVs.snoc{al:List Addr}{us:List V}{u:V}(h:InVs C g al vs us)(i:InV C g al v u):InVs C g al (vs++[v]) (us++[u]):=h.append ⟨i,trivial⟩
theorem InVs.rev{al:List Addr}:∀{vs:List e1n} {us:List V},InVs C g al vs us→InVs C g al vs.reverse us.reverse
 |[],[]=>fun _=>trivial
 |v::vs,u::us=>fun h=>by rw[List.reverse_cons,List.reverse_cons]; exact(InVs.rev h.2).snoc h.1
 |[],_::_=>fun h=>h.elim
 |_::_,[]=>fun h=>h.elim
theorem InVs.of{al:List Addr}:∀{vs:List e1n} {ds:List e1l},RDs g vs ds→InVs C g al vs (ds.map .dat)
 |[],_,⟨_,h⟩=>by cases h; trivial
 |v::vs,_,h=>by obtain⟨d,r,rfl,h1,h2⟩:=h.cases; exact⟨h1,InVs.of h2⟩
theorem c3d(st:St){i j:Nat}(h:i≠j)(u v:V):(st.set i u).set j v=(st.set j v).set i u:=by
 unfold St.set;rw[List.set_comm _ _ h]
theorem c1e(l:List (Nat×V)):∀(st:St) (i:Nat) (u:V),i∉l.map (·.1)→a4p (st.set i u) l=(a4p st l).set i u:=by
 induction l with
 |nil=>intro st i u _; rfl
 |cons p r ih=>
  intro st i u h;rw[List.map_cons,List.mem_cons,not_or]at h;show a4p ((st.set i u).set p.1 p.2) r=(a4p (st.set p.1 p.2) r).set i u;rw[c3d st h.1,ih _ _ _ h.2]
theorem b3a(l m:List (Nat×V))(st:St):a4p st (l++m)=a4p (a4p st l) m:=List.foldl_append ..
theorem c2i(l:List (Nat×V)):∀st:St,(l.map (·.1)).Nodup→a4p st l.reverse=a4p st l:=by
 induction l with
 |nil=>intro st _; rfl
 |cons p r ih=>
  intro st h;rw[List.map_cons,List.nodup_cons]at h;rw[List.reverse_cons,b3a,ih st h.2];exact(c1e r st p.1 p.2 h.1).symm
theorem a7p{α β:Type}:∀(l:List α) (m:List β),l.length=m.length→(l.zip m).map (·.1)=l
 |[],_=>fun _=>rfl
 |a::l,[]=>fun h=>by cases h
 |a::l,b::m=>fun h=>by simp[a7p l m (by simpa using h)]
theorem d1w{α β:Type}(l:List α)(m:List β)(h:l.length=m.length):l.reverse.zip m.reverse=(l.zip m).reverse:=by
 induction l generalizing m with
 |nil=>simp
 |cons a l ih=>
  cases m with
  |nil=>cases h
  |cons b m=>
   have h:l.length=m.length:=by simpa using h
   rw[List.reverse_cons,List.reverse_cons,List.zip_append (by simpa using h),ih m h]
   simp
theorem a7k(so:SIOK sc){al:List Addr}(is:List Nat):∀{xs:List Str} {vs:List e1n} {us:List V} {g:Heap} {s:e1m} {st:St} {Q:Unit→e1m→Prop} (ts:List (e1n→Sem Unit)),
  (∀(j:Nat) x v Q s,xs[j]?=some x→(∀t,ts[j]?=some t→e1p (model C.prog C.w) A (storeName env x v) Q Eh s→e1p (model C.prog C.w) A (t v) Q Eh s))→ts.length=xs.length→
  b3w sc is xs=true→Here C sc hz n A env g s al st→InVs C g al vs us→is.length=us.length→
  (∀s',Step (wr sc env) s g s' g→Here C sc hz n A env g s' al (a4p st (is.zip us))→Q () s')→e1p (model C.prog C.w) A (assignInOrder ts vs) Q Eh s:=by
 induction is with
 |nil=>
  intro xs vs us g s st Q ts ht htl hc H r hl h;cases xs with
  |nil=>
   cases ts with
   |nil=>exact assignInOrder_nil (h s .refl H)
   |cons _ _=>cases htl
  |cons x r=>cases hc
 |cons i is ih=>
  intro xs vs us g s st Q ts ht htl hc H r hl h;cases xs with
  |nil=>cases hc
  |cons x xs=>
   dsimp only[b3w]at hc;simp only[Bool.and_eq_true]at hc;cases us with
   |nil=>cases hl
   |cons u us=>
    cases vs with
    |nil=>exact r.elim
    |cons v vs=>
     cases ts with
     |nil=>cases htl
     |cons t ts=>
      refine assignInOrder_cons (ht 0 x v _ s rfl t rfl (a4k (u:=u) so H hc.1 r.1 fun s' x' H'=>?_));refine ih ts (fun j y w Q s e t' e'=>ht (j+1) y w Q s (by simpa using e) t' (by simpa using e')) (by simpa using htl) hc.2 H' (r.2) (by simpa using hl) fun s2 x2 H2=>h s2 (x'.tr x2) H2
noncomputable def a2b:List Expr→Option (List Str)
 |[]=>some []
 |x::r=>if isK 23 x=true then(a2b r).map (xN x :: ·)else none
theorem b3v{x:Expr}{r:List Expr}{ns:List Str}(h:a2b (x::r)=some ns):∃y p m,x=.Name y p∧a2b r=some m∧ns=y::m:=by
 obtain⟨h1,h2⟩:=Option.ite_none_right_eq_some.mp h;obtain⟨y,p,rfl⟩:=c0l h1;obtain⟨m,h3,h4⟩:=Option.map_eq_some_iff.mp h2;exact⟨y,p,m,rfl,h3,h4.symm⟩
theorem a6h{env:Env}:∀{xs:List Expr} {ns:List Str},a2b xs=some ns→(assignEach xs env).length=ns.length∧(assignEach xs env).findIdx? (·.1)=none∧∀(j:Nat) x,ns[j]?=some x→∃p,((assignEach xs env).map (·.2))[j]?=some (assign (.Name x p) env)
 |[],ns,h=>by cases h; exact⟨rfl,rfl,fun j x e=>by simp at e⟩
 |x::r,ns,h=>by
  obtain⟨y,p,m,rfl,hm,rfl⟩:=b3v h;obtain⟨h1,h2,h3⟩:=a6h (env:=env) hm;refine⟨congrArg (· + 1) h1,a9f h2,fun j x e=>?_⟩;cases j with
  |zero=>cases e; exact⟨p,rfl⟩
  |succ j=>exact h3 j x e
theorem b3z(f:Expr→Option Str)(hf:∀y q,f (.Name y q)=some y∨f (.Name y q)=none):∀(xs:List Expr) (ns:List Str),a2b xs=some ns→((xs.filterMap f).length=xs.length→xs.filterMap f=ns)∧(xs.filterMap f).length≤xs.length:=by
 intro xs
 induction xs with
 |nil=>intro ns h; cases h; exact⟨fun _=>rfl,Nat.le_refl _⟩
 |cons x r ih=>
  intro ns h;obtain⟨y,q,m,rfl,hm,rfl⟩:=b3v h;obtain⟨e2,e3⟩:=ih m hm
  rcases hf y q with hc|hc
  ·rw[List.filterMap_cons,hc]
   exact⟨fun hl=>congrArg (y :: ·) (e2 (Nat.succ.inj hl)),Nat.succ_le_succ e3⟩
  ·rw[List.filterMap_cons,hc]
   exact⟨fun hl=>absurd (hl▸e3) (Nat.not_succ_le_self _),Nat.le_succ_of_le e3⟩
theorem c6u [Decidable c]{α:Type _}{n a r:α}(h:¬c→a=n∨a=r):(if c then n else a)=n∨(if c then n else a)=r:=by
 by_cases k:c
 ·exact .inl (if_pos k)
 ·rw[if_neg k]; exact h k
theorem e0x:∀(f q a b c:Bool),(f ||!q ||!a||b)=true→¬((!a||b||c)=true)→¬(f=true)→¬(q=true):=by decide
theorem e1g{m n:Nat}{e:Bool}(h:¬((m != n||e)=true)):m=n:=Decidable.of_not_not fun k=>h (by rw[bne_iff_ne.mpr k]; rfl)
theorem b1d{x1:Nat}{p:Pos}{ns:List Str}(hns:a2b ts=some ns)
 (hv:∀vs k p,value=.Tuple vs k p→(vs.all (foldedForSure 8) ||!vs.all (constantsAlone 8) ||!(ts.length==2||ts.length==3)||vs.length != ts.length)=true) :
  swappedStores [.Tuple ts x1 p] value env=pure none∨swappedStores [.Tuple ts x1 p] value env=pure (some ns):=by
 cases value with
 |Tuple vs k pp=>
  have hv:=hv vs k pp rfl;refine c6u (n:=pure none) (r:=pure (some ns)) fun h1=>c6u (n:=pure none) fun h2=>?_;refine c6u (n:=pure none) fun h3=>?_;have e2:=(b3z _ (fun y q=>by dsimp only; split <;> simp) ts ns hns).1 (e1g h3)
  refine c6u (n:=pure none) fun h4=>.inr ?_;rw[if_neg (e0x _ _ _ _ _ hv h1 h4)];exact congrArg (fun x=>pure (some x)) e2
 |_=>exact .inl rfl
end
end
section
section
variable {C:Cfg} {Γ:Ctx} {sc:SI} {n:Nat} {hz:Bool} {k:Ck}
theorem c4o{x:Expr}{x1:Nat}{p:Pos}{l:Nat} :swapsWith x (some (.Tuple ts x1 p)) l env=pure false:=by
 cases x <;> rfl
def d7w(C:Cfg)(sc:SI)(hz:Bool)(n:Nat)(A:e1x)(env:Env)(al:List Addr)(g:Heap)(s:e1m)(st:St)(Eh:e1n→e1m→Prop)(is:List Nat)(Q':Flow→e1m→Prop)(v:e1n)(s1:e1m):Prop:=
 ∃al1 g1 st1 us,SAft C sc hz n A env al g s st al1 g1 s1 st1∧is.length=us.length ∧
  (∀Q:List e1n→e1m→Prop,(∀vs h',Sub s1.heap h'→InVs C g1 al1 vs us→Q vs { s1 with heap:=h' })→e1p (model C.prog C.w) A (unpackItems v us.length none) Q Eh s1) ∧
  (∀s2,SAft C sc hz n A env al g s st al1 g1 s2 (a4p st1 (is.zip us))→Q' .next s2)
theorem a6l{x1:Nat}{p pos:Pos}{ns:List Str}{is:List Nat}{al:List Addr}{s:e1m}{st:St}{Q':Flow→e1m→Prop}(so:SIOK sc)(H:Here C sc hz n A env g s al st)
 (hns:a2b ts=some ns) (hck:b3w sc is ns=true) (hnd:is.Nodup)
 (hv:∀vs k p,value=.Tuple vs k p→(vs.all (foldedForSure 8) ||!vs.all (constantsAlone 8) ||!(ts.length==2||ts.length==3)||vs.length != ts.length)=true)
 (h:e1p (model C.prog C.w) A (eval value env) (d7w C sc hz n A env al g s st Eh is Q') Eh s):e1p (model C.prog C.w) A (exec (.Assign [.Tuple ts x1 p] value pos) env) Q' Eh s:=by
 rw[arm_exec_Assign];refine e1k (e1y (e1k (e2c (a:=false) (c4o (ts:=ts) (x1:=x1) (p:=p) (l:=pos.line) (env:=env)) ?_)));refine e1k (e1w h (fun v s1 h1=>?_) fun _ _ e=>e);obtain⟨al1,g1,st1,us,a1,hl,hu,hq⟩:=h1;have hlen:=c6x hck;have fin:∀h',Sub s1.heap h'→∀s2,SAft C sc hz n A env al g s st al1 g1 s2 (a4p st1 (is.zip us))→Q' .next s2:=fun _ _ s2 a=>hq s2 a;have step1:∀h',Sub s1.heap h'→SAft C sc hz n A env al g s st al1 g1 { s1 with heap:=h' } st1:=fun h' sb=>by
  have x1:Step [] s1 g1 { s1 with heap:=h' } g1:=Step.ext (tk:=s1.toks) sb
  have a2:=a1.here.stay { s1 with heap:=h' } x1 (a1.here.rel.sub.trans sb)
  exact a1.trans (SAft.of a1.here a2) H
 rcases b1d (env:=env) (x1:=x1) (p:=p) hns hv with hs|hs
 ·refine e1k (e2c hs ?_)
  show e1p _ _ (assignAll v [assign (.Tuple ts x1 p) env] >>= fun _=>pure Flow.next) _ _ _;refine e1k ?_;show e1p _ _ (assign (.Tuple ts x1 p) env v) _ _ _;rw[arm_assign_Tuple];refine e1k (e1y ?_);unfold unpack;obtain⟨e1,e2,e3⟩:=a6h (env:=env) hns;rw[e1,e2,←hlen,hl];refine e1k (e1s (hu _ fun vs h' sb hi=>?_));have a2:=step1 h' sb;refine a7k so is _ (fun j x v Q s e t et hh=>?_) (by simpa using e1) hck a2.here hi hl fun s' x' H'=>e1o (fin h' sb s' (a2.trans ⟨List.prefix_refl _,fun b hb=>.inl hb,?_,H',x'.mono fun b hb=>List.mem_append_left _ hb⟩ H))
  ·obtain⟨q,hq⟩:=e3 j x e
   rw[hq]at et;obtain rfl:=Option.some.inj et;exact wpAny_assign_Name hh
  ·have:∀(l:List (Nat×V)) (st:St),(a4p st l).hz=st.hz:=by
    intro l; induction l with
    |nil=>intro st; rfl
    |cons p r ih=>intro st; exact(ih _).trans rfl
   exact this _ _
 ·refine e1k (e2c hs ?_)
  unfold assignStores;refine e1k (wpAny_rule (e1k ?_));rw[←hlen,hl];refine hu _ fun vs h' sb hi=>?_;have a2:=step1 h' sb;refine e1k (a7k so is.reverse (xs:=ns.reverse) (us:=us.reverse) _ (fun j x v Q s e t et hh=>?_) (by simp) (c6v hck) a2.here hi.rev (by simpa using hl) fun s' x' H'=>e1o (fin h' sb s' (a2.trans ⟨List.prefix_refl _,fun b hb=>.inl hb,?_,?_,x'.mono fun b hb=>List.mem_append_left _ hb⟩ H)))
  ·rw[List.getElem?_map,e]at et
   obtain rfl:=Option.some.inj et;exact wpAny_bindName hh
  ·have:∀(l:List (Nat×V)) (st:St),(a4p st l).hz=st.hz:=by
    intro l; induction l with
    |nil=>intro st; rfl
    |cons p r ih=>intro st; exact(ih _).trans rfl
   exact this _ _
  ·rw[d1w is us hl,c2i _ _ (by rw[a7p is us hl]; exact hnd)]at H'
   exact H'
theorem d2g(l:List Nat)(ds:List e1l):∀st:St,a4p st (l.zip (ds.map .dat))=(l.zip ds).foldl (fun st p=>st.set p.1 (.dat p.2)) st:=by
 induction l generalizing ds with
 |nil=>intro st; rfl
 |cons i l ih=>
  intro st;cases ds with
  |nil=>rfl
  |cons d ds=>exact ih ds _
theorem b3r{x1:Nat}{p pos:Pos}{ns:List Str}{is:List Nat}{e:E}(so:SIOK sc)(hns:a2b ts=some ns)(hck:b3w sc is ns=true)(hnd:is.Nodup)
 (hv:∀vs k p,value=.Tuple vs k p→(vs.all (foldedForSure 8) ||!vs.all (constantsAlone 8) ||!(ts.length==2||ts.length==3)||vs.length != ts.length)=true)
 (h:SE C Γ sc n hz e value):SS C Γ sc n hz (.assignTup is e) (.Assign [.Tuple ts x1 p] value pos):=fun A env g s al st Eh Q Q' H hw kk=>by
 refine a6l so H hns hck hnd hv (h A env g s al st Eh _ _ H hw fun v u st1 s1 g1 a1 i1 hw1=>?_)
 split at hw1
 ·rename_i ds eds
  obtain⟨hl,hq⟩:=hw1;rw[Option.bind_eq_some_iff]at eds;obtain⟨d,ed,eds⟩:=eds;refine⟨al,g1,st1,ds.map .dat,SAft.of H a1,by simpa using hl,fun Q hQ=>?_,fun s2 a2=>kk .next .next _ _ _ _ a2 trivial ?_⟩
  ·rw[List.length_map]
   exact a5v (H.go a1).ok.handled a1.rel.sub (a1.rel.dat? i1 ed) eds fun vs h' sb r=>hQ vs h' sb (InVs.of r)
  ·rw[d2g]; exact hq
 ·exact hw1.elim
noncomputable def Ms.ids:Ms→List Nat
 |.nil=>[]
 |.own i _ r=>i::r.ids
 |.iter i _ r=>i::r.ids
def SMs(C:Cfg)(Γ:Ctx)(sc:SI)(n:Nat)(hz:Bool)(ms:Ms)(xs:List Expr):Prop:=
 ∀(A:e1x) (env:Env) (g:Heap) (s:e1m) (al:List Addr) (st:St) (Eh:e1n→e1m→Prop) (pos:Pos) (acc:List (Nat×V)) (Q:List (Nat×V)→St→Prop) (Q':List e1n→e1m→Prop),Here C sc hz n A env g s al st→wpMs Γ C.toks ms st acc Q→
  (∀vs bs al' g' s' st',SAft C sc hz n A env al g s st al' g' s' st'→InVs C g' al' vs (bs.map (·.2))→vs.length=xs.length→bs.map (·.1)=ms.ids→Q (acc++bs) st'→Q' vs s')→e1p (model C.prog C.w) A (spliced (e2e pos (e1z xs env))) Q' Eh s
theorem d1l:SMs C Γ sc n hz .nil []:=fun A env g s al st Eh pos acc Q Q' H hw kk=>spliced_nil (kk [] [] al g s st (SAft.of H (Aft.refl H.rel)) trivial rfl rfl ((List.append_nil acc).symm▸hw))
theorem d2o{e:E}{ms:Ms}{x:Expr}{xs:List Expr}(hx:a0j x=true)(h:SF C Γ sc n hz e x)(hr:SMs C Γ sc n hz ms xs):SMs C Γ sc n hz (.own i e ms) (x::xs):=fun A env g s al st Eh pos acc Q Q' H hw kk=>by
 refine spliced_more (h A env g s al st Eh _ _ H hw fun D l st1 s1 g1 a1 hD q hw1=>?_) (a0g hx);have b2:=(SAft.of H a1).push H hD (a0v H.rel hD).1 q;refine hr A env g1 s1 (al++[D]) _ Eh pos _ _ _ b2.here hw1 fun vs bs al2 g2 s2 st2 a2 i2 hl hid hq=>?_;refine kk _ ((i,.own st1.own.length)::bs) al2 g2 s2 st2 (b2.trans a2 H) ⟨⟨D,a8m a2.pre ?_,rfl⟩,i2⟩ (congrArg (· + 1) hl) (congrArg (i :: ·) hid) (by simpa using hq)
 rw[←a1.rel.olen,List.getElem?_append_right (Nat.le_refl _),Nat.sub_self]; rfl
theorem c6d{s:e1m}{l:List e1l}{Q:e1n→e1m→Prop}(sg:Sub g s.heap)(hv:RD g v (.list l))
 (h:∀(D:Addr) h',Sub s.heap h'→s.heap.get? D=none→OwnOK g h' D (.iter l)→Q (.ref D) { s with heap:=h' }):e1p (model C.prog C.w) A (call (.builtin "iter") [v]) Q Eh s:=by
 obtain⟨a,vs,rfl,hl,r⟩:=hv.listE;refine call_function_entry (by decide +kernel) (by decide +kernel) kdk_entry_iter (kdk_args_iter _) ?_
 unfold Builtin.«iter»;refine e1k (m:=someArgs "iter" 1 2 _) (e2c (a:=[Value.ref a]) (by first|rfl|kernel_rfl!) ?_)
 show e1p _ _ (pyIter (.ref a) >>= _) _ _ _;refine e1k (wpAny_pyIter_list (a0d sg hl) ?_);exact e1o ⟨_,rfl,h _ _ (a0f _) (a0e _) ⟨a2y sg (a0e _),a,vs,0,l,⟨_,Heap.get?_push_size _ rfl,rfl,rfl⟩,hl,r,rfl⟩⟩
theorem c7a {e:E} {ms:Ms} {x:Expr} {p pos':Pos} {xs:List Expr} (G:Good C k) (hk:sc.names.lookup ("iter" : Str)=some .globalImplicit) (hx:a0j x=true) (h:SE C Γ sc n hz e x) (hr:SMs C Γ sc n hz ms xs):SMs C Γ sc n hz (.iter i e ms) (.Call (.Name "iter" p) [x] [] pos'::xs):=fun A env g s al st Eh pos acc Q Q' H hw kk=>by
 refine spliced_more ?_ rfl;refine e2b (a1s G H hk (by decide) (by decide) (v:=.builtin "iter") rfl ?_)
 refine a2f (un1 hx) (by simp) (spliced_more (h A env g s al st Eh _ _ H hw fun v u st1 s1 g1 a1 i1 hw1=>spliced_nil ?_) (a0g hx))
 obtain⟨d,st2,g2,e2,⟨z2,hw2⟩,r2,x2,R2⟩:=a1.rel.keepV i1 (a2i hw1);have a2:Aft C sc env al g1 s1 st1 g2 s1 st2:=⟨e2,z2,R2,x2⟩
 split at hw2
 ·rename_i l
  refine c6d R2.sub r2 fun D h' sb hD q=>?_;have x3:Step [] s1 g2 { s1 with heap:=h' } g2:=Step.ext (tk:=s1.toks) sb
  have a3:=((H.go a1).go a2).stay { s1 with heap:=h' } x3 (R2.sub.trans sb)
  have hD0:s.heap.get? D=none:=a1a (a1.trans a2) hD;have b3:=(SAft.of H (a1.trans (a2.trans a3))).push H hD0 (a0v H.rel hD0).1 q;refine hr A env g2 _ (al++[D]) _ Eh pos _ _ _ b3.here hw2 fun vs bs al4 g4 s4 st4 a4 i4 hl hid hq=>?_;refine kk _ ((i,.own st2.own.length)::bs) al4 g4 s4 st4 (b3.trans a4 H) ⟨⟨D,a8m a4.pre ?_,rfl⟩,i4⟩ (congrArg (· + 1) hl) (congrArg (i :: ·) hid) (by simpa using hq)
  rw[←R2.olen,List.getElem?_append_right (Nat.le_refl _),Nat.sub_self]; rfl
 ·exact hw2.elim
theorem b6w{α β:Type}:∀(bs:List (α×β)),(bs.map (·.1)).zip (bs.map (·.2))=bs
 |[]=>rfl
 |(a,b)::r=>by simp[b6w r]
theorem c5m{x1 k1:Nat}{p p2 pos:Pos}{vs:List Expr}{ns:List Str}{ms:Ms}(so:SIOK sc)(hns:a2b ts=some ns)(hck:b3w sc ms.ids ns=true)(hnd:ms.ids.Nodup)
 (hv:(vs.all (foldedForSure 8) ||!vs.all (constantsAlone 8) ||!(ts.length==2||ts.length==3)||vs.length != ts.length)=true) (hl:vs.length≤1000)
 (h:SMs C Γ sc n hz ms vs):SS C Γ sc n hz (.multi ms) (.Assign [.Tuple ts x1 p] (.Tuple vs k1 p2) pos):=fun A env g s al st Eh Q Q' H hw kk=>by
 refine a6l so H hns hck hnd (fun vs' k' p' e=>by cases e; exact hv) (Tuple_ (h A env g s al st Eh _ [] _ _ H hw fun ws bs al1 g1 s1 st1 a1 i1 hlen hid hq=>?_))
 have hq:Q .next (a4p st1 bs):=by rw[List.nil_append]at hq; exact hq
 have hwl:ws.length=(bs.map (·.2)).length:=i1.len;refine wpAny_newTuple ?_ (by rw[hlen]; exact Nat.le_trans hl (by decide))
 have hp:(s1.heap.push { cls:=.type "tuple",data:=.seq ws.toArray }).get? s1.heap.objs.size=some { cls:=.type "tuple",data:=.seq ws.toArray }:=Heap.get?_push_size _ rfl;have x1:Step [] s1 g1 { s1 with heap:=s1.heap.push { cls:=.type "tuple",data:=.seq ws.toArray } } g1:=Step.ext (tk:=s1.toks) (a0f _)
 have a2:=a1.here.stay { s1 with heap:=s1.heap.push { cls:=.type "tuple",data:=.seq ws.toArray } } x1 (a1.here.rel.sub.trans (a0f _))
 refine⟨al1,g1,st1,bs.map (·.2),a1.trans (SAft.of a1.here a2) H,by rw[←hid]; simp,fun Q2 hQ=>?_,fun s2 a3=>kk .next .next _ _ _ _ a3 trivial ?_⟩
 ·rw[←hwl]
  exact b4b a1.here.ok.handled a2.rel.sub ⟨_,hp,rfl,0,rfl⟩ fun h' sb=>hQ ws h' sb i1
 ·rw[←hid,b6w]; exact hq
end
end
section
section
variable {C:Cfg} {Γ:Ctx} {sc:SI} {n:Nat} {hz:Bool} {k:Ck}
theorem b8x{s:e1m}{body:List Stmt}(I:Nat→e1m→Prop)
 (turn:∀n s,I n s→∃(P:e1m→Prop) (T:e1n→e1m→Prop),e1p (model C.prog C.w) A (pyNext it) (b7g C A (notedBy (model C.prog C.w) A env fun e s'=>R (.error e) s') target it P T) (notedBy (model C.prog C.w) A env fun e s'=>R (.error e) s') s ∧
 (∀s₁,P s₁→R (.ok .next) s₁)∧∀v s₂,T v s₂→e1p (model C.prog C.w) A (assign target env v) (fun _ s₃=>e1p (model C.prog C.w) A (execs body env) (fun f s₄=>match f with
 |.next=>∃m,m<n∧I m s₄
 |.cont=>∃m,m<n∧I m s₄
 |.brk=>R (.ok .next) s₄
 |.ret v=>R (.ok (.ret v)) s₄) (notedBy (model C.prog C.w) A env fun e s'=>R (.error e) s') s₃) (notedBy (model C.prog C.w) A env fun e s'=>R (.error e) s') s₂)
 (n:Nat) (h:I n s):codeAny (model C.prog C.w) A (.forLoop target it body [] env) R s:=by
 refine codeAny_forLoop_any I (fun n s hI=>?_) n h;obtain⟨P,T,h1,h2,h3⟩:=turn n s hI;refine e1w h1 (fun r s₁ hr=>?_) fun _ _ e=>e;cases r with
 |none=>exact wpAny_execs_nil (h2 s₁ hr)
 |some v=>exact e1w hr (fun _ s₂ h₂=>h3 v s₂ h₂) fun _ _ e=>e
inductive FI(C:Cfg)(sc:SI)(hz:Bool)(n:Nat)(A:e1x)(env:Env)(N:Nat)(al ws W:List Addr)(s1:e1m)(g1:Heap)(z:Bool)(IS:Nat→Heap→Heap→Prop)(P:Nat→St→Prop)(m:Nat)(s':e1m):Prop
 |mk:∀al' g' st' i,i+m=N→al <+: al'→(∀b∈al',b∈al∨s1.heap.get? b=none)→(∀b∈ws,b∉al')→st'.hz=z→Here C sc hz n A env g' s' al' st'→IS i g' s'.heap→Step W s1 g1 s' g'→P i st'→FI C sc hz n A env N al ws W s1 g1 z IS P m s'
theorem d6r{t:T}{target iter:Expr}{it:I}{b:Ss}{body:List Stmt}{pos:Pos}(so:SIOK sc)(ht:ckT sc t target=true)(hf:∀env x,foldedSetIterable iter env x=pure x)(hI:SIt C Γ sc n hz target it iter)(hb:SSs C Γ sc n hz b body) :
  SS C Γ sc n hz (.for t it b) (.For target iter body [] pos):=fun A env g s al st Eh Q Q' H hw kk=>by
 refine wpAny_For (hI A env g s al st Eh _ _ H hw fun I ws IS ds st1 s1 g1 a1 hit his hfr hw1=>?_) (fun x=>hf env x);have H1:=H.go a1
 let W:=ws++(wr sc env++(al++C.TA))
 have i1:∀b∈ws,b∈W:=fun b hb=>List.mem_append_left _ hb;have i2:∀b∈wr sc env++(al++C.TA),b∈W:=fun b hb=>List.mem_append_right _ hb;have i3:∀b∈wr sc env,b∈W:=fun b hb=>i2 b (List.mem_append_left _ hb);have wfr:∀b∈ws,b∉C.TA∧b∉a4o env:=fun b hb=>⟨(a0v H.rel (hfr b hb)).2.1,(a0v H.rel (hfr b hb)).2.2⟩;have wwr:∀b∈ws,b∉wr sc env:=fun b hb hm=>(wfr b hb).2 (a2g hm);refine b8x (FI C sc hz n A env ds.length al ws W s1 g1 st.hz IS fun i st'=>a6f (fun d st K=>bindT t d st fun st=>a1f Γ C.toks b st K) (ds.drop i) st' Q) (fun m s2 hI2=>?_) ds.length ⟨al,g1,st1,0,by exact a3f (.e (.p (.k 0) N0) N0),List.prefix_refl _,fun b hb=>.inl hb,fun b hb=>(a0v H.rel (hfr b hb)).1,a1.hz,H1,his,.refl,hw1⟩
 obtain⟨al2,g2,st2,i,hi,p2,n2,w2,z2,H2,is2,x2,hw2⟩:=hI2;have fin:∀(fl:Fl) (f:Flow) al' g' s' st',al <+: al'→(∀b∈al',b∈al∨s1.heap.get? b=none)→st'.hz=st.hz→Here C sc hz n A env g' s' al' st'→Step W s1 g1 s' g'→d7e g' fl f→Q fl st'→Q' f s':=fun fl f al' g' s' st' p' n' z' H' x' hf hq=>by
  refine kk fl f al' g' s' st' ⟨p',fun b hb=>?_,z',H',?_⟩ hf hq
  ·rcases n' b hb with h|h
   ·exact .inl h
   ·exact .inr (a1a a1 h)
  ·refine(a1.step.mono (W':=wr sc env++(al++C.TA)) fun b hb=>List.mem_append_right _ hb).trans x' fun b hb=>?_
   rcases List.mem_append.mp hb with h|h
   ·exact .inr (hfr b h)
   ·exact .inl h
 by_cases hlt:i<ds.length
 ·have e0:ds[i]?=some ds[i]:=List.getElem?_eq_getElem hlt
  rw[List.drop_eq_getElem_cons hlt]at hw2;have hw2:bindT t ds[i] st2 (fun st=>a1f Γ C.toks b st fun f st=>match f with
   |.next=>a6f (fun d st K=>bindT t d st fun st=>a1f Γ C.toks b st K) (ds.drop (i+1)) st Q
   |.ret r=>Q (.ret r) st):=hw2
  refine⟨fun _=>False,fun v s3=>∃g3,Step ws s2 g2 s3 g3∧Sub g3 s3.heap∧RD g3 v ds[i]∧IS (i+1) g3 s3.heap,?_,fun _ f=>f.elim,fun v s3 h3=>?_⟩
  ·refine e1w (hit.item i ds[i] s2 g2 (fun v s3=>∃g3,Step ws s2 g2 s3 g3∧Sub g3 s3.heap∧RD g3 v ds[i]∧IS (i+1) g3 s3.heap) _ e0 H2.rel.sub is2 fun v s3 g3 x3 sb3 r3 is3=>⟨g3,x3,sb3,r3,is3⟩) (fun r s3 h3=>?_) fun _ _ e=>e
   cases r with
   |none=>exact h3.elim
   |some v=>exact h3
  ·obtain⟨g3,x3,sb3,r3,is3⟩:=h3
   have H3:Here C sc hz n A env g3 s3 al2 st2:=⟨H2.ok.mono x3.sub,H2.hz,H2.eok,H2.rel.move x3 sb3 fun b hb=>⟨w2 b hb,(wfr b hb).1,(wfr b hb).2⟩,H2.fr.step x3 fun b hb=>.inr (.inr (.inr fun o ho=>b0t hit is2 hb ho))⟩;refine a9h so H3 ht r3 hw2 fun s4 st4 z4 x4 H4 hw4=>?_;have is4:=a3p hit is3 x4 wwr;refine hb A env g3 s4 al2 st4 _ _ _ H4 hw4 fun fl f al5 g5 s5 st5 a5 hf5 hq5=>?_;have x45:Step W s1 g1 s5 g5:=by
    refine((x2.tr (x3.mono i1)).tr (x4.mono i3)).trans a5.step fun b hb=>?_
    rcases List.mem_append.mp hb with h|h
    ·exact .inl (i3 b h)
    ·rcases List.mem_append.mp h with h|h
     ·rcases n2 b h with h|h
      ·exact .inl (i2 b (List.mem_append_right _ (List.mem_append_left _ h)))
      ·exact .inr h
     ·exact .inl (i2 b (List.mem_append_right _ (List.mem_append_right _ h)))
   have p5:=p2.trans a5.pre;have n5:∀b∈al5,b∈al∨s1.heap.get? b=none:=fun b hb=>by
    rcases a5.new b hb with h|h
    ·exact n2 b h
    ·right
     cases e:s1.heap.get? b with
     |none=>rfl
     |some o=>
      have halive:∃o',s4.heap.get? b=some o':=by
       by_cases hm:b∈W
       ·rcases List.mem_append.mp hm with hm|hm
        ·obtain⟨_,o',ho',_⟩:=hit.here _ _ _ is4 b hm; exact⟨o',ho'⟩
        ·rcases List.mem_append.mp hm with hm|hm
         ·exact H4.rel.plt b (a2g hm)
         ·rcases List.mem_append.mp hm with hm|hm
          ·exact H4.rel.alh b (p2.subset hm)
          ·obtain⟨_,o',ho',_⟩:=H4.rel.tabs b hm; exact⟨o',ho'⟩
       ·exact(((x2.tr (x3.mono i1)).tr (x4.mono i3)).keep b o hm e).alive
      obtain⟨o',ho'⟩:=halive;rw[ho']at h; cases h
   have w5:∀b∈ws,b∉al5:=fun b hb hm=>by
    rcases a5.new b hm with h|h
    ·exact w2 b hb h
    ·obtain⟨_,o',ho',_⟩:=hit.here _ _ _ is4 b hb; rw[ho']at h; cases h
   have z5:st5.hz=st.hz:=a5.sthz.trans (z4.trans z2);cases fl with
   |next=>
    cases f with
    |next=>
     refine⟨m-1,by exact a2a (.t (.s N0 O1) N0) (.e (.p N1 N0) N2) (.t N1 N2) hi hlt,.mk al5 g5 st5 (i+1) (by exact a2a (.e (.p (.p N0 O1) (.s N1 O1)) N2) (.e (.p N0 N1) N2) (.t N0 N2) hi hlt) p5 n5 w5 z5 a5.here ?_ x45 hq5⟩
     refine a3p hit is4 a5.step fun b hb hm=>?_
     rcases List.mem_append.mp hm with h|h
     ·exact wwr b hb h
     ·exact(List.mem_append.mp h).elim (w2 b hb) (wfr b hb).1
    |_=>exact hf5.elim
   |ret d=>
    cases f with
    |ret v=>exact fin (.ret d) (.ret v) al5 g5 s5 st5 p5 n5 z5 a5.here x45 hf5 hq5
    |_=>exact hf5.elim
 ·have ei:i=ds.length:=by exact a2a (.e N0 N1) (.e (.p N0 N2) N1) (.n (.t N0 N1)) hi hlt
  subst ei;rw[List.drop_length]at hw2;refine⟨fun s3=>Step ws s2 g2 s3 g2∧Sub g2 s3.heap,fun _ _=>False,?_,fun s3 h3=>?_,fun _ _ f=>f.elim⟩
  ·refine e1w (hit.done s2 g2 (fun s3=>Step ws s2 g2 s3 g2∧Sub g2 s3.heap) _ H2.rel.sub H2.ok.handled is2 fun s3 x3 sb3=>⟨x3,sb3⟩) (fun r s3 h3=>?_) fun _ _ e=>e
   cases r with
   |none=>exact h3
   |some v=>exact h3.elim
  ·obtain⟨x3,sb3⟩:=h3
   have H3:Here C sc hz n A env g2 s3 al2 st2:=⟨H2.ok,H2.hz,H2.eok,H2.rel.move x3 sb3 fun b hb=>⟨w2 b hb,(wfr b hb).1,(wfr b hb).2⟩,H2.fr.step x3 fun b hb=>.inr (.inr (.inr fun o ho=>b0t hit is2 hb ho))⟩;exact fin .next .next al2 g2 s3 st2 p2 n2 z2 H3 (x2.tr (x3.mono i1)) trivial hw2
theorem c6c{c:E}{b:Ss}{body:List Stmt}{pos:Pos}(hc:ST C Γ sc n hz c y)(hb:SSs C Γ sc n hz b body):SS C Γ sc n hz (.while c b) (.While y body [] pos):=fun A env g s al st Eh Q Q' H hw kk=>by
 obtain⟨m,hw⟩:=hw;refine wpAny_While (codeAny_whileLoop (fun m s'=>∃al' g' st',SAft C sc hz n A env al g s st al' g' s' st'∧a4h (fun st K=>wpT Γ c st K) (fun st K=>a1f Γ C.toks b st K) m st' Q) (fun m s1 hI=>?_) m ⟨al,g,st,SAft.of H (Aft.refl H.rel),hw⟩);obtain⟨al1,g1,st1,a1,hw1⟩:=hI;cases m with
 |zero=>exact hw1.elim
 |succ m=>
  refine hc A env g1 s1 al1 st1 _ _ _ a1.here hw1 fun t st2 s2 g2 a2 hw2=>?_;have b2:=a1.trans (SAft.of a1.here a2) H;cases t with
  |true=>
   refine hb A env g2 s2 al1 st2 _ _ _ (a1.here.go a2) hw2 fun fl f al3 g3 s3 st3 a3 hf3 hq3=>?_;have b3:=b2.trans a3 H;cases fl with
   |next=>
    cases f with
    |next=>exact⟨m,Nat.lt_succ_self m,al3,g3,st3,b3,hq3⟩
    |_=>exact hf3.elim
   |ret d=>
    cases f with
    |ret v=>exact kk (.ret d) (.ret v) al3 g3 s3 st3 b3 hf3 hq3
    |_=>exact hf3.elim
  |false=>exact wpAny_execs_nil (kk .next .next al1 g2 s2 st2 b2 trivial hw2)
end
end
section
set_option backward.match.sparseCases false
noncomputable def b0n:E→Bool|.comp _=>true|_=>false
noncomputable def a6z:E→Bool|.comp _=>true|.list _=>true|.me .split _ _=>true|.bin .mul (.list _) _=>true|_=>false
noncomputable def d1i(ts:List Expr):Expr→Bool
 |.Tuple vs _ _=>vs.all (foldedForSure 8) ||!vs.all (constantsAlone 8) ||!(ts.length==2||ts.length==3)||vs.length != ts.length
 |_=>true
noncomputable def sV:Stmt→Expr|.Assign _ v _=>v|.AugAssign _ _ v _=>v|.Return (some v) _=>v|.Expr v _=>v|.If t _ _ _=>t|.While t _ _ _=>t|.For _ it _ _ _=>it|.Assert t _ _=>t|_=>default
noncomputable def sT:Stmt→Expr|.Assign l _ _=>xh l|.AugAssign t _ _ _=>t|.For t _ _ _ _=>t|.Delete l _=>xh l|_=>default
noncomputable def sP:Stmt→Pos|.Assign _ _ p=>p|.AugAssign _ _ _ p=>p|.Return _ p=>p|.Expr _ p=>p|.If _ _ _ p=>p|.While _ _ _ p=>p|.For _ _ _ _ p=>p|.Assert _ _ p=>p|.Delete _ p=>p|.Try _ _ _ _ p=>p|.FunctionDef _ _ _ _ _ _ _ _ _ p=>p|.Raise _ _ p=>p|_=>default
noncomputable def sB:Stmt→List Stmt|.If _ l _ _=>l|.While _ l _ _=>l|.For _ _ l _ _=>l|.Try l _ _ _ _=>l|.FunctionDef _ _ l _ _ _ _ _ _ _=>l|_=>[]
noncomputable def sE:Stmt→List Stmt|.If _ _ l _=>l|_=>[]
noncomputable def sM:Stmt→Option Expr|.Assert _ m _=>m|_=>none
noncomputable def hE(l:List ExceptHandler):Expr:=match l with|.ExceptHandler (some e) _ _ _::_=>e|_=>default
noncomputable def hB(l:List ExceptHandler):List Stmt:=match l with|.ExceptHandler _ _ b _::_=>b|_=>[]
noncomputable def hP(l:List ExceptHandler):Pos:=match l with|.ExceptHandler _ _ _ p::_=>p|_=>default
noncomputable def sH:Stmt→List ExceptHandler|.Try _ h _ _ _=>h|_=>[]
noncomputable def sh(l:List Stmt):Stmt:=match l with|x::_=>x|[]=>default
noncomputable def c8e (x:Stmt):Stmt:=.Assign [rbN (sT x)] (.DictComp (b0p "number" (x1 (sV x))) (b0p "sign" (x2 (sV x))) [⟨.Tuple [b0p "sign" (xa0 (cT (xG (sV x)))),b0p "number" (xa1 (cT (xG (sV x))))] (xK (cT (xG (sV x)))) (xP (cT (xG (sV x)))),
 .Call (.Attribute (b0p "EXACT_TOKEN_TYPES" (x1 (x1 (cI (xG (sV x)))))) "items" (xP (x1 (cI (xG (sV x)))))) [] [] (xP (cI (xG (sV x)))),[],0⟩] (xS (sV x)) (xP (sV x))) (sP x)
noncomputable def c0x (sc:SI) (i:Nat) (y:Str) (scope:Scope):Bool:=a8t sc y i&&(a5x sc "EXACT_TOKEN_TYPES" && (scope.kind==ScopeKind.function&&((scope.names.all fun p=>p.2 != NameKind.free&&p.2 != NameKind.cell)&&(scope.names.lookup ("number" : Str)==some NameKind.local&&(scope.names.lookup ("sign" : Str)==some NameKind.local
  && (decide ((scope.names.map (·.1)).Nodup)&&sc.names.lookup y==some NameKind.cell))))))
noncomputable def c2z:List Nat→List Expr→List Expr
 |[],l=>.Call (b0p "_parse_varint" (x1 (xh l))) [rbN (xa0 (xh l))] [] (xP (xh l))::l.tail
 |_::p,l=>rbN (xh l)::c2z p l.tail
noncomputable def c1a(sc:SI)(i:Nat):List Nat→List Expr→Bool
 |[],l=>nmv sc (xN (xa0 (xh l))) i
 |j::p,l=>nmv sc (xN (xh l)) j&&c1a sc i p l.tail
mutual
noncomputable def rbS:S→Stmt→Stmt
 |.assign _ e,x=>.Assign [rbN (sT x)] (rbE e (sV x)) (sP x)
 |.assignOwn _ e,x=>.Assign [rbN (sT x)] (rbE e (sV x)) (sP x)
 |.assignTup _ e,x=>.Assign [.Tuple (xs (sT x)) (xK (sT x)) (xP (sT x))] (rbE e (sV x)) (sP x)
 |.multi ms,x=>.Assign [.Tuple (xs (sT x)) (xK (sT x)) (xP (sT x))] (.Tuple (d2v ms (xs (sV x))) (xK (sV x)) (xP (sV x))) (sP x)
 |.setIdx _ ix e,x=>.Assign [.Subscript (rbN (x1 (sT x))) (rbE ix (x2 (sT x))) (xP (sT x))] (rbE e (sV x)) (sP x)
 |.augIdx _ ix o e,x=>.AugAssign (.Subscript (rbN (x1 (sT x))) (rbE ix (x2 (sT x))) (xP (sT x))) (c5o o) (rbE e (sV x)) (sP x)
 |.aug _ o e,x=>.AugAssign (rbN (sT x)) (c5o o) (rbE e (sV x)) (sP x)
 |.ifs c t f,x=>.If (rbE c (sV x)) (a4q t (sB x)) (a4q f (sE x)) (sP x)
 |.ret e,x=>.Return (some (rbE e (sV x))) (sP x)
 |.append _ e,x=>.Expr (.Call (.Attribute (rbN (x1 (x1 (sV x)))) "append" (xP (x1 (sV x)))) [rbE e (xa0 (sV x))] [] (xP (sV x))) (sP x)
 |.reverse _,x=>.Expr (.Call (.Attribute (rbN (x1 (x1 (sV x)))) "reverse" (xP (x1 (sV x)))) [] [] (xP (sV x))) (sP x)
 |.delIdx _ j,x=>.Delete [.Subscript (rbN (x1 (sT x))) (d4w j (x2 (sT x))) (xP (sT x))] (sP x)
 |.for _ it b,x=>.For (sT x) (rbI it (sV x)) (a4q b (sB x)) [] (sP x)
 |.while c b,x=>.While (rbE c (sV x)) (a4q b (sB x)) [] (sP x)
 |.assert c,x=>.Assert (rbE c (sV x)) (sM x) (sP x)
 |.tryStop pre _ h,x=>.Try [.Return (some (.List (c2z pre (xs (sV (sh (sB x))))) (xP (sV (sh (sB x)))))) (sP (sh (sB x)))] [.ExceptHandler (some (b0p "StopIteration" (hE (sH x)))) none (a4q h (hB (sH x))) (hP (sH x))] [] [] (sP x)
 |.toks _,x=>c8e x
 |.expr e,x=>.Expr (rbE e (sV x)) (sP x)
 |.retNone,x=>.Return none (sP x)
 |.stuck,x=>x
noncomputable def a4q:Ss→List Stmt→List Stmt
 |.nil,_=>[]
 |.cons s ss,l=>rbS s (sh l)::a4q ss l.tail
noncomputable def d2v:Ms→List Expr→List Expr
 |.nil,_=>[]
 |.own _ e r,l=>rbE e (xh l)::d2v r l.tail
 |.iter _ e r,l=>.Call (b0p "iter" (x1 (xh l))) [rbE e (xa0 (xh l))] [] (xP (xh l))::d2v r l.tail
end
noncomputable def d7i(sc:SI)(is:List Nat)(ts:List Expr):Bool:=match a2b ts with|some ns=>b3w sc is ns|none=>false
noncomputable def e0q (x:Str):Bool:=!(x==("__debug__" : Str)) && !(x==("__classdict__" : Str))
noncomputable def e0h:Ss→Bool|.nil=>false|_=>true
mutual
noncomputable def ckS(k:Ck)(hz:Bool)(sc:SI):S→Stmt→Bool
 |.assign i e,x=>a8t sc (xN (sT x)) i&&ckE k hz sc e (sV x)
 |.assignOwn i e,x=>a8t sc (xN (sT x)) i&&(ckE k hz sc e (sV x)&&a6z e)
 |.assignTup is e,x=>d7i sc is (xs (sT x))&&(decide is.Nodup&&(ckE k hz sc e (sV x)&&d1i (xs (sT x)) (rbE e (sV x))))
 |.multi ms,x=>d7i sc ms.ids (xs (sT x))&&(decide ms.ids.Nodup&&(d1i (xs (sT x)) (.Tuple (d2v ms (xs (sV x))) (xK (sV x)) (xP (sV x)))&&(decide ((d2v ms (xs (sV x))).length≤1000)&&d7d k hz sc ms (xs (sV x)))))
 |.setIdx i ix e,x=>nmv sc (xN (x1 (sT x))) i&&(ckE k hz sc e (sV x)&&ckE k hz sc ix (x2 (sT x)))
 |.augIdx i ix _ e,x=>nmv sc (xN (x1 (sT x))) i&&(ckE k hz sc e (sV x)&&ckE k hz sc ix (x2 (sT x)))
 |.aug i _ e,x=>a8t sc (xN (sT x)) i&&(e0q (xN (sT x))&&ckE k hz sc e (sV x))
 |.ifs c t f,x=>b7t k hz sc c (sV x)&&(b9p k hz sc t (sB x)&&b9p k hz sc f (sE x))
 |.ret e,x=>ckE k hz sc e (sV x)
 |.append i e,x=>nmv sc (xN (x1 (x1 (sV x)))) i&&((xP (x1 (sV x))).endLine==(xP (sV x)).line&&ckE k hz sc e (xa0 (sV x)))
 |.reverse i,x=>nmv sc (xN (x1 (x1 (sV x)))) i&&(xP (x1 (sV x))).endLine==(xP (sV x)).line
 |.delIdx i _,x=>nmv sc (xN (x1 (sT x))) i
 |.for t it b,x=>ckT sc t (sT x)&&(ckI k hz sc (sT x) it (sV x)&&b9p k hz sc b (sB x))
 |.while c b,x=>b7t k hz sc c (sV x)&&b9p k hz sc b (sB x)
 |.assert c,x=>b7t k hz sc c (sV x)
 |.tryStop pre i h,x=>hz&&(a5x sc "StopIteration" && (a5x sc "_parse_varint" && (c1a sc i pre (xs (sV (sh (sB x))))&&(e0h h&&b9p k false sc h (hB (sH x))))))
 |.toks i,x=>c0x sc i (xN (sT x)) (xS (sV x))&&(xP (x1 (cI (xG (sV x))))).endLine==(xP (cI (xG (sV x)))).line
 |.expr e,x=>!b0n e&&ckE k hz sc e (sV x)
 |.retNone,_=>true
 |.stuck,_=>true
noncomputable def b9p(k:Ck)(hz:Bool)(sc:SI):Ss→List Stmt→Bool
 |.nil,_=>true
 |.cons s ss,l=>ckS k hz sc s (sh l)&&b9p k hz sc ss l.tail
noncomputable def d7d(k:Ck)(hz:Bool)(sc:SI):Ms→List Expr→Bool
 |.nil,_=>true
 |.own _ e r,l=>ckE k hz sc e (xh l)&&(a6z e&&d7d k hz sc r l.tail)
 |.iter _ e r,l=>a5x sc "iter" && (ckE k hz sc e (xa0 (xh l))&&d7d k hz sc r l.tail)
end
def d0r(k:Ck)(hz:Bool)(sc:SI)(S:Ss)(l:List Stmt):Prop:=∃l0,b9p k hz sc S l0=true∧a4q S l0=l
end
section
section
variable {C:Cfg} {Γ:Ctx} {n:Nat} {hz:Bool} {k:Ck}
theorem d0e{v:Expr}(h:d1i ts v=true):∀vs k p,v=.Tuple vs k p→(vs.all (foldedForSure 8) ||!vs.all (constantsAlone 8) ||!(ts.length==2||ts.length==3)||vs.length != ts.length)=true:=fun vs k p e=>by
 subst e; exact h
theorem c1t{is:List Nat}{sc:SI}(h:d7i sc is ts=true):∃ns,a2b ts=some ns∧b3w sc is ns=true:=by
 unfold d7i at h;cases e:a2b ts with
 |none=>rw[e]at h; cases h
 |some ns=>rw[e]at h; exact⟨ns,rfl,h⟩
theorem d5k (h:e0q x=true):(x==("__debug__" : Str))=false∧(x==("__classdict__" : Str))=false:=⟨b1t (a0b h),b1t (a0a h)⟩
theorem a8f{e:E}(h:b0n e=false)(x:Expr):b2l (rbE e x)=true:=by cases e <;> first|rfl|cases h
theorem b5w(e:E)(x:Expr):b0z (rbE e x)=true:=by cases e <;> rfl
structure Extra(C:Cfg)(Γ:Ctx)(n:Nat)(k:Ck):Prop where
 toks:∀(hz:Bool) (sc:SI) (i:Nat) (x:Stmt),SIOK sc→c0x sc i (xN (sT x)) (xS (sV x))=true→((xP (x1 (cI (xG (sV x))))).endLine==(xP (cI (xG (sV x)))).line)=true→SS C Γ sc n hz (.toks i) (c8e x)
 tries:∀(sc:SI) (pre:List Nat) (i:Nat) (l:List Expr) (hb:List Stmt) (h:Ss) (ep lp rp hp pos:Pos),SIOK sc→a5x sc "StopIteration" = true→a5x sc "_parse_varint" = true→c1a sc i pre l=true→(∃a r,hb=a::r)→SSs C Γ sc n false h hb→
  SS C Γ sc n true (.tryStop pre i h) (.Try [.Return (some (.List (c2z pre l) lp)) rp] [.ExceptHandler (some (.Name "StopIteration" ep)) none hb hp] [] [] pos)
variable (Gd:Good C k) (Γok:a3q C Γ n) (X:Extra C Γ n k)
include Gd Γok
omit Gd Γok in
theorem c2b{P:E→Prop}(h1:∀g,P (.comp g))(h2:∀es,P (.list es))(h3:∀a es,P (.me .split a es))(h4:∀es b,P (.bin .mul (.list es) b))(e:E)(h:a6z e=true):P e:=by
 cases e with
 |comp g=>exact h1 g
 |list es=>exact h2 es
 |me m a es=>cases m <;> first|exact h3 a es|exact absurd h Bool.false_ne_true
 |bin o a b=>cases o <;> first|exact absurd h Bool.false_ne_true|(cases a <;> first|exact h4 _ _|exact absurd h Bool.false_ne_true)
 |_=>exact absurd h Bool.false_ne_true
theorem c8h{sc:SI}(so:SIOK sc)(e:E)(x:Expr)(h:ckE k hz sc e x=true)(hf:a6z e=true):SF C Γ sc n hz e (rbE e x):=
 c2b (P:=fun e=>ckE k hz sc e x=true→SF C Γ sc n hz e (rbE e x)) (fun g h=>c1c (c4e Gd Γok g x so h))
  (fun es h=>c9w (a1r Gd Γok es sc _ so (a0a h)).1 (of_decide_eq_true (a0b h)))
  (fun a es h=>c6t (xs:=a7a es (xs x)) rfl (a0b h) (a0b (a0a h)) (b3d es _) (of_decide_eq_true (a0b (a0a (a0a h)))) (a0h Gd Γok a sc _ so (a0b (a0a (a0a (a0a h))))) (a1r Gd Γok es sc _ so (a0a (a0a (a0a (a0a h))))).2.2)
  (fun es b h=>d6d (a1r Gd Γok es sc _ so (a0a (a0b h))).1 (of_decide_eq_true (a0b (a0b h))) (a0h Gd Γok b sc _ so (a0a h))) e hf h
omit Gd Γok in
theorem a8p {s:e1m} {sc:SI} {pos:Pos} {Q:e1n→e1m→Prop} (e:EnvOK sc env) (l:Look env s.heap x v) (hd:(x==("__debug__" : Str))=false) (hc:(x==("__classdict__" : Str))=false) (h:Q v s) :
  e1p (model C.prog C.w) A (eval (.Name x pos) env) Q Eh s:=by
 refine wpAny_Name ?_ hd
 rcases l with⟨hk,m,hn,hm⟩|⟨hk,c,hcl,hcell⟩
 ·exact e2g e.kind hk hn hm h
 ·rcases hk with hk|hk
  ·exact wpAny_loadName_cell e.kind hk hcl hcell h
  ·exact wpAny_loadName_free e.kind hk hcl hcell h hc
omit Gd Γok in
theorem a6r{sc:SI}{g g':Heap}{s s':e1m}{al:List Addr}{st:St}(R:Rel C sc env g s.heap al st)(l:Look env s.heap x v)(x1:Step W s g s' g')(hW:∀b∈W,b∉a4o env):Look env s'.heap x v:=
 l.mono (fun o e=>x1.keep _ o (fun hm=>hW _ hm (.head _)) e) fun c o hc e=>x1.keep c o (fun hm=>hW _ hm (List.mem_cons_of_mem _ (List.mem_map.mpr ⟨_,e1r hc,rfl⟩))) e
end
end
section
section
variable {C:Cfg} {Γ:Ctx} {n:Nat} {k:Ck}
theorem d6e{h:Ss}(e:e0h h=true)(l:List Stmt):∃a r,a4q h l=a::r:=by
 cases h with
 |nil=>cases e
 |cons s ss=>exact⟨_,_,rfl⟩
variable (Gd:Good C k) (Γok:a3q C Γ n) (X:Extra C Γ n k)
include Gd Γok
theorem d3s{sc:SI}(so:SIOK sc)(i:Nat)(e:E)(x:Stmt)(h:ckS k hz sc (.assign i e) x=true):SS C Γ sc n hz (.assign i e) (rbS (.assign i e) x):=by
 by_cases hc:b0n e=true
 ·cases e with
  |comp g=>exact b8u so (a0b h) (c4e Gd Γok g _ so (a0a h)) (a0h Gd Γok _ sc _ so (a0a h))
  |_=>cases hc
 ·exact c1m so (a0b h) (a8f (Bool.not_eq_true _▸hc) _) (a0h Gd Γok e sc _ so (a0a h))
theorem d1h{sc:SI}(so:SIOK sc)(i:Nat)(e:E)(x:Stmt)(h:ckS k hz sc (.assignOwn i e) x=true):SS C Γ sc n hz (.assignOwn i e) (rbS (.assignOwn i e) x):=by
 by_cases hc:b0n e=true
 ·cases e with
  |comp g=>exact b0o so (a0b h) (c4e Gd Γok g _ so (a0b (a0a h)))
  |_=>cases hc
 ·exact b3j so (a0b h) (a8f (Bool.not_eq_true _▸hc) _) (c8h Gd Γok so e _ (a0b (a0a h)) (a0a (a0a h)))
include X
mutual
theorem c7x:(hz:Bool)→(S:S)→(sc:SI)→(x:Stmt)→SIOK sc→ckS k hz sc S x=true→SS C Γ sc n hz S (rbS S x)
 |hz,.assign i e=>fun sc x so h=>d3s Gd Γok so i e x h
 |hz,.assignOwn i e=>fun sc x so h=>d1h Gd Γok so i e x h
 |hz,.assignTup is e=>fun sc x so h=>by
  obtain⟨ns,h5,h6⟩:=c1t (a0b h);exact b3r so h5 h6 (of_decide_eq_true (a0b (a0a h))) (d0e (a0a (a0a (a0a h)))) (a0h Gd Γok e sc _ so (a0b (a0a (a0a h))))
 |hz,.multi ms=>fun sc x so h=>by
  obtain⟨ns,h6,h7⟩:=c1t (a0b h);exact c5m so h6 h7 (of_decide_eq_true (a0b (a0a h))) (a0b (a0a (a0a h))) (of_decide_eq_true (a0b (a0a (a0a (a0a h))))) (b5m hz ms sc _ so (a0a (a0a (a0a (a0a h)))))
 |hz,.setIdx i ix e=>fun sc x so h=>c3k (a0b h) (a0h Gd Γok e sc _ so (a0b (a0a h))) (a0h Gd Γok ix sc _ so (a0a (a0a h)))
 |hz,.augIdx i ix o e=>fun sc x so h=>c0t (a0b h) (b5w _ _) (a0h Gd Γok e sc _ so (a0b (a0a h))) (a0h Gd Γok ix sc _ so (a0a (a0a h)))
 |hz,.aug i o e=>fun sc x so h=>d5t so (a0b h) (d5k (a0b (a0a h))).2 (a0h Gd Γok e sc _ so (a0a (a0a h)))
 |hz,.ifs c t f=>fun sc x so h=>d7t (a2o Gd Γok c sc _ so (a0b h)) (a4y hz t sc _ so (a0b (a0a h))) (a4y hz f sc _ so (a0a (a0a h)))
 |hz,.ret e=>fun sc x so h=>d3g (a0h Gd Γok e sc _ so h)
 |hz,.append i e=>fun sc x so h=>c3s rfl (a0b h) (a0b (a0a h)) (a3s _ _) (a0h Gd Γok e sc _ so (a0a (a0a h)))
 |hz,.reverse i=>fun sc x so h=>b9l rfl (a0b h) (a0a h)
 |hz,.delIdx i j=>fun sc x so h=>c1f h (d8h j _)
 |hz,.for t it b=>fun sc x so h=>d6r so (a0b h) (fun env x=>a4s it _ env x) (a8j Gd Γok it sc _ _ so (a0b (a0a h))) (a4y hz b sc _ so (a0a (a0a h)))
 |hz,.while c b=>fun sc x so h=>c6c (a2o Gd Γok c sc _ so (a0b h)) (a4y hz b sc _ so (a0a h))
 |hz,.assert c=>fun sc x so h=>c2c (a2o Gd Γok c sc _ so h)
 |true,.tryStop pre i hh=>fun sc x so h=>X.tries sc pre i _ _ hh _ _ _ _ _ so (a0b h) (a0b (a0a h)) (a0b (a0a (a0a h))) (d6e (a0b (a0a (a0a (a0a h)))) _) (a4y false hh sc _ so (a0a (a0a (a0a (a0a h)))))
 |false,.tryStop pre i hh=>fun sc x so h=>Bool.noConfusion (show false=true from h)
 |hz,.toks i=>fun sc x so h=>X.toks hz sc i x so (a0b h) (a0a h)
 |hz,.expr e=>fun sc x so h=>fun A env g s al st Eh Q Q' H hw kk=>a5e H.eok (a8f (b1t (a0b h)) _) (a0h Gd Γok e sc _ so (a0a h) A env g s al st Eh _ _ H hw fun v u st1 s1 g1 a1 i1 hq=>kk .next .next _ _ _ _ (SAft.of H a1) trivial hq)
 |hz,.retNone=>fun sc x so h=>fun A env g s al st Eh Q Q' H hw kk=>wpAny_Return_none (kk (.ret .none) (.ret .none) al g s st (SAft.of H (Aft.refl H.rel)) RD.none hw)
 |hz,.stuck=>fun sc x so h=>fun A env g s al st Eh Q Q' H hw kk=>hw.elim
theorem a4y:(hz:Bool)→(S:Ss)→(sc:SI)→(l:List Stmt)→SIOK sc→b9p k hz sc S l=true→SSs C Γ sc n hz S (a4q S l)
 |hz,.nil=>fun sc l so h=>d2t
 |hz,.cons s ss=>fun sc l so h=>c5w (c7x hz s sc _ so (a0b h)) (a4y hz ss sc _ so (a0a h))
theorem b5m:(hz:Bool)→(ms:Ms)→(sc:SI)→(l:List Expr)→SIOK sc→d7d k hz sc ms l=true→SMs C Γ sc n hz ms (d2v ms l)
 |hz,.nil=>fun sc l so h=>d1l
 |hz,.own i e r=>fun sc l so h=>d2o (a3s _ _) (c8h Gd Γok so e _ (a0b h) (a0b (a0a h))) (b5m hz r sc _ so (a0a (a0a h)))
 |hz,.iter i e r=>fun sc l so h=>c7a Gd (a0z (a0b h)).1 (a3s _ _) (a0h Gd Γok e sc _ so (a0b (a0a h))) (b5m hz r sc _ so (a0a (a0a h)))
end
theorem b4l{S:Ss}{sc:SI}{l:List Stmt}(so:SIOK sc)(h:d0r k hz sc S l):SSs C Γ sc n hz S l:=by
 obtain⟨l0,h1,rfl⟩:=h;exact a4y Gd Γok X hz S sc l0 so h1
end
end
section
noncomputable def a2m(names:List (Str×NameKind))(xs:List Str):SI:=⟨names,xs.zip (List.range xs.length),(names.filter fun p=>p.2 == .cell).map (·.1)⟩
structure FnOK(fd:FuncData)(ps ls:List Str)(body:List Stmt):Prop where
 body:fd.body=.stmts body
 closure:fd.closure=[]
 kind:fd.scope.kind=.function
 co:fd.scope.isCoroutine=false
 gen:fd.scope.isGenerator=false
 globals:fd.globals=e1v
 builtins:fd.builtins=builtinsNs
 nodup:(fd.scope.names.map (·.1)).Nodup
 xnodup:(ps++ls).Nodup
 kinds:∀x∈ps++ls,fd.scope.names.lookup x=some .local∨fd.scope.names.lookup x=some .cell
 nofree:∀p∈fd.scope.names,p.2 ≠ .free
 bind:∀vals:List e1n,vals.length=ps.length→bindArgs fd ⟨vals,[]⟩=pure (ps.zip vals)
 bindK:∀(vals:List e1n) (ks:List Str) (kvs:List e1n),ks=ps.drop vals.length→ks.length=kvs.length→(vals++kvs).length=ps.length→bindArgs fd ⟨vals,ks.zip kvs⟩=pure (ps.zip (vals++kvs))
def fnW(Γ:Ctx)(tk:List (e1l×e1l))(np nl:Nat)(body:Ss):Spec:=fun hz ks us ow Q=>ks=[]∧us.length=np∧a1f Γ tk body ⟨us++List.replicate nl .undef,ow,hz⟩ fun fl st=>
 Q (.dat (match fl with|.ret d=>d|.next=>.none)) (st.own.take ow.length)
theorem b1s{kindOf:Str→Option NameKind}{x:Str}(hx:kindOf x=some .local):∀(binds:List (Str×e1n)) (m:Str→Option e1n),(binds.map (·.1)).Nodup→bindL kindOf binds m x=match binds.lookup x with|some v=>some v|none=>m x
 |[]=>fun m _=>rfl
 |(y,v)::r=>fun m hn=>by
  rw[List.map_cons,List.nodup_cons]at hn;unfold bindL;rw[b1s hx r _ hn.2]
  by_cases hxy:x=y
  ·subst hxy
   rw[a2x hn.1,List.lookup_cons,beq_self_eq_true,if_pos hx];simp
  ·have hb:(x==y)=false:=beq_false_of_ne hxy
   rw[List.lookup_cons,hb];cases r.lookup x with
   |some w=>rfl
   |none=>
    show(if kindOf y=some NameKind.local then(fun z=>if z=y then some v else m z)else m) x=m x
    by_cases hky:kindOf y=some NameKind.local
    ·rw[if_pos hky]; exact if_neg hxy
    ·rw[if_neg hky]
theorem b6l{kindOf:Str→Option NameKind}{x:Str}(hx:kindOf x=some .cell):∀(binds:List (Str×e1n)) (m:Str→Option e1n),(binds.map (·.1)).Nodup→bindC kindOf binds m x=match binds.lookup x with|some v=>some v|none=>m x
 |[]=>fun m _=>rfl
 |(y,v)::r=>fun m hn=>by
  rw[List.map_cons,List.nodup_cons]at hn;unfold bindC;rw[b6l hx r _ hn.2]
  by_cases hxy:x=y
  ·subst hxy
   rw[a2x hn.1,List.lookup_cons,beq_self_eq_true,if_neg (by rw[hx]; simp)]
   simp
  ·have hb:(x==y)=false:=beq_false_of_ne hxy
   rw[List.lookup_cons,hb];cases r.lookup x with
   |some w=>rfl
   |none=>
    show(if kindOf y=some NameKind.local then m else(fun z=>if z=y then some v else m z)) x=m x
    by_cases hky:kindOf y=some NameKind.local
    ·rw[if_pos hky]
    ·rw[if_neg hky]; exact if_neg hxy
theorem a4i:∀(ps:List Str) (vs:List e1n),ps.length=vs.length→ps.Nodup→∀(i:Nat) x,ps[i]?=some x→∃v,vs[i]?=some v∧(ps.zip vs).lookup x=some v
 |[],vs=>fun _ _ i x e=>by simp at e
 |p::ps,[]=>fun h _ _ _ _=>by cases h
 |p::ps,v::vs=>fun h hn i x e=>by
  rw[List.nodup_cons]at hn;cases i with
  |zero=>simp at e; subst e; exact⟨v,rfl,by simp⟩
  |succ i=>
   have e:ps[i]?=some x:=by simpa using e
   obtain⟨w,h1,h2⟩:=a4i ps vs (by simpa using h) hn.2 i x e
   refine⟨w,by simpa using h1,?_⟩
   have hxp:(x==p)=false:=beq_false_of_ne fun q=>hn.1 (q▸List.mem_of_getElem? e);rw[List.zip_cons_cons,List.lookup_cons,hxp];exact h2
theorem InVs.get{C:Cfg}{al:List Addr}:∀{vs:List e1n} {us:List V} {i:Nat} {v:e1n},InVs C g al vs us→vs[i]?=some v→∃u,us[i]?=some u∧InV C g al v u
 |[],_,_,_,_,e=>by simp at e
 |_::_,[],_,_,h,_=>h.elim
 |w::vs,u::us,i,v,h,e=>by
  cases i with
  |zero=>simp at e; subst e; exact⟨u,rfl,h.1⟩
  |succ i=>obtain⟨u',h1,h2⟩:=InVs.get h.2 (by simpa using e:vs[i]?=some v); exact⟨u',by simpa using h1,h2⟩
theorem b7h{names:List (Str×NameKind)}{xs:List Str}(h:(a2m names xs).ids.lookup x=some i):xs[i]?=some x:=by
 have hm:=e1r h;have hm:(x,i)∈xs.zip (List.range xs.length):=hm;obtain⟨j,hj,e⟩:=List.getElem_of_mem hm;rw[List.getElem_zip,List.getElem_range]at e;have e1:=congrArg Prod.fst e;have e2:=congrArg Prod.snd e;dsimp only at e1 e2;subst e2;rw[List.length_zip,List.length_range,Nat.min_self]at hj;rw[List.getElem?_eq_getElem hj,e1]
theorem b1f{ps ls:List Str}{body:List Stmt}(ok:FnOK fd ps ls body):SIOK (a2m fd.scope.names (ps++ls)) where
 nd:=by
  show(((ps++ls).zip (List.range (ps++ls).length)).map (·.2)).Nodup;rw[List.map_snd_zip (by simp)]
  exact List.nodup_range
 kinds:=fun x i h=>(ok.kinds x (List.mem_of_getElem? (b7h h))).imp id .inl
theorem a2z:∀{names:List (Str×NameKind)} {m:Nat},(names.map (·.1)).Nodup→((cellsFrom m names []).map (·.1)).Nodup∧∀x∈(cellsFrom m names []).map (·.1),x∈names.map (·.1)
 |[],_,_=>⟨List.nodup_nil,fun _ h=>nomatch h⟩
 |(y,k)::r,m,hn=>by
  rw[List.map_cons,List.nodup_cons]at hn;unfold cellsFrom;split
  ·obtain⟨h1,h2⟩:=a2z (m:=m+1) hn.2
   rw[a1g,List.map_append];refine⟨List.nodup_append.mpr ⟨h1,by simp,fun a ha b hb e=>?_⟩,fun x hx=>?_⟩
   ·simp at hb; subst hb; subst e; exact hn.1 (h2 _ ha)
   ·rcases List.mem_append.mp hx with h|h
    ·exact List.mem_cons_of_mem _ (h2 x h)
    ·simp at h; subst h; exact .head _
  ·obtain⟨h1,h2⟩:=a2z (m:=m) hn.2
   exact⟨h1,fun x hx=>List.mem_cons_of_mem _ (h2 x hx)⟩
section
variable {C:Cfg} {Γ:Ctx} {n:Nat} {k:Ck}
theorem BRel.take{g h:Heap}{al al':List Addr}{ow:List OV}(B:BRel C g h al' ow)(p:al <+: al')(hb:C.base <+: al):BRel C g h al (ow.take al.length) where
 sub:=B.sub
 amb:=B.amb
 nd:=B.nd
 tabs:=B.tabs
 olen:=by
  rw[List.length_take,←B.olen]
  have:=p.length_le
  exact a1b (.e N0 (.b 2 N0 N1)) (.l N0 N1) this
 own:=fun j o e=>by
  rw[List.getElem?_take]at e
  split at e
  ·rename_i hj
   obtain⟨a,ha,q⟩:=B.own j o e;refine⟨a,?_,q⟩;obtain⟨t,rfl⟩:=p;rw[List.getElem?_append_left hj]at ha;exact ha
  ·cases e
 alnd:=by
  obtain⟨t,rfl⟩:=p;exact(List.nodup_append.mp B.alnd).1
 ata:=fun b hb'=>B.ata b (p.subset hb')
 base:=hb
def SSW(C:Cfg)(sc:SI)(n:Nat)(hz:Bool)(fd:FuncData)(W:St→(Fl→St→Prop)→Prop)(x:List Stmt):Prop:=
 ∀(A:e1x) (env:Env) (g:Heap) (s:e1m) (al:List Addr) (st:St) (Eh:e1n→e1m→Prop) (Q:Fl→St→Prop) (Q':Flow→e1m→Prop),(∃L a,env=e1q fd L a)→Here C sc hz n A env g s al st→W st Q→
  (∀fl f al' g' s' st',al <+: al'→BRel C g' s'.heap al' st'.own→Step (wr sc env++(al++C.TA)) s g s' g'→d7e g' fl f→Q fl st'→Q' f s')→e1p (model C.prog C.w) A (execs x env) Q' Eh s
def d6y(W:St→(Fl→St→Prop)→Prop)(np nl:Nat):Spec:=fun hz ks us ow Q=>ks=[]∧us.length=np∧W ⟨us++List.replicate nl .undef,ow,hz⟩ fun fl st=>
 Q (.dat (match fl with|.ret d=>d|.next=>.none)) (st.own.take ow.length)
theorem a4t{s:e1m}{a:Addr}{body:List Stmt}{args:Args}{binds:List (Str×e1n)}
 (hroom:A.depth<recursionLimit) (ho:s.heap.get? a=some o) (hdata:o.data=.func fd) (hlim:s.heap.NoLimit) (hcd:s.heap.CodeRec fd.code fd.qualname)
 (hbody:fd.body=.stmts body) (hbind:bindArgs fd args=pure binds) (hclo:fd.closure=[])
 (hkind:∀x∈binds,fd.scope.names.lookup x.1=some .local∨(fd.scope.names.lookup x.1=some .cell∧((cellsFrom (s.heap.objs.size+1) fd.scope.names []).lookup x.1).isSome=true))
 (h:∀s₁,InCallC s (e1q fd s.heap.objs.size a).locals (bindL (e1q fd s.heap.objs.size a).kindOf binds fun _=>none) (e1q fd s.heap.objs.size a).cells
 (bindC (e1q fd s.heap.objs.size a).kindOf binds fun _=>none) s₁→
 e1p (model prog w) (A.deeper (e1q fd s.heap.objs.size a)) (execs body (e1q fd s.heap.objs.size a)) (fun f s'=>R (.ok (.ret (match f with|.ret v=>v|_=>.none))) s')
 (fun e s'=>e1p (model prog w) (A.deeper (e1q fd s.heap.objs.size a)) (leaving (e1q fd s.heap.objs.size a) e) (fun _ s''=>R (.error e) s'') (fun e' s''=>R (.error e') s'') s') s₁)
 (hco:fd.scope.isCoroutine=false) (hgen:fd.scope.isGenerator=false) (hk:fd.scope.kind=.function) :
  codeAny (model prog w) A (.call (.ref a) args) R s:=by
 refine codeAny_call_function hroom ho hdata hco hgen hbody hcd ?_;rw[hbind,hclo];refine e1o (wpAny_newFunctionEnv_cells hk hkind fun env he s' x=>?_);subst he;exact⟨hlim.keeps x.toInCall.keep,codeAny_func (h s' x)⟩
theorem b3x{a:Addr}{ps ls:List Str}{W:St→(Fl→St→Prop)→Prop}(hfv:C.fnv f=.ref a)(hfo:o.data=.func fd)(hg:∀g,C.Amb g→g.get? a=some o∧g.CodeRec fd.code fd.qualname)(ok:FnOK fd ps ls stmts)
 (hs:SSW C (a2m fd.scope.names (ps++ls)) n hzf fd W stmts)
 (A:e1x) (g:Heap) (s:e1m) (al:List Addr) (ow:List OV) (hz:Bool) (vs0:List e1n) (ks:List Str) (kvs:List e1n) (us:List V) (Eh:e1n→e1m→Prop) (Q:V→List OV→Prop) (Q':e1n→e1m→Prop) (hzz:hzf=true→hz=true)
 (aok:AOK A (n+1) hz g) (B:BRel C g s.heap al ow) (hfrB:FrB C A g s.heap al) (hkl:ks.length=kvs.length) (hi:InVs C g al (vs0++kvs) us) (hks:ks=ps.drop vs0.length) (hw:d6y W ps.length nl hz [] us ow Q)
 (kk:∀v u ow' s' g',BRel C g' s'.heap al ow'→Step (al++C.TA) s g s' g'→InV C g' al v u→Q u ow'→Q' v s') :
  e1p (model C.prog C.w) A (call (C.fnv f) vs0 (ks.zip kvs)) Q' Eh s:=by
 obtain⟨hk0,hul,hw⟩:=hw;obtain⟨vs,hvs⟩:∃vs,vs=vs0++kvs:=⟨_,rfl⟩;rw[←hvs]at hi;have hvl:vs.length=ps.length:=hi.len.trans hul;have hbind:bindArgs fd ⟨vs0,ks.zip kvs⟩=pure (ps.zip vs):=by rw[hvs]; exact ok.bindK vs0 ks kvs hks hkl (by rw[←hvs]; exact hvl)
 rw[hfv];obtain⟨ho,hcr⟩:=hg g B.amb;have T:=B.amb.T.keeps B.sub;have hpsn:ps.Nodup:=(List.nodup_append.mp ok.xnodup).1;have hzk:((ps.zip vs).map (·.1))=ps:=a7p ps vs hvl.symm;refine wpAny_call (a4t (by have:=aok.depth; exact a2c (.t N0 N1) (.l (.p N0 (.p N2 O1)) N1) this) (B.sub _ _ ho) hfo T.nolimit ?_ ok.body hbind ok.closure (fun x hx=>?_) (fun s1 x=>?_) ok.co ok.gen ok.kind)
 ·obtain⟨c,oc,fs,t,e1,e2,e3,e4⟩:=hcr; exact⟨c,oc,fs,t,e1,B.sub _ _ e2,e3,e4⟩
 ·have hxp:x.1∈ps:=by rw[←hzk]; exact List.mem_map.mpr ⟨x,hx,rfl⟩
  rcases ok.kinds x.1 (List.mem_append_left _ hxp)with h|h
  ·exact .inl h
  ·obtain⟨c,hc,_⟩:=(a0n fd.scope.names (s.heap.objs.size+1) [] ok.nodup x.1).2 h
   exact .inr ⟨h,by rw[hc]; rfl⟩
 ·have hlt:∀b,(∃o,s.heap.get? b=some o)→b<s.heap.objs.size:=fun b ⟨o,ho⟩=>Heap.lt_size ho
  have hnew:∀b,s.heap.objs.size≤b→s.heap.get? b=none:=fun b hb=>a0s hb;have sb:Sub s.heap s1.heap:=x.toInCall.keep;obtain⟨h1,tk1,rfl⟩:=x.toInCall.same;have x1:Step [] s g { s with heap:=h1,toks:=tk1 } g:=Step.ext sb
  have B1:=B.move x1 (B.sub.trans sb) (by simp)
  have cellk:∀{y:Str},fd.scope.names.lookup y=some .cell→∃c,(e1q fd s.heap.objs.size a).cells.lookup y=some c:=fun{y} hy=>by
   obtain⟨c,hc,_⟩:=(a0n fd.scope.names (s.heap.objs.size+1) [] ok.nodup y).2 hy; exact⟨c,hc⟩
  have above:∀y c,(y,c)∈(e1q fd s.heap.objs.size a).cells→s.heap.objs.size<c:=x.above;have pge:∀b∈a4o (e1q fd s.heap.objs.size a),s.heap.objs.size≤b:=fun b hb=>by
   rcases List.mem_cons.mp hb with h|h
   ·exact Nat.le_of_eq h.symm
   ·obtain⟨⟨y,c⟩,hp,rfl⟩:=List.mem_map.mp h
    exact Nat.le_of_lt (above y c hp)
  have pfr:∀b∈a4o (e1q fd s.heap.objs.size a),s.heap.get? b=none:=fun b hb=>hnew b (pge b hb);have hk:∀y,(e1q fd s.heap.objs.size a).kindOf y=fd.scope.names.lookup y:=fun y=>rfl;have vget:∀{y:Str} {i:Nat} {v:e1n},ps[i]?=some y→vs[i]?=some v→Look (e1q fd s.heap.objs.size a) h1 y v:=fun{y i v} hy hv=>by
   obtain⟨v',h2,h3⟩:=a4i ps vs hvl.symm hpsn i y hy;rw[hv]at h2; cases h2
   rcases ok.kinds y (List.mem_append_left _ (List.mem_of_getElem? hy))with h|h
   ·refine .inl ⟨(hk y).trans h,_,x.toInCall.ns,?_⟩
    rw[b1s ((hk y).trans h) _ _ (by rw[hzk]; exact hpsn),h3]
   ·obtain⟨c,hc⟩:=cellk h
    have hcell:=x.cell y c hc;rw[b6l ((hk y).trans h) _ _ (by rw[hzk]; exact hpsn),h3]at hcell
    exact .inr ⟨.inl ((hk y).trans h),c,hc,hcell⟩
  have R:Rel C (a2m fd.scope.names (ps++ls)) (e1q fd s.heap.objs.size a) g h1 al ⟨us++List.replicate nl .undef,ow,hz⟩:={
   sub:=B1.sub,amb:=B1.amb,nd:=B1.nd,tabs:=B1.tabs
   ns:=⟨_,x.toInCall.ns⟩
   cell:=fun y hy=>by
    rcases hy with h|h
    ·obtain⟨c,hc⟩:=cellk h; exact⟨c,_,hc,x.cell y c hc⟩
    ·exact absurd rfl (ok.nofree _ (e1r h))
   vars:=fun y i hyi=>by
    have hy:=b7h hyi
    by_cases hip:i<ps.length
    ·rw[List.getElem?_append_left hip]at hy
     have hv:vs[i]?=some vs[i]:=List.getElem?_eq_getElem (by exact a2a (.t N0 N1) (.e N1 N2) (.t N0 N2) hvl hip)
     obtain⟨u,hu,iu⟩:=hi.get hv;refine .inr ⟨vs[i],vget hy hv,?_⟩;show InV C g al vs[i] ((us++List.replicate nl V.undef).getD i V.undef);rw[List.getD_eq_getElem?_getD,List.getElem?_append_left (by exact a2a (.t N0 N1) (.e N1 N2) (.t N0 N2) hul hip),hu]
     exact iu
    ·refine .inl fun u hu=>?_
     subst hu;show(us++List.replicate nl V.undef).getD i V.undef=.undef;rw[List.getD_eq_getElem?_getD,List.getElem?_append_right (by exact a2a (.l N0 N1) (.e N0 N2) (.n (.t N1 N2)) hul hip),List.getElem?_replicate]
     split <;> rfl
   olen:=B1.olen,own:=B1.own,alnd:=B1.alnd
   pnd:=by
    show(s.heap.objs.size::(e1q fd s.heap.objs.size a).cells.map (·.2)).Nodup;rw[List.nodup_cons];refine⟨fun hm=>?_,List.pairwise_map.mpr x.apart⟩;obtain⟨⟨y,c⟩,hp,e⟩:=List.mem_map.mp hm;have h2:=above y c hp;have e:c=s.heap.objs.size:=e;exact Nat.lt_irrefl _ (e▸h2)
   pgl:=a2y B.sub (pfr _ (.head _))
   pgc:=fun y c _ hc=>a2y B.sub (pfr c (List.mem_cons_of_mem _ (List.mem_map.mpr ⟨_,e1r hc,rfl⟩)))
   plt:=fun b hb=>by
    rcases List.mem_cons.mp hb with h|h
    ·obtain⟨o,_,_,ho,_⟩:=x.toInCall.ns; exact⟨o,h▸ho⟩
    ·obtain⟨⟨y,c⟩,hp,rfl⟩:=List.mem_map.mp h
     have hn:((e1q fd s.heap.objs.size a).cells.map (·.2)).Nodup:=List.pairwise_map.mpr x.apart;have hkeys:(((e1q fd s.heap.objs.size a).cells).map (·.1)).Nodup:=(a2z ok.nodup).1;obtain⟨o,ho,_⟩:=x.cell y c (a0q hkeys hp);exact⟨o,ho⟩
   pal:=fun b hb hm=>by
    obtain⟨j,hj,e⟩:=List.getElem_of_mem hm;obtain⟨a',ha',q⟩:=B.own j _ (List.getElem?_eq_getElem (by rw[←B.olen]; exact hj))
    rw[List.getElem?_eq_getElem hj,e]at ha';cases ha';obtain⟨ob,hob⟩:=q.alive B.sub;rw[pfr b hb]at hob; cases hob
   pta:=fun b hb hm=>by
    obtain⟨_,o',ho',_⟩:=B.tabs b hm;rw[pfr b hb]at ho'; cases ho'
   ata:=B1.ata,base:=B1.base }
  have hfr:FrOK C (A.deeper (e1q fd s.heap.objs.size a)) (e1q fd s.heap.objs.size a) g h1 al:=hfrB.deep ok.kind rfl rfl sb fun b hb _=>pfr b hb;have H:Here C (a2m fd.scope.names (ps++ls)) hzf n (A.deeper (e1q fd s.heap.objs.size a)) (e1q fd s.heap.objs.size a) g { s with heap:=h1,toks:=tk1 } al ⟨us++List.replicate nl .undef,ow,hz⟩:=
   ⟨⟨by have:=aok.depth; show A.depth+1+n≤_; exact a2c (.l (.p (.p N0 O1) N1) N2) (.l (.p N0 (.p N1 O1)) N2) this,by have:=aok.units; show A.units+3+4*n+70<_; exact a2c (.t (.p (.p (.p N0 (.k 3)) (.m 0 4 N1)) (.k 70)) N2) (.t (.p (.p N0 (.m 0 4 (.p N1 O1))) (.k 70)) N2) this,aok.none,aok.handled⟩,hzz,⟨ok.kind,rfl,ok.globals,ok.builtins⟩,R,hfr⟩
  refine hs _ _ g _ al _ _ _ _ ⟨_,_,rfl⟩ H hw fun fl fr al' g' s' st' pa' B' st'x hf hq=>?_;have x2:Step (al++C.TA) s g s' g':=(x1.mono (W':=al++C.TA) fun _ h=>nomatch h).trans st'x fun b hb=>by
   rcases List.mem_append.mp hb with h|h
   ·exact .inr (pfr b (a2g h))
   ·exact .inl h
  have B2:=B'.take pa' B.base;rw[B.olen]at B2;cases fl with
  |next=>
   cases fr with
   |next=>exact kk .none (.dat .none) _ s' g' B2 x2 RD.none hq
   |_=>exact hf.elim
  |ret d=>
   cases fr with
   |ret v=>exact kk v (.dat d) _ s' g' B2 x2 hf hq
   |_=>exact hf.elim
theorem a7x{a:Addr}{ps ls:List Str}{W:St→(Fl→St→Prop)→Prop}(hfv:C.fnv f=.ref a)(hfo:o.data=.func fd)(hg:∀g,C.Amb g→g.get? a=some o∧g.CodeRec fd.code fd.qualname)(ok:FnOK fd ps ls stmts)
 (hs:SSW C (a2m fd.scope.names (ps++ls)) n hzf fd W stmts)
 (A:e1x) (g:Heap) (s:e1m) (al:List Addr) (ow:List OV) (hz:Bool) (vs:List e1n) (ks:List Str) (kvs:List e1n) (us:List V) (Eh:e1n→e1m→Prop) (Q:V→List OV→Prop) (Q':e1n→e1m→Prop) (hzz:hzf=true→hz=true)
 (aok:AOK A (n+1) hz g) (B:BRel C g s.heap al ow) (hfrB:FrB C A g s.heap al) (hkl:ks.length=kvs.length) (hi:InVs C g al (vs++kvs) us) (hw:d6y W ps.length nl hz ks us ow Q)
 (kk:∀v u ow' s' g',BRel C g' s'.heap al ow'→Step (al++C.TA) s g s' g'→InV C g' al v u→Q u ow'→Q' v s') :
  e1p (model C.prog C.w) A (call (C.fnv f) vs (ks.zip kvs)) Q' Eh s:=by
 obtain⟨hk0,hul,hw⟩:=hw;subst hk0;have hkv:kvs=[]:=List.length_eq_zero_iff.mp hkl.symm;subst hkv;have hvl:vs.length=ps.length:=by rw[List.append_nil]at hi; exact hi.len.trans hul
 exact b3x hfv hfo hg ok hs A g s al ow hz vs [] [] us Eh Q Q' hzz aok B hfrB rfl hi (by rw[List.drop_of_length_le (Nat.le_of_eq hvl.symm)]) ⟨rfl,hul,hw⟩ kk
theorem c6p{a:Addr}{ps ls:List Str}{body:Ss}(hfv:C.fnv f=.ref a)(hfo:o.data=.func fd)(hg:∀g,C.Amb g→g.get? a=some o∧g.CodeRec fd.code fd.qualname)(ok:FnOK fd ps ls stmts)
 (hs:SSs C Γ (a2m fd.scope.names (ps++ls)) n hzf body stmts)
 (A:e1x) (g:Heap) (s:e1m) (al:List Addr) (ow:List OV) (hz:Bool) (vs:List e1n) (ks:List Str) (kvs:List e1n) (us:List V) (Eh:e1n→e1m→Prop) (Q:V→List OV→Prop) (Q':e1n→e1m→Prop) (hzz:hzf=true→hz=true)
 (aok:AOK A (n+1) hz g) (B:BRel C g s.heap al ow) (hfrB:FrB C A g s.heap al) (hkl:ks.length=kvs.length) (hi:InVs C g al (vs++kvs) us) (hw:fnW Γ C.toks ps.length nl body hz ks us ow Q)
 (kk:∀v u ow' s' g',BRel C g' s'.heap al ow'→Step (al++C.TA) s g s' g'→InV C g' al v u→Q u ow'→Q' v s') :
  e1p (model C.prog C.w) A (call (C.fnv f) vs (ks.zip kvs)) Q' Eh s:=
 a7x hfv hfo hg ok (W:=fun st Q=>a1f Γ C.toks body st Q) (fun A env g s al st Eh Q Q' _ H hw kk=>hs A env g s al st Eh Q Q' H hw fun fl f al' g' s' st' a' hf hq=>kk fl f al' g' s' st' a'.pre a'.here.rel.b a'.step hf hq)
  A g s al ow hz vs ks kvs us Eh Q Q' hzz aok B hfrB hkl hi hw kk
end
end
section
def c3m(C:Cfg)(sp:Spec)(n:Nat)(f:Nat):Prop:=∀(A:e1x) (g:Heap) (s:e1m) (al:List Addr) (ow:List OV) (hz:Bool) (ps:List e1n) (ks:List Str) (kvs:List e1n) (us:List V)
 (Eh:e1n→e1m→Prop) (Q:V→List OV→Prop) (Q':e1n→e1m→Prop),AOK A n hz g→BRel C g s.heap al ow→FrB C A g s.heap al→ks.length=kvs.length→InVs C g al (ps++kvs) us→sp hz ks us ow Q→
 (∀v u ow' s' g',BRel C g' s'.heap al ow'→Step (al++C.TA) s g s' g'→InV C g' al v u→Q u ow'→Q' v s')→
 e1p (model C.prog C.w) A (call (C.fnv f) ps (ks.zip kvs)) Q' Eh s
inductive Def
 |ir (np nl:Nat) (body:Ss) (hzf:Bool)
 |spec (S:Nat→Ctx→Spec)
noncomputable def lev(tk:List (e1l×e1l))(D:Nat→Option Def):Nat→Ctx
 |0=>fun _ _ _ _ _ _=>False
 |n+1=>fun f hz ks us ow Q=>0<n∧match D f with
  |some (.ir np nl body hzf)=>(hzf=true→hz=true)∧fnW (lev tk D n) tk np nl body hz ks us ow Q
  |some (.spec S)=>S n (lev tk D n) hz ks us ow Q
  |none=>False
inductive DefAt(C:Cfg)(k:Ck)(f:Nat)(np:Nat)(body:Ss)(hzf:Bool):Prop
 |mk:∀a o fd ps ls stmts,C.fnv f=.ref a→o.data=.func fd→(∀g,C.Amb g→g.get? a=some o∧g.CodeRec fd.code fd.qualname)→FnOK fd ps ls stmts→ps.length=np→d0r k hzf (a2m fd.scope.names (ps++ls)) body stmts→DefAt C k f np body hzf
abbrev d9k(C:Cfg)(k:Ck)(D:Nat→Option Def)(f:Nat)(d:Option Def):Prop:=match d with
 |some (.ir np _ body hzf)=>DefAt C k f np body hzf
 |some (.spec S)=>∀n,a3q C (lev C.toks D n) n→0<n→c3m C (S n (lev C.toks D n)) (n+1) f
 |none=>True
theorem c7s{C:Cfg}{k:Ck}{D:Nat→Option Def}(Gd:Good C k)(hd:∀f,d9k C k D f (D f))
  (hx:∀n,0<n→a3q C (lev C.toks D n) n→Extra C (lev C.toks D n) n k):∀n,a3q C (lev C.toks D n) n
 |0=>fun f A g s al ow hz ps ks kvs us Eh Q Q' _ _ _ _ _ h _=>h.elim
 |n+1=>fun f A g s al ow hz ps ks kvs us Eh Q Q' ok B fb hl iv h kk=>by
  have ih:=c7s Gd hd hx n;obtain⟨hn,h⟩:=h;have hd:=hd f;cases e:D f with
  |none=>rw[e]at h; exact h.elim
  |some d=>
   rw[e]at h hd;cases d with
   |ir np nl body hzf=>
    obtain⟨a,o,fd,pps,ls,stmts,h1,h2,h3,h4,h5,h6⟩:=hd;have hS:=b4l Gd ih (hx n hn ih) (b1f h4) h6;subst h5;exact c6p (nl:=nl) h1 h2 h3 h4 hS A g s al ow hz ps ks kvs us Eh Q Q' h.1 ok B fb hl iv h.2 kk
   |spec S=>exact hd n ih hn A g s al ow hz ps ks kvs us Eh Q Q' ok B fb hl iv h kk
end
section
structure Exc(h0 h:Heap)(fs:List Env)(e:Addr)(cls a0 tb fl:e1n):Prop where
 keep:∀b o,h0.get? b=some o→b∉fs.filterMap (·.frame)→h.get? b=some o
 slots:∀b o,h0.get? b=some o→∃sl,h.get? b=some { o with slots:=sl }
 new:h0.get? e=none
 exc:∃oe vs,h.get? e=some oe∧oe.cls=cls∧oe.data=.fields vs∧vs[0]?=some a0∧vs[1]?=some tb∧vs[2]?=some .none
 trace:tb ≠ .none→∃T oT ts,tb=.ref T∧h0.get? T=none∧T≠e∧h.get? T=some oT∧oT.data=.fields ts∧ts[3]?=some fl
def FsIn(h:Heap)(fs:List Env):Prop:=∀e∈fs,e.scope.kind ≠ .module∧∃L o es ep,e.frame=some L∧h.get? L=some o∧o.data=.dict es ep
theorem FsIn.fun{h base:Heap}:∀{fs:List Env},FsIn h fs→(∀L∈fs.filterMap (·.frame),base.get? L=none)→h.FunFrames base fs
 |[]=>fun _ _=>trivial
 |e::r=>fun f hb=>by
  obtain⟨h1,L,o,es,ep,h2,h3,h4⟩:=f e (.head _);refine⟨h1,⟨L,o,h2,hb L ?_,h3,fun vs q=>by rw[h4]at q; cases q⟩,FsIn.fun (fun e' he=>f e' (List.mem_cons_of_mem _ he)) fun L' hL=>hb L' ?_⟩
  ·rw[List.filterMap_cons,h2]; exact .head _
  ·rw[List.filterMap_cons,h2]; exact List.mem_cons_of_mem _ hL
theorem FsIn.keep{h h':Heap}(f:FsIn h fs)(k:∀b o,h.get? b=some o→∃sl,h'.get? b=some { o with slots:=sl }):FsIn h' fs:=fun e he=>by
 obtain⟨h1,L,o,es,ep,h2,h3,h4⟩:=f e he;obtain⟨sl,e1⟩:=k L o h3;exact⟨h1,L,_,es,ep,h2,e1,h4⟩
section
variable {C:Cfg} {A:e1x} {E:e1n→e1m→Prop} {s:e1m} {h0:Heap} {fs:List Env} {e:Addr} {cls a0 tb fl:e1n}
theorem a5t{fr:Option Addr}{Q:Unit→e1m→Prop}(x:Exc h0 s.heap fs e cls a0 tb fl)(ht:tb ≠ .none)
 (h:∀h',Exc h0 h' fs e cls a0 tb (fr.elim .none fun f=>rawInt f)→Q () { s with heap:=h' }):e1p (model C.prog C.w) A (setFlight (.ref e) fr) Q E s:=by
 obtain⟨oe,vs,he,hc,hd,h00,h1,h2⟩:=x.exc;obtain⟨T,oT,ts,rfl,hT0,hTe,hT,hdT,h3⟩:=x.trace ht;unfold setFlight;refine e1k (e2d he hd h1 ?_);rw[if_pos (show(Value.ref T != Value.none)=true from by simp)]
 refine wpAny_setField hT hdT (Array.getElem?_eq_some_iff.mp h3).1 (h _ ?_);have other:∀b,b≠T→∀f,(s.heap.update T f).get? b=s.heap.get? b:=fun b hb f=>Heap.get?_update_other _ _ (Ne.symm hb);have hbT:∀b o,h0.get? b=some o→b≠T:=fun b o e' q=>by rw[q,hT0]at e'; cases e'
 exact{
  keep:=fun b o e' hb=>(other b (hbT b o e') _).trans (x.keep b o e' hb)
  slots:=fun b o e'=>by obtain⟨sl,e1⟩:=x.slots b o e'; exact⟨sl,(other b (hbT b o e') _).trans e1⟩
  new:=x.new
  exc:=⟨oe,vs,(other e (Ne.symm hTe) _).trans he,hc,hd,h00,h1,h2⟩
  trace:=fun _=>⟨T,_,_,rfl,hT0,hTe,Heap.get?_update_self _ hT (Obj.isFreed_of_fields (Obj.data_mapFields hdT _)),Obj.data_mapFields hdT _,by
   rw[Array.getElem?_setIfInBounds_self_of_lt (Array.getElem?_eq_some_iff.mp h3).1]⟩ }
theorem b5i{base:Heap}{env e0:Env}{Q:e1n→e1m→Prop}(hfr:A.frames=some (e0::outer))(hl:s.heap.FunFrames base (e0::outer))
 (h0:e0.frame=env.frame) (hf:env.frame=some L) (h:∀h',Heap.SlotsOnly ((e0::outer).filterMap (·.frame)) s.heap h'→Q (.ref L) { s with heap:=h' }):e1p (model C.prog C.w) A (PySem.frameOf env) Q E s:=by
 have x:e1p (model C.prog C.w) A (PySem.frameOf e0) Q E s:=wpAny_frameOf_fun hfr hl (h0.trans hf) h;unfold PySem.frameOf at x ⊢;rw[←h0];exact x
theorem b3l{env e0:Env}(h0f:e0.frame=env.frame){head:e1n}{hadNext:Bool}{Q:Unit→e1m→Prop}(hfr:A.frames=some (e0::outer))(hin:FsIn s.heap (e0::outer))(hf:env.frame=some L)(x:Exc h0 s.heap (e0::outer) e cls a0 tb fl)
 (h:∀h' T,Exc h0 h' (e0::outer) e cls a0 (.ref T) (rawInt L)→Q () { s with heap:=h' }) :
  e1p (model C.prog C.w) A (do let a ←frameOf env; let pl ←entryPlaceOf L hadNext; let b ←EntryCells.newEntry head a .none (rawInt L) .none pl; setField (.ref e) 1 b) Q E s:=by
 obtain⟨oe,vs,he,hc,hd,h00,h1,h2⟩:=x.exc;have hene:e∉(e0::outer).filterMap (·.frame):=fun hm=>by
  obtain⟨e',he',hfe⟩:=List.mem_filterMap.mp hm;obtain⟨_,L',o,es,ep,q1,q2,q3⟩:=hin e' he';rw[hfe]at q1; cases q1;rw[he]at q2; cases q2;rw[hd]at q3; cases q3
 have hbase:∃base:Heap,∀L∈(e0::outer).filterMap (·.frame),base.get? L=none:=by
  obtain⟨b,_,hb⟩:=a6v s.heap fun _=>false;exact⟨b,fun L _=>by rw[hb L]; rfl⟩
 obtain⟨base,hb⟩:=hbase;refine e1k (b5i hfr (hin.fun hb) h0f hf fun h₁ hs₁=>?_);refine e1k (wpAny_entryPlaceOf fun pl hpl=>?_);unfold EntryCells.newEntry newFields;refine e1k (wpAny_newObj_type ?_ (hpl.sizeOk5 _ _ _ _ _));have he₁:h₁.get? e=some oe:=(hs₁.2.1 e hene).trans he;generalize hT:({ cls:=.type "traceback",dict:=none,data:=.fields ([head,.ref L,.none,rawInt L,.none]++(if pl.isEmpty then List.replicate 6 Value.none else pl)).toArray }:Obj)=oT
 have he₂:=Heap.get?_push_of_some (h:=h₁) oT he₁;have hsz:1<vs.size:=(Array.getElem?_eq_some_iff.mp h1).1;refine wpAny_setField he₂ hd hsz (h _ h₁.objs.size ?_);have hTe:h₁.objs.size≠e:=Nat.ne_of_gt (Heap.lt_size he₁);have hd₃:=Obj.data_mapFields hd (·.setIfInBounds 1 (Value.ref h₁.objs.size));have he₃:=Heap.get?_update_self (Obj.mapFields (·.setIfInBounds 1 (Value.ref h₁.objs.size))) he₂ (Obj.isFreed_of_fields hd₃);have hT₂:(h₁.push oT).get? h₁.objs.size=some oT:=Heap.get?_push_size h₁ (by subst hT; rfl)
 have other:∀b o,b≠e→h₁.get? b=some o→((h₁.push oT).update e (Obj.mapFields (·.setIfInBounds 1 (Value.ref h₁.objs.size)))).get? b=some o:=fun b o hbe hb=>by
  rw[Heap.get?_update_other _ _ (Ne.symm hbe)];exact Heap.get?_push_of_some _ hb
 have hbe:∀b o,h0.get? b=some o→b≠e:=fun b o e' q=>by rw[q,x.new]at e'; cases e'
 exact{
  keep:=fun b o e' hb=>other b o (hbe b o e') ((hs₁.2.1 b hb).trans (x.keep b o e' hb))
  slots:=fun b o e'=>by
   obtain⟨sl,e1⟩:=x.slots b o e';obtain⟨sl2,e2⟩:=hs₁.2.2 b _ e1;exact⟨sl2,other b _ (hbe b o e') e2⟩
  new:=x.new
  exc:=⟨_,_,he₃,(Obj.cls_mapFields _ _).trans hc,hd₃,by rw[Array.getElem?_setIfInBounds_ne (by decide)]; exact h00,by simp[hsz],by rw[Array.getElem?_setIfInBounds_ne (by decide)]; exact h2⟩
  trace:=fun _=>by
   have hn:h0.get? h₁.objs.size=none:=by
    cases q:h0.get? h₁.objs.size with
    |none=>rfl
    |some o=>
     obtain⟨sl,e1⟩:=x.slots _ o q
     have:=Heap.lt_size e1
     rw[hs₁.1]at this
     exact absurd this (Nat.lt_irrefl _)
   refine⟨h₁.objs.size,oT,_,rfl,hn,hTe,?_,by subst hT; rfl,by simp⟩
   rw[Heap.get?_update_other _ _ (Ne.symm hTe)];exact hT₂ }
theorem b7c{env e0:Env}(h0f:e0.frame=env.frame){Q:Unit→e1m→Prop}(hfr:A.frames=some (e0::outer))(hin:FsIn s.heap (e0::outer))(hf:env.frame=some L)(x:Exc h0 s.heap (e0::outer) e cls a0 tb fl)(hfl:tb=.none∨fl=.none)
 (h:∀h' T,Exc h0 h' (e0::outer) e cls a0 (.ref T) (rawInt L)→Q () { s with heap:=h' }):e1p (model C.prog C.w) A (noteFrame (.ref e) env) Q E s:=by
 obtain⟨oe,vs,he,hc,hd,h00,h1,h2⟩:=x.exc;unfold noteFrame;simp only[hf];refine e1k (e2d he hd h1 ?_)
 by_cases ht:tb=.none
 ·subst ht
  exact b3l h0f hfr hin hf x h
 ·have hfl:fl=.none:=hfl.resolve_left ht
  subst hfl;obtain⟨T,oT,ts,rfl,hT0,hTe,hT,hdT,h3⟩:=x.trace ht;rw[if_pos (show(Value.ref T != Value.none)=true from by simp)]
  refine e1k (e2d hT hdT h3 ?_);rw[if_neg (show ¬((Value.none==rawInt L)=true) from by simp[rawInt])]
  refine e1k (wpAny_setField hT hdT (Array.getElem?_eq_some_iff.mp h3).1 ?_);have other:∀b,b≠T→∀f,(s.heap.update T f).get? b=s.heap.get? b:=fun b hb f=>Heap.get?_update_other _ _ (Ne.symm hb);have hbT:∀b o,h0.get? b=some o→b≠T:=fun b o e' q=>by rw[q,hT0]at e'; cases e'
  have hLT:∀L'∈(e0::outer).filterMap (·.frame),L'≠T:=fun L' hm q=>by
   obtain⟨e',he',hfe⟩:=List.mem_filterMap.mp hm;obtain⟨_,L2,o,es,ep,q1,q2,q3⟩:=hin e' he';rw[hfe]at q1; cases q1;subst q;rw[hT]at q2; cases q2;rw[hdT]at q3; cases q3
  refine b3l h0f (s:={ s with heap:=_ }) (tb:=.ref T) (fl:=.none) hfr (fun e' he'=>?_) hf ?_ h
  ·obtain⟨k1,L2,o,es,ep,q1,q2,q3⟩:=hin e' he'
   exact⟨k1,L2,o,es,ep,q1,(other L2 (hLT L2 (List.mem_filterMap.mpr ⟨e',he',q1⟩)) _).trans q2,q3⟩
  ·exact{
    keep:=fun b o e' hb=>(other b (hbT b o e') _).trans (x.keep b o e' hb)
    slots:=fun b o e'=>by obtain⟨sl,e1⟩:=x.slots b o e'; exact⟨sl,(other b (hbT b o e') _).trans e1⟩
    new:=x.new
    exc:=⟨oe,vs,(other e (Ne.symm hTe) _).trans he,hc,hd,h00,h1,h2⟩
    trace:=fun _=>⟨T,_,_,rfl,hT0,hTe,Heap.get?_update_self _ hT (Obj.isFreed_of_fields (Obj.data_mapFields hdT _)),Obj.data_mapFields hdT _,by
     rw[Array.getElem?_setIfInBounds_self_of_lt (Array.getElem?_eq_some_iff.mp h3).1]⟩ }
theorem b5j{Q:Unit→e1m→Prop}(hfr:A.frames=some (env::outer))(hin:FsIn s.heap (env::outer))(hf:env.frame=some L)(x:Exc h0 s.heap (env::outer) e cls a0 tb fl)(hfl:tb=.none∨fl=.none)
 (h:∀h' T,Exc h0 h' (env::outer) e cls a0 (.ref T) .none→Q () { s with heap:=h' }):e1p (model C.prog C.w) A (leaving env (.ref e)) Q E s:=by
 unfold leaving;refine e1k (b7c rfl hfr hin hf x hfl fun h' T x'=>?_);exact a5t x' (by simp) fun h'' x''=>h h'' T x''
end
end
section
section
variable {C:Cfg} {A:e1x} {E:e1n→e1m→Prop} {s:e1m} {g:Heap} {h0 h1 h:Heap} {fs fs':List Env} {e:Addr} {cls a0 tb fl:e1n}
theorem Exc.shrink(x:Exc h0 h fs e cls a0 tb fl)(sb:Sub h1 h0)(hb:∀b o,h1.get? b=some o→b∈fs.filterMap (·.frame)→b∈fs'.filterMap (·.frame)):Exc h1 h fs' e cls a0 tb fl where
 keep:=fun b o e' hm=>x.keep b o (sb b o e') fun hm'=>hm (hb b o e' hm')
 slots:=fun b o e'=>x.slots b o (sb b o e')
 new:=by
  cases q:h1.get? e with
  |none=>rfl
  |some o=>have:=sb e o q; rw[x.new]at this; cases this
 exc:=x.exc
 trace:=fun ht=>by
  obtain⟨T,oT,ts,h1',h2,h3⟩:=x.trace ht;refine⟨T,oT,ts,h1',?_,h3⟩;cases q:h1.get? T with
  |none=>rfl
  |some o=>have:=sb T o q; rw[h2]at this; cases this
theorem c7n{α:Type}{Q:α→e1m→Prop}(hh:A.handled=none)
 (h:∀h' e a0,(∀fs fl,Exc s.heap h' fs e (.type "StopIteration") a0 .none fl)→Sub s.heap h'→E (.ref e) { s with heap:=h' }) :
  e1p (model C.prog C.w) A (newExc (.type "StopIteration") [] >>= fun e=>(raiseNew e:Sem α)) Q E s:=by
 refine e1k ?_;refine e1k (wpAny_newObj_type ?_ (by size_fits))
 refine e1k (m:=firstArgMember _ _) (e2c (a:=Value.none) (by first|rfl|(simp only[firstArgMember]; rfl)) ?_)
 refine wpAny_newObj_type ?_ (by size_fits)
 dsimp only[raiseNew];refine e1k (wpAny_handled ?_);generalize hH:(s.heap.push { cls:=.type "tuple",dict:=none,data:=.seq ([]:List e1n).toArray })=H;have hH':Sub s.heap H:=hH▸a0f _;have hsz:H.objs.size=s.heap.objs.size+1:=by subst hH; simp[Heap.push]
 have hget:∀vs:Array e1n,(H.push { cls:=.type "StopIteration",data:=.fields vs }).get? H.objs.size=some { cls:=.type "StopIteration",data:=.fields vs }:=fun vs=>Heap.get?_push_size _ rfl;rw[hh];have sb:=hH'.trans (a0f (h:=H) { cls:=.type "StopIteration",data:=.fields (#[.ref s.heap.objs.size,.none,.none,.none,.bool false,.none]++ownMembersOf (.type "StopIteration") []) });refine e1k (e1o (wpAny_throw (h _ _ (.ref s.heap.objs.size) (fun fs fl=>?_) sb)));exact{
  keep:=fun b o e' _=>sb b o e'
  slots:=fun b o e'=>⟨o.slots,sb b o e'⟩
  new:=a0s (by exact a1b (.l N0 N1) (.e N1 (.p N0 O1)) hsz)
  exc:=⟨_,_,hget _,rfl,rfl,rfl,rfl,rfl⟩
  trace:=fun q=>absurd rfl q }
theorem c4b{a:Addr}(hh:A.handled=none)(sg:Sub g s.heap)(o:OwnOK g s.heap a (.iter []))
 (h:∀s1 h' e a0,Step [a] s g s1 g→Sub g s1.heap→(∃o,s1.heap.get? a=some o∧b9t o)→(∀fs fl,Exc s1.heap h' fs e (.type "StopIteration") a0 .none fl)→Sub s1.heap h'→E (.ref e) { s1 with heap:=h' }) {Q:e1n→e1m→Prop} :
  e1p (model C.prog C.w) A (call (.builtin "next") [.ref a]) Q E s:=by
 obtain⟨hg,b,vs,i,l,hit,hl,hr,e⟩:=o;have hx:vs.toArray[i]?=none:=by
  have h1:l.length≤i:=List.drop_eq_nil_iff.mp e.symm;have h2:=hr.length
  simp; exact a2a (.l N0 N1) (.l N2 N1) (.e N0 N2) h1 h2
 refine Calls.call_function_entry b3q a9i a9w (b3m _) ?_;unfold Builtin.«next»;refine e1k (m:=someArgs "next" 1 2 _) (e1o ?_);refine e1k (wpAny_specialOf hit.typeIs slot_listiter_next.lookup ?_);obtain⟨ob,ho,hc,hdat⟩:=id hit;obtain⟨ol,hol,_,nl,hdl⟩:=a0d sg hl;refine e1k (m:=callSpecial? (.ref a) (Str.ofString "__next__")) (wpAny_callSpecial?_slot (name:=Str.ofString "__next__") hit.typeIs slot_listiter_next
  (wpAny_call_entry slot_listiter_next hit.typeIs entry_listiter_next ?_ (args_listiter_next _)))
 show e1p _ _ (field (.ref a) 0 >>= _) _ _ s;refine e1k (e2d ho hdat (x:=.ref b) rfl ?_);show e1p _ _ (if (Value.ref b==Value.none)=true then _ else _) _ _ s
 show e1p _ _ (field (.ref a) 1 >>= _) _ _ s;refine e1k (e2d ho hdat (x:=.int i 0) rfl ?_);show e1p _ _ (seqItems? (.ref b) >>= _) _ _ s;refine e1k (wpAny_seqItems hol hdl ?_);simp only[Int.toNat_natCast,hx];refine e1k (wpAny_rule (e1k (wpAny_setField ho hdat (by simp) ?_)))
 have hs:Heap.SameBut a s.heap (s.heap.update a (Obj.mapFields fun vs=>vs.setIfInBounds 0 .none)):=Heap.SameBut.update ..;obtain⟨x,sg'⟩:=Step.one (tk:=s.toks) sg hg hs;refine c7n (A:=A.in1.in1) (s:={ s with heap:=s.heap.update a (Obj.mapFields fun vs=>vs.setIfInBounds 0 .none) }) (by exact hh) fun h' e a0 hx hsub=>?_
 have hd':=Obj.data_mapFields hdat (·.setIfInBounds 0 Value.none);exact h _ h' e a0 x sg' ⟨_,Heap.get?_update_self _ ho (Obj.isFreed_of_fields hd'),by intro es ep q; rw[hd']at q; cases q⟩ hx hsub
inductive PvAt(C:Cfg)(k:Ck):Prop
 |mk:∀a o fd r p1 p2 p3 p4 p5 ls,C.mg "_parse_varint" = some (.ref a)→o.data=.func fd→(∀g,C.Amb g→g.get? a=some o∧g.CodeRec fd.code fd.qualname)→FnOK fd ["iterator"] ls (.Assign [.Name "b" p1] (.Call (.Name "next" p2) [.Name "iterator" p3] [] p4) p5::r)→fd.scope.names.lookup ("next" : Str)=some .globalImplicit→fd.scope.names.lookup ("iterator" : Str)=some .local→PvAt C k
theorem FsIn.of{al:List Addr}{fs:List Env}(f:∀e∈fs,e.scope.kind ≠ .module∧∃L,e.frame=some L∧g.get? L=none∧L∉al∧L∉C.TA∧∃o es ep,h.get? L=some o∧o.data=.dict es ep)(hk:∀b o,b∉al→h.get? b=some o→∃sl,h'.get? b=some { o with slots:=sl }):FsIn h' fs:=fun e he=>by
 obtain⟨k1,L,k2,k3,k4,k5,o,es,ep,k6,k7⟩:=f e he;obtain⟨sl,e1⟩:=hk L o k4 k6;exact⟨k1,L,_,es,ep,k2,e1,k7⟩
theorem FsIn.cons{h:Heap}{e:Env}{fs:List Env}(hk:e.scope.kind=.function)(hf:e.frame=some L)(h0:∃o es ep,h.get? L=some o∧o.data=.dict es ep)(f:FsIn h fs):FsIn h (e::fs):=fun e' he=>by
 rcases List.mem_cons.mp he with rfl|he
 ·exact⟨by rw[hk]; simp,L,h0.elim fun o h=>h.elim fun es h=>h.elim fun ep h=>⟨o,es,ep,hf,h⟩⟩
 ·exact f e' he
theorem FrOK.top{C:Cfg}{A:e1x}{g h:Heap}{al:List Addr}{fs:List Env}(f:FrOK C A env g h al)(hfs:A.frames=some fs)(hl:g.get? env.locals=none):∃e0 rr L0,fs=e0::rr∧e0.frame=env.frame∧env.frame=some L0∧∀b o,g.get? b=some o→b∉(e0::rr).filterMap (·.frame):=by
 obtain⟨fs',⟨f1,e0,rr,rfl,h0f⟩,f2⟩:=f;cases Option.some.inj (f1.symm.trans hfs);obtain⟨_,L0,k2,_⟩:=f2 e0 (.head _);refine⟨e0,rr,L0,rfl,h0f,h0f▸k2,fun b o e hm=>?_⟩;obtain⟨e',he',hfe⟩:=List.mem_filterMap.mp hm;obtain⟨_,L,q2,q3⟩:=f2 e' he';rw[hfe]at q2; cases q2
 rcases q3 with rfl|⟨q3,_⟩
 ·rw[hl]at e; cases e
 ·rw[q3]at e; cases e
theorem FsIn.nd{h:Heap}{fs:List Env}(f:FsIn h fs)(b:Addr)(o:Obj)(e:h.get? b=some o)(hn:b9t o):b∉fs.filterMap (·.frame):=fun hm=>by
 obtain⟨e',he',hfe⟩:=List.mem_filterMap.mp hm;obtain⟨_,L,o',es,ep,q2,q3,q4⟩:=f e' he';rw[hfe]at q2; cases q2;rw[q3]at e; cases e;exact hn es ep q4
theorem d2k{k:Ck}{al:List Addr}{ow:List OV}{a:Addr}{Q:e1n→e1m→Prop}(G:Good C k){pa:Addr}{po:Obj}{r:List Stmt}{p1 p2 p3 p4 p5:Pos}(hfo:po.data=.func fd)(hg:∀g,C.Amb g→g.get? pa=some po∧g.CodeRec fd.code fd.qualname)
 (ok:FnOK fd ["iterator"] ls (.Assign [.Name "b" p1] (.Call (.Name "next" p2) [.Name "iterator" p3] [] p4) p5::r)) (hkn:fd.scope.names.lookup ("next" : Str)=some .globalImplicit) (hki:fd.scope.names.lookup ("iterator" : Str)=some .local)
 (hd:A.depth+1≤recursionLimit) (hh:A.handled=none) (B:BRel C g s.heap al ow) (fb:FrB C A g s.heap al) (ha:a∈al) (q:OwnOK g s.heap a (.iter []))
 (hE:∀h1 h' e a0 T fs tk,A.frames=some fs→FsIn h1 fs→Sub g h1→(∀b o,b≠a→s.heap.get? b=some o→KeptIn h1 b o)→(∃o,h1.get? a=some o∧b9t o)→Exc h1 h' fs e (.type "StopIteration") a0 (.ref T) .none→E (.ref e) { s with heap:=h',toks:=tk }) :
  e1p (model C.prog C.w) A (call (.ref pa) [.ref a]) Q E s:=by
 obtain⟨ho,hcr⟩:=hg g B.amb;have T:=B.amb.T.keeps B.sub;refine wpAny_call (codeAny_call_cells (by omega) (B.sub _ _ ho) hfo T.nolimit ?_ ok.body (ok.bind [.ref a] rfl) ok.closure (fun x hx=>?_) (fun s1 x=>?_) ok.co ok.gen ok.kind)
 ·obtain⟨c,oc,fs,t,e1,e2,e3,e4⟩:=hcr; exact⟨c,oc,fs,t,e1,B.sub _ _ e2,e3,e4⟩
 ·simp at hx; subst hx; exact .inl hki
 ·obtain⟨fs,f1,f2⟩:=fb
  have hnew:∀b,s.heap.objs.size≤b→s.heap.get? b=none:=fun b hb=>a0s hb;have sb:Sub s.heap s1.heap:=x.toInCall.keep;obtain⟨h1,tk1,rfl⟩:=x.toInCall.same;have T1:=T.keeps sb;have hal:∃o,s.heap.get? a=some o:=q.alive B.sub;have haL:a≠s.heap.objs.size:=by obtain⟨o,ho⟩:=hal; exact Nat.ne_of_lt (Heap.lt_size ho)
  have q1:OwnOK g h1 a (.iter []):=q.keep (.refl g) (fun o ho=>.of (sb _ _ ho)) id;have hns:=x.toInCall.ns;have hit:(e1q fd s.heap.objs.size pa).kindOf "iterator" = some .local:=hki;have hv:bindL (e1q fd s.heap.objs.size pa).kindOf ([("iterator" : Str)].zip [Value.ref a]) (fun _=>none) ("iterator" : Str)=some (.ref a):=by
   rw[b1s hit _ _ (by simp)]; simp
  have nsd:∃o es ep,h1.get? s.heap.objs.size=some o∧o.data=.dict es ep:=hns.imp fun _=>Exists.imp fun _=>Exists.imp fun _ h=>⟨h.1,h.2.1⟩;have fs0:FsIn h1 (e1q fd s.heap.objs.size pa::fs):=FsIn.cons ok.kind rfl nsd (FsIn.of f2 fun b o _ e=>⟨o.slots,sb _ _ e⟩);refine e1t (wpAny_Assign_Name ?_ (a4b rfl));refine e2b (Name_function_global ok.kind hkn (loadGlobal_builtin (v:=.builtin "next") (by rw[show(e1q fd s.heap.objs.size pa).globals=e1v from ok.globals]; exact T1.g) (G.bn "next" (by decide)) (by rw[show(e1q fd s.heap.objs.size pa).builtins=builtinsNs from ok.builtins]; exact T1.b) (by rw[T1.builtins "next" (by decide)]; rfl) ?_) (by decide))
  refine a2f rfl (by simp) (spliced_more (wpAny_Name (e2g ok.kind hit hns hv (spliced_nil ?_)) (by decide)) rfl)
  refine c4b (A:=A.deeper _) (g:=g) (by exact hh) (B.sub.trans sb) q1 fun s2 h' e a0 st2 sg2 oa hx hsub=>?_
  obtain⟨h2,tk2,rfl⟩:=st2.same;have keep2:∀b o,b∉al→s.heap.get? b=some o→∃sl,h2.get? b=some { o with slots:=sl }:=fun b o hb e=>(st2.keep b o (by simpa using fun q:b=a=>hb (q▸ha)) (sb _ _ e)).imp fun _=>And.left
  have fs2:FsIn h2 (e1q fd s.heap.objs.size pa::fs):=FsIn.cons ok.kind rfl (by
    obtain⟨o,es,ep,k3,k4⟩:=nsd;obtain⟨sl,e1,_⟩:=st2.keep _ o (by simpa using Ne.symm haL) k3
    exact⟨_,es,ep,e1,k4⟩) (FsIn.of f2 keep2)
  have hfrA:(A.deeper (e1q fd s.heap.objs.size pa)).frames=some (e1q fd s.heap.objs.size pa::fs):=by show A.frames.map _=_; rw[f1]; rfl
  have X0:=hx (e1q fd s.heap.objs.size pa::fs) .none;refine b5j (s:={ s with heap:=h',toks:=tk2 }) (L:=s.heap.objs.size) hfrA (fs2.keep X0.slots) rfl X0 (.inl rfl) fun h3 T3 X3=>?_
  obtain⟨h4,_,e4⟩:=a6v h2 fun b=>(s.heap.get? b).isSome;have sb4:Sub h4 h2:=fun b o e'=>by
                                             rw[e4 b]at e'; split at e'; · exact e'
                                             · cases e'
  have in4:∀b o,s.heap.get? b=some o→h4.get? b=h2.get? b:=fun b o e'=>by rw[e4 b]; simp[e']
  have X4:Exc h4 h3 fs e (.type "StopIteration") a0 (.ref T3) .none:=X3.shrink sb4 fun b o e' hm=>by
   rw[List.filterMap_cons]at hm;have hm:b∈s.heap.objs.size::fs.filterMap (·.frame):=hm
   rcases List.mem_cons.mp hm with h|h
   ·rw[e4 b,h,a0s (Nat.le_refl _)]at e'; cases e'
   ·exact h
  refine hE h4 h3 e a0 T3 fs tk2 f1 (FsIn.of f2 fun b o hb e'=>(keep2 b o hb e').imp fun _ k=>(in4 b o e').trans k) (fun b o e'=>(in4 b o (B.sub _ _ e')).trans (sg2 _ _ e')) (fun b o hb e'=>?_) ?_ X4
  ·obtain⟨sl,e1,e2⟩:=st2.keep b o (by simpa using hb) (sb _ _ e')
   exact⟨sl,(in4 b o e').trans e1,e2⟩
  ·obtain⟨o,ho⟩:=hal
   obtain⟨o2,k1,k2⟩:=oa;exact⟨o2,(in4 a o ho).trans k1,k2⟩
end
end
section
section
variable {C:Cfg} {Γ:Ctx} {n:Nat} {hz:Bool} {k:Ck} {sc:SI}
theorem c5f:isSubtype (.type "StopIteration") (.type "StopIteration")=pure true:=by rw[isSubtype_type]; kernel_rfl
theorem b9x:isSubtype (.type "StopIteration") (.type "BaseException")=pure true:=by rw[isSubtype_type]; kernel_rfl
theorem c2t:isSubtype (.type ((Manifest.find? "StopIteration").elim "type" fun x=>x.metatype)) (.type "tuple")=pure false:=by
 first|(rw[isSubtype_type]; kernel_rfl)|kernel_rfl
theorem b2m{A:e1x}{env:Env}{g:Heap}{s:e1m}{al:List Addr}{st:St}{Eh:e1n→e1m→Prop}{pos:Pos}{i:Nat}(H:Here C sc hz n A env g s al st) :
  ∀(pre:List Nat) (l:List Expr) (Q':List e1n→e1m→Prop),c1a sc i pre l=true→(∀j∈pre,st.get j ≠ .undef)→
   (∀(z:Str) (p1 p2 p3:Pos) Q'',nmv sc z i=true→e1p (model C.prog C.w) A (eval (.Call (.Name "_parse_varint" p1) [.Name z p2] [] p3) env) Q'' Eh s)→e1p (model C.prog C.w) A (spliced (e2e pos (e1z (c2z pre l) env))) Q' Eh s
 |[]=>fun l Q' hz' hu h=>spliced_more (h _ _ _ _ _ hz') rfl
 |j::pre=>fun l Q' hz' hu h=>by
  obtain⟨hi,hd,hcd⟩:=a3w (a0b hz');refine spliced_more (a1h H.eok H.rel hi (hu j (.head _)) hd hcd fun v hv=>?_) rfl;exact b2m H pre l.tail _ (a0a hz') (fun i hi=>hu i (List.mem_cons_of_mem _ hi)) h
theorem d6w (Gd:Good C k) (P:PvAt C k) {pre:List Nat} {l:List Expr} {hb:List Stmt} {h:Ss} {ep lp rp hp pos:Pos} (hn:0<n) (he:a5x sc "StopIteration" = true) (hy:a5x sc "_parse_varint" = true) (hpre:c1a sc i pre l=true) (hcons:∃a r,hb=a::r) (hH:SSs C Γ sc n false h hb) :
  SS C Γ sc n true (.tryStop pre i h) (.Try [.Return (some (.List (c2z pre l) lp)) rp] [.ExceptHandler (some (.Name "StopIteration" ep)) none hb hp] [] [] pos):=fun A env g s al st_ Eh Q Q' H hw kk=>by
 obtain⟨h0,hr,rfl⟩:=hcons;obtain⟨hzs,hpr,hw⟩:=hw
 split at hw
 case h_2=>exact hw.elim
 rename_i j ej
 split at hw
 case h_2=>exact hw.elim
 rename_i hl;have hh:A.handled=none:=H.ok.none hzs;obtain⟨pa,po,fd,r,p1,p2,p3,p4,p5,ls,hmg,hfo,hg,ok,hkn,hki⟩:=P;have hyk:=(a0z hy).1;have hek:=(a0z he).1;have hpr':∀j∈pre,st_.get j ≠ .undef:=fun j hj q=>by
  obtain⟨v,e1,e2⟩:=hpr j hj;rw[q]at e1; subst e1; exact e2
 rw[arm_exec_Try];refine e1k (e1y (wpAny_tryStmt_except ?_));refine e1t (wpAny_Return_some (List_ (b2m H pre l _ hpre hpr' fun z p1' p2' p3' Q'' hzi=>?_)));obtain⟨hiz,hdz,hcz⟩:=a3w hzi;refine e2b (a1q H hyk (by decide) hmg (a5b hfo ⟨_,_,rfl,rfl⟩ ?_))
 refine spliced_more (a1h H.eok H.rel hiz (by rw[ej]; simp) hdz hcz fun v hv=>spliced_nil ⟨H.rel.sub _ _ (hg _ H.rel.amb).1,?_⟩) rfl
 rw[ej]at hv;obtain⟨a,rfl,ha,q⟩:=a3g H.rel hv hl;have ham:=List.mem_of_getElem? ha;refine d2k Gd hfo hg ok hkn hki (by have:=H.ok.depth; exact a2a (.l (.p N0 O1) N1) (.t (.k 0) N2) (.l (.p N0 N2) N1) hn this) hh H.rel.b (H.fr.b H.rel) ham q fun h1 h' x a0 T fs tk hfs fin sg1 far oa X=>?_
 obtain⟨e0,rr,L0,rfl,h0f,hf0,gfr⟩:=FrOK.top H.fr hfs H.rel.pgl;refine b7c (s:={ s with heap:=h',toks:=tk }) h0f hfs (fin.keep X.slots) hf0 X (.inr rfl) fun h2 T2 X2=>?_
 refine a5t (s:={ s with heap:=h2,toks:=tk }) X2 (by simp) fun h3 X3=>?_
 obtain⟨o2,hoa,hna⟩:=oa;obtain⟨hga,-⟩:=q;have sg3:Sub g h3:=fun b o e=>X3.keep b o (sg1 _ _ e) (gfr b o e);refine wpAny_handleBy_builtin b9x c2t c5f ?_;have T3:=H.rel.amb.T.keeps sg3;refine Name_function_global H.eok.kind (by rw[H.eok.kindOf]; exact hek) (loadGlobal_builtin (v:=.type "StopIteration") (by rw[H.eok.globals]; exact T3.g) (Gd.bn "StopIteration" (by decide)) (by rw[H.eok.builtins]; exact T3.b) (by rw[T3.builtins "StopIteration" (by decide)]; rfl) ?_) (by decide)
 obtain⟨oe3,vs3,hoe3,hce3,_⟩:=X3.exc;refine⟨rfl,⟨oe3,hoe3,hce3⟩,?_⟩;refine a5t (s:={ s with heap:=h3,toks:=tk }) X3 (by simp) fun h4 X4=>?_
 have sg4:Sub g h4:=fun b o e=>X4.keep b o (sg1 _ _ e) (gfr b o e);have dfr:=fin.nd;obtain⟨oe,vs,hoe,hce,hde,_,_,hv2⟩:=X4.exc;obtain⟨g',gs1,gs2,gx,go,gnd⟩:=a5o sg4 x fun o e1 e2=>by rw[hoe]at e1; cases e1; rw[hce]at e2; simp at e2
 have xnew:s.heap.get? x=none:=by
  cases q:s.heap.get? x with
  |none=>rfl
  |some o=>
   by_cases hxa:x=a
   ·have:=X4.new; rw[hxa,hoa]at this; cases this
   ·obtain⟨_,e1,_⟩:=far x o hxa q
    have:=X4.new; rw[e1]at this; cases this
 have st:Step [a] s g { s with heap:=h4,toks:=tk } g':={
  same:=⟨h4,tk,rfl⟩
  sub:=gs1
  keep:=fun b o hb e=>by
   obtain⟨sl,e1,e2⟩:=far b o (by simpa using hb) e
   obtain⟨sl2,e3⟩:=X4.slots b _ e1;refine⟨sl2,e3,fun hn=>?_⟩;have e4:=X4.keep b _ e1 (dfr b _ e1 hn);rw[e3]at e4
   have:=congrArg Obj.slots (Option.some.inj e4)
   exact this.trans (e2 hn)
  low:=fun _=>gs2
  fresh:=fun b o hb e eg=>(go b fun q=>by rw[q,xnew]at e; cases e).trans eg
  nd:=gnd }
 have hxa:x≠a:=fun q=>by
  have:=X4.new; rw[q,hoa]at this; cases this
 have dead:OwnOK g' h4 a .dead:=⟨(go a (Ne.symm hxa)).trans hga,o2,X4.keep a o2 hoa (dfr a o2 hoa hna),hna⟩;have R2:=H.rel.turn st gs2 ha (fun b hb=>by simpa using hb) dead
 have gxx:g'.get? x=some oe:=gx.trans hoe;have FR2:FrOK C A env g' h4 al:=H.fr.step st fun b hb=>.inr (.inl (by simp at hb; subst hb; exact ham))
 have R3:Rel C sc env g' h4 al { st_.setOwn j .dead with hz:=false }:={ R2 with }
 have H3:Here C sc false n (A.mark (some (.ref x))) env g' { s with heap:=h4,toks:=tk } al { st_.setOwn j .dead with hz:=false }:=
  ⟨⟨H.ok.depth,H.ok.units,(fun q=>by cases q),.inr ⟨x,oe,vs,rfl,gxx,hde,hv2⟩⟩,(fun q=>by cases q),H.eok,R3,FR2⟩
 refine hH _ env g' _ al _ _ _ _ H3 hw fun fl f al5 g5 s5 st5 a5 hf5 hq5=>?_;refine kk fl f al5 g5 s5 { st5 with hz:=true } ⟨a5.pre,fun b hb=>?_,hzs.symm,?_,?_⟩ hf5 hq5
 ·refine(a5.new b hb).imp id fun q=>?_
  cases q2:s.heap.get? b with
  |none=>rfl
  |some o=>
   by_cases hba:b=a
   ·subst hba
    have q:h4.get? b=none:=q;rw[X4.keep b o2 hoa (dfr b o2 hoa hna)]at q; cases q
   ·obtain⟨_,e1⟩:=(st.keep b o (by simpa using hba) q2).alive
    have q:h4.get? b=none:=q;have e1:h4.get? b=_:=e1;rw[q]at e1; cases e1
 ·have R5:=a5.here.rel
  exact⟨⟨H.ok.depth,H.ok.units,fun _=>hh,.inl hh⟩,fun _=>rfl,H.eok,{ R5 with },a5.here.fr⟩
 ·refine(st.mono fun b hb=>?_).tr a5.step
  simp at hb; subst hb;exact List.mem_append_right _ (List.mem_append_left _ ham)
end
end
section
theorem a4v:entryFor table "dict_itemiterator.__iter__" = some Builtin.«dict_keyiterator.__iter__»:=entryFor_alias (id':="dict_keyiterator.__iter__") (by kernel_rfl) rfl (by decide +kernel) (by kernel_rfl)
section
variable {C:Cfg} {A:e1x} {E:e1n→e1m→Prop} {s:e1m} {g:Heap} {K:Type} [DecidableEq K] {knd:KeyKind C.prog C.w K}
theorem a8z{it d:Addr}{i ep:Nat}{kvs:List (K×e1n)}{ok ov:e1n}{Q:Option e1n→e1m→Prop}(hk:HOK A g)(sg:Sub g s.heap)(hg:g.get? it=none)(hit:IsItemIter s.heap it d i kvs.length ep ok ov)
 (hm:s.heap.DictAt knd d kvs ep) (hx:kvs[i]?=none)
 (hQ:∀h',Heap.ExtBut it s.heap h'→Q none { s with heap:=h' }):e1p (model C.prog C.w) A (pyNext (.ref it)) Q E s:=by
 obtain⟨od,es,hod,hcd,hdd,hk',hpr,hn⟩:=id hm;have hT:s.TypeIs (.ref it) "dict_itemiterator" :=⟨_,hit,rfl⟩;unfold pyNext;refine e1k (wpAny_attempt (wpAny_callSpecial?_slot (name:=Str.ofString "__next__") hT F.slot_dict_itemiterator_next
  (wpAny_call_entry F.slot_dict_itemiterator_next hT F.entry_dict_itemiterator_next ?_ (F.args_dict_itemiterator_next_1 _))))
 refine e1k (e1o ?_);refine e1k ?_;refine e1k ?_;refine e1k (wpAny_typeNameOfWhole_itemiter hT (e1o ?_));refine e1k (wpAny_fieldsOf hit rfl ?_);have hown:Builtin.Dict_items.ownsTuple "dict_itemiterator" = true:=by decide
 show e1p _ _ (if (Value.ref d==Value.none)=true then _ else _) _ _ s
 refine e1k (e1o ?_);refine e1k (wpAny_dictEntries hod hdd ?_);have hsz:es.size=kvs.length:=by rw[←hpr.length]; simp
 rw[if_neg (by rw[hsz]; simp)]
 refine e1k (e1o ?_);refine e1k (wpAny_dictEpoch hod hdd ?_);rw[if_neg (by simp)]
 refine e1o ?_;have hge:es.size≤i:=by rw[hsz]; simpa using hx
 dsimp only;rw[show(if (i:Int)<0 then none else es[(i:Int).toNat]?)=none from(if_neg (Int.not_lt.mpr (Int.natCast_nonneg i))).trans ((congrArg (es[·]?) (Int.toNat_natCast i)).trans (Array.getElem?_eq_none hge))]
 refine e1k ?_;refine e1k (wpAny_typeNameOfWhole_itemiter hT (e1o ?_));show e1p _ _ (setField (.ref it) 2 .none >>= _) _ _ s;refine e1k (wpAny_setField hit rfl (by simp) ?_)
 have hs:Heap.SameBut it s.heap (s.heap.update it (Obj.mapFields fun vs=>vs.setIfInBounds 2 .none)):=Heap.SameBut.update ..;obtain⟨_,sg'⟩:=Step.one (tk:=s.toks) sg hg hs;refine a6s (A:=A.in1) hk sg' fun h' e hsub ⟨oe,hoe,hce⟩=>?_;refine e1k (wpAny_isInstance (T:="StopIteration") (b:=true) ⟨oe,hoe,hce⟩ isSubtype_stop ?_);exact e1o (hQ _ fun b o hb e=>hsub _ _ ((hs.2 b hb).trans e))
theorem a7s{it d:Addr}{i n ep:Nat}{ok ov:e1n}{Q:e1n→e1m→Prop}(hit:IsItemIter s.heap it d i n ep ok ov)(h:Q (.ref it) s) :
  e1p (model C.prog C.w) A (pyIter (.ref it)) Q E s:=by
 have hT:s.TypeIs (.ref it) "dict_itemiterator" :=⟨_,hit,rfl⟩;refine wpAny_pyIter_slot hT F.slot_dict_itemiterator_iter (wpAny_call_entry F.slot_dict_itemiterator_iter hT a4v ?_ (F.args_dict_itemiterator_iter_1 _));show e1p _ _ (ret (.ref it)) _ _ s;exact e1o ⟨_,rfl, "dict_itemiterator",_,hT,F.slot_dict_itemiterator_next.lookup,h⟩
theorem d9e{kx vx target iter:Expr}{pos:Pos}{D:Addr}(I:Nat→e1m→Prop)
 (turn:∀n s,I n s→e1p (model C.prog C.w) A (pyNext it) (fun r s₁=>match r with
 |none=>R (.ok .next) s₁
 |some v=>e1p (model C.prog C.w) A (letOwnedTupleGo target it v) (fun _ s₁=>e1p (model C.prog C.w) A (assign target env v) (fun _ s₂=>
 e1p (model C.prog C.w) A (eval kx env) (fun kv s₄=>e1p (model C.prog C.w) A (eval vx env) (fun vv s₅=>
 e1p (model C.prog C.w) A (dictSet D kv vv) (fun _ s₆=>∃m,m<n∧I m s₆) (notedBy (model C.prog C.w) A env fun e s'=>R (.error e) s') s₅) (notedBy (model C.prog C.w) A env fun e s'=>R (.error e) s') s₄) (notedBy (model C.prog C.w) A env fun e s'=>R (.error e) s') s₂)
 (notedBy (model C.prog C.w) A env fun e s'=>R (.error e) s') s₁) (notedBy (model C.prog C.w) A env fun e s'=>R (.error e) s') s₁) (notedBy (model C.prog C.w) A env fun e s'=>R (.error e) s') s)
 (n:Nat) (h:I n s) :
  codeAny (model C.prog C.w) A (.compLoop (.DictComp kx vx [⟨target,iter,[],0⟩] scope pos) 0 it (.ref D) env) R s:=by
 refine codeAny_loop rfl I (fun n s hI=>?_) n h;show e1p _ A ((compTurn (.DictComp kx vx [⟨target,iter,[],0⟩] scope pos) 0 it (.ref D) env).onRaise (fun x=>do noteFrame x env; theTreesLotGoes x)) _ _ s
 refine wpAny_noted ?_;rw[compTurn_dict];refine e1k (e1y (e1k (e1w (turn n s hI) (fun r s₁ h₁=>?_) fun _ _ h'=>h')));cases r with
 |none=>exact e1o h₁
 |some v=>
  refine e1k (e1w h₁ (fun _ s₁ h₁=>?_) fun _ _ h'=>h');refine e1k (e1w h₁ (fun _ s₂ h₂=>?_) fun _ _ h'=>h');refine e1k (e1o ?_);exact e1k (e1k (e1w h₂ (fun kv s₄ h₄=>e1k (e1s (e1w h₄ (fun vv s₅ h₅=>e1k (e1y (e1s (e1w h₅ (fun _ s₆ h₆=>e1o ⟨rfl,h₆⟩) fun _ _ h'=>h')))) fun _ _ h'=>h'))) fun _ _ h'=>h'))
end
end
section
noncomputable def a3j(D:List (e1l×e1l)):List (e1l×e1l):=D.foldl (fun acc p=>PyProof.V.putD p.2 p.1 acc) []
theorem b3g{D:List (e1l×e1l)}{p:e1l×e1l}(h:D[i]?=some p):a3j (D.take (i+1))=PyProof.V.putD p.2 p.1 (a3j (D.take i)):=by
 unfold a3j;rw[List.take_succ,h,List.foldl_append]; rfl
inductive TokAt(C:Cfg):Prop
 |mk:∀d D,C.mg "EXACT_TOKEN_TYPES" = some (.ref d)→(∀g,C.Amb g→StrTab C.prog C.w g d D)→(∀p∈D,∃x j,p=(.str x,.int j))→D.length≤1000→C.toks=a3j D→TokAt C
section
variable {C:Cfg} {Γ:Ctx} {n:Nat} {hz:Bool} {k:Ck} {sc:SI}
theorem b8z{E:e1n→e1m→Prop}{s:e1m}{cenv:Env}{c d:Str}{p1 p2 pos:Pos}{x1:Nat}{T:Addr}{u v:e1n}{j:Int}{Q:Unit→e1m→Prop}(hk:HOK A g)(sg:Sub g s.heap)
 (hT:s.heap.get? T=some { cls:=.type "tuple",data:=.seq #[u,v] }) (ru:RD s.heap u (.str x)) (rv:RD s.heap v (.int j)) (hn:s.heap.Ns cenv.locals m) (hc:cenv.kindOf c=some .local) (hd:cenv.kindOf d=some .local)
 (hp:(cenv.scope.kind == .class||(cenv.scope.kind == .module&&cenv.locals != cenv.globals))=false)
 (h:∀h' tk t1 t2,h'.Ns cenv.locals (fun y=>if y=d then some (.int j t2)else if y=c then some (.str x t1)else m y)→(∀b o,b≠cenv.locals→s.heap.get? b=some o→h'.get? b=some o)→Q () { s with heap:=h',toks:=tk }) :
  e1p (model C.prog C.w) A (assign (.Tuple [.Name c p1,.Name d p2] x1 pos) cenv (.ref T)) Q E s:=by
 have rT:RD s.heap (.ref T) (.tuple [.str x,.int j]):=RD.tuple (vs:=[u,v]) ⟨_,hT,rfl,0,rfl⟩ (.cons ru (.one rv));rw[arm_assign_Tuple];refine e1k (e1y ?_);unfold unpack;have l1:(assignEach [Expr.Name c p1,Expr.Name d p2] cenv).length=2:=rfl;have l2:(assignEach [Expr.Name c p1,Expr.Name d p2] cenv).findIdx? (·.1)=none:=rfl;rw[l1,l2];refine e1k (e1s (a5v (g:=s.heap) (hk.mono sg) (.refl _) (d:=.tuple [.str x,.int j]) (ds:=[.str x,.int j]) rT rfl fun vs h1 sb r=>?_));obtain⟨v1,v2,rfl⟩:∃v1 v2,vs=[v1,v2]:=by
  have:=r.length
  exact two this
 obtain⟨_,_,e,r1,r2⟩:=r.cases;cases e;obtain⟨_,_,e,r2,_⟩:=r2.cases;cases e;obtain⟨t1,rfl⟩:=r1.strE;obtain⟨t2,rfl⟩:=r2.intE;show e1p _ _ (assignInOrder [assign (.Name c p1) cenv,assign (.Name d p2) cenv] [.str x t1,.int j t2]) Q E _;refine assignInOrder_cons (wpAny_assign_Name (wpAny_storeName_local hc (hn.keeps sb) (fun h2 hn2 hs2=>?_) hp));refine assignInOrder_cons (wpAny_assign_Name (wpAny_storeName_local hd hn2 (fun h3 hn3 hs3=>?_) hp));refine assignInOrder_nil (h h3 _ t1 t2 hn3 fun b o hb e=>hs3.extBut b o hb (hs2.extBut b o hb (sb b o e)))
end
end
section
section
variable {C:Cfg} {Γ:Ctx} {n:Nat} {hz:Bool} {k:Ck} {sc:SI}
theorem d3h{D:List (e1l×e1l)}(hf:PyProof.V.FlatPairs PyData.str kvs D)(hD:∀p∈D,∃x j,p=(PyData.str x,PyData.int j)){k:Str}(h:kvs[i]?=some (k,v)):∃j,D[i]?=some (.str k,.int j)∧PyProof.V.Flat v (.int j):=by
 obtain⟨dv,h1,h2⟩:=hf.at h;obtain⟨x,j,e⟩:=hD _ (List.mem_of_getElem? h1);cases e;exact⟨j,h1,h2⟩
inductive TkI(C:Cfg)(s:e1m)(kvs:List (Str×e1n))(It dt Dd L:Addr)(ep:Nat)(D:List (e1l×e1l)):Nat→e1m→Prop
 |mk:∀q h' tk mm kv2 i ok ov,q+i=kvs.length+1→i≤kvs.length→IsItemIter h' It dt i kvs.length ep ok ov→h'.DictOf (intKind C.prog C.w) Dd kv2→PyProof.V.FlatPairs PyData.int kv2 (a3j (D.take i))→kv2.length≤i→
   h'.Ns L mm→(∀b o,b≠It→b≠Dd→b≠L→s.heap.get? b=some o→h'.get? b=some o)→TkI C s kvs It dt Dd L ep D q { s with heap:=h',toks:=tk }
theorem c3g{E:e1n→e1m→Prop}{s:e1m}{cenv:Env}{c d:Str}{p1 p2 pos pb pn cp:Pos}{x1:Nat}{iter:Expr}{dt It Dd:Addr}{ep:Nat}{D:List (e1l×e1l)} 
 (hk:HOK A g) (sg:Sub g s.heap) (hgI:g.get? It=none)
 (hc:cenv.kindOf c=some .local) (hd:cenv.kindOf d=some .local) (hcd:c≠d) (hp:(cenv.scope.kind == .class||(cenv.scope.kind == .module&&cenv.locals != cenv.globals))=false) (hfun:cenv.scope.kind=.function)
 (dc:(c==("__debug__" : Str))=false) (dd:(d==("__debug__" : Str))=false)
 (h0:∀b o,g.get? b=some o→b≠It∧b≠Dd∧b≠cenv.locals) (hIL:It≠cenv.locals) (hID:It≠Dd) (hDL:Dd≠cenv.locals)
 (hat:g.DictAt (e2a C.prog C.w) dt kvs ep) (hf:PyProof.V.FlatPairs PyData.str kvs D) (hD:∀p∈D,∃x j,p=(PyData.str x,PyData.int j)) (hlen:D.length≤1000)
 (hit:IsItemIter s.heap It dt 0 kvs.length ep .none .none) (hacc:s.heap.DictOf (intKind C.prog C.w) Dd []) (hn:s.heap.Ns cenv.locals m)
 (hR:∀h' tk m' kv2,h'.Ns cenv.locals m'→h'.DictOf (intKind C.prog C.w) Dd kv2→PyProof.V.FlatPairs PyData.int kv2 (a3j D)→(∀b o,b≠It→b≠Dd→b≠cenv.locals→s.heap.get? b=some o→h'.get? b=some o)→R (.ok .next) { s with heap:=h',toks:=tk }) :
  codeAny (model C.prog C.w) A (.compLoop (.DictComp (.Name d pn) (.Name c pb) [⟨.Tuple [.Name c p1,.Name d p2] x1 pos,iter,[],0⟩] scope cp) 0 (.ref It) (.ref Dd) cenv) R s:=by
 refine d9e (TkI C s kvs It dt Dd cenv.locals ep D) ?_ (kvs.length+1) (.mk _ s.heap s.toks m [] 0 _ _ rfl (Nat.zero_le _) hit hacc .nil (Nat.le_refl _) hn fun _ _ _ _ _ e=>e)
 rintro q s' ⟨h',tk,mm,kv2,i,ok,ov,hq,hi,hit',hacc',hf2,hl2,hn',hk'⟩
 have hlD:kvs.length=D.length:=hf.length.symm;have sg':Sub g h':=fun b o e=>hk' b o (h0 b o e).1 (h0 b o e).2.1 (h0 b o e).2.2 (sg b o e);have hat':h'.DictAt (e2a C.prog C.w) dt kvs ep:=hat.keep sg'
 by_cases hlt:i<kvs.length
 ·obtain⟨kx,v,hx⟩:∃kx v,kvs[i]?=some (kx,v):=⟨kvs[i].1,kvs[i].2,List.getElem?_eq_getElem hlt⟩
  obtain⟨j,hDi,hfl⟩:=d3h hf hD hx;refine wpAny_pyNext_items_item (s:={ s with heap:=h',toks:=tk }) hit' hat' hx fun key h1 hkey hout hT hsz hk1=>?_
  refine wpAny_letOwnedTupleGo_items (s:={ s with heap:=h1,toks:=tk }) hout fun h2 hit2 hs2=>?_
  have hk1':∀b o,b≠It→h'.get? b=some o→h2.get? b=some o:=fun b o hb e=>hs2.extBut b o hb (hk1 b o hb e);have hTI:h'.objs.size≠It:=Nat.ne_of_gt (Heap.lt_size hit');have hT2:=hs2.extBut _ _ hTI hT;obtain⟨t0,rfl⟩:=Value.isStrOf_shape hkey;have rv:RD h2 v (.int j):=⟨_,hfl h2⟩;refine b8z (g:=g) hk (fun b o e=>hk1' b o (h0 b o e).1 (sg' b o e)) hT2 (RD.str kx t0) rv (hn'.at' fun o e=>hk1' _ o (Ne.symm hIL) e) hc hd hp fun h3 tk3 t1 t2 hn3 hk3=>?_;refine wpAny_Name (e2g hfun hd hn3 (v:=.int j t2) (by simp) ?_) dd
  refine wpAny_Name (e2g hfun hc hn3 (v:=.str kx t1) (by simp[hcd]) ?_) dc
  refine wpAny_dictSet_pairs (knd:=intKind C.prog C.w) (k:=j) (intKind_is C.prog C.w j t2) (hacc'.at fun o e=>hk3 _ o hDL (hk1' _ o (Ne.symm hID) e)) (fun h4 hl4 hs4=>?_) (by have:e2f=_:=sizeLine_eq; omega)
  refine⟨kvs.length-i,by exact a2a (.t (.s N0 N1) N2) (.e (.p N2 N1) (.p N0 O1)) (.l N1 N0) hq hi,.mk _ h4 _ _ (stored kv2 j (.str kx t1)) (i+1) (.str kx t0) v (by exact a1b (.e (.p (.s N0 N1) (.p N1 O1)) (.p N0 O1)) (.l N1 N0) hi) hlt ?_ hl4 ?_ ?_ (hn3.sameBut hs4 (Ne.symm hDL)) fun b o b1 b2 b3 e=>hs4.extBut b o b2 (hk3 b o b3 (hk1' b o b1 (hk' b o b1 b2 b3 e)))⟩
  ·exact hs4.extBut _ _ hID (hk3 _ _ hIL hit2)
  ·rw[b3g hDi]
   exact PyProof.V.FlatPairs.stored PyProof.V.same_int hf2 _ (fun h=>.str _ _)
  ·have:=stored_length_le kv2 j (Value.str kx t1); exact a2a (.l N0 (.p N1 O1)) (.l N2 N1) (.l N0 (.p N2 O1)) hl2 this
 ·have hin:i=kvs.length:=by exact a1m (.e N0 N1) (.l N0 N1) (.n (.t N0 N1)) hi hlt
  subst hin;refine a8z (g:=g) hk sg' hgI hit' hat' (by simp) fun h1 he=>?_
  rw[hlD,List.take_length]at hf2;exact hR h1 tk mm kv2 (hn'.extBut he (Ne.symm hIL)) (hacc'.extBut he (Ne.symm hID)) hf2 fun b o b1 b2 b3 e=>he b o b1 (hk' b o b1 b2 b3 e)
end
end
section
section
variable {C:Cfg} {Γ:Ctx} {n:Nat} {hz:Bool} {k:Ck} {sc:SI}
theorem d1e(P:TokAt C){x1:Nat}{y:Str}{yp ap0 bp0 cp0 dp0 tp ttp ap pos cp spos:Pos}(so:SIOK sc)(hck:c0x sc i y scope=true)(hln:(ap.endLine==pos.line)=true) :
  SS C Γ sc n hz (.toks i) (.Assign [.Name y yp] (.DictComp (.Name "number" ap0) (.Name "sign" bp0) [⟨.Tuple [.Name "sign" cp0,.Name "number" dp0] x1 tp,.Call (.Attribute (.Name "EXACT_TOKEN_TYPES" ttp) "items" ap) [] [] pos,[],0⟩] scope cp) spos):=fun A env g s al st Eh Q Q' H hw kk=>by
 have hy:=a0b hck; have hgl:=a0b (a0a hck);have k1:=a0a (a0a hck);have hkind:scope.kind=ScopeKind.function:=beq_iff_eq.mp (a0b k1);have hnofc:=a0b (a0a k1);have hnum:scope.names.lookup ("number" : Str)=some NameKind.local:=beq_iff_eq.mp (a0b (a0a (a0a k1)));have hsign:scope.names.lookup ("sign" : Str)=some NameKind.local:=beq_iff_eq.mp (a0b (a0a (a0a (a0a k1))));have hnd:(scope.names.map (·.1)).Nodup:=of_decide_eq_true (a0b (a0a (a0a (a0a (a0a k1)))));have hyc:sc.names.lookup y=some NameKind.cell:=beq_iff_eq.mp (a0a (a0a (a0a (a0a (a0a k1)))));obtain⟨dt,D,hmg,hT,hDs,hlen,htoks⟩:=P;have hgk:=(a0z hgl).1;have nofree:∀p∈scope.names,p.2≠NameKind.free:=fun p hp=>by
  have:=List.all_eq_true.mp hnofc p hp
  simp only[Bool.and_eq_true,bne_iff_ne]at this; exact this.1
 have nocell:∀p∈scope.names,p.2≠NameKind.cell:=fun p hp=>by
  have:=List.all_eq_true.mp hnofc p hp
  simp only[Bool.and_eq_true,bne_iff_ne]at this; exact this.2
 have hnames:∀p∈scope.names,p.2=NameKind.local→scope.names.lookup p.1=some .local:=fun p hp e=>by
  have:=a0q (x:=p.1) (a:=p.2) hnd hp
  rw[this,e]
 have hw:Q .next (st.set i (.tab C.toks)):=hw;obtain⟨lo,kvs,hdo,hf⟩:=hT g H.rel.amb;obtain⟨ep,hat⟩:=hdo.dictAt;have hat1:=hat.keep H.rel.sub;have hdo1:s.heap.DictOf (e2a C.prog C.w) dt kvs:=hdo.keep H.rel.sub;refine wpAny_Assign_Name ?_ ?_
 rotate_left
 ·show swapsWith _ _ _ _=pure false
  have e:(env.kindOf y==some NameKind.local)=false:=by rw[H.eok.kindOf,hyc]; rfl
  dsimp only[swapsWith];simp only[e,Bool.and_false,Bool.false_and]
 rw[arm_eval_DictComp];refine wpAny_comprehension_free (use:=none) rfl (fun _=>rfl) (closureFor_none nofree) hkind hnames ?_;show e1p _ _ (eval (.Call (.Attribute (.Name "EXACT_TOKEN_TYPES" ttp) "items" ap) [] [] pos) env) _ _ _;refine wpAny_Call_method_lateS (a1c (o:=.Name "EXACT_TOKEN_TYPES" ttp) rfl) (few rfl (by simp)) hln (a1q H hgk (by decide) hmg ?_)
 refine⟨"dict", "dict.items",F.plainAttrs_dict,F.slot_dict_items,F.type_dict_items,hdo1.typeIs,?_,a1l rfl (spliced_nil ?_)⟩
 ·intro b hb
  cases hb;obtain⟨o,es,ep',ho,hx,_⟩:=hdo1;exact⟨o,ho,hx.2.1⟩
 show e1p _ _ (call (.builtin "dict.items") [.ref dt]) _ _ _;refine call_meetsIn F.slot_dict_items hdo1.typeIs F.entry_dict_items (F.args_dict_items_1 _) (meets_dict_items (e2a C.prog C.w) dt lo) ⟨⟨kvs,hdo1⟩,?_⟩;have hV:(s.heap.push { cls:=.type "dict_items",data:=.fields #[.ref dt] }).IsItemsView s.heap.objs.size dt:=⟨_,Heap.get?_push_size _ rfl,rfl,rfl⟩;have hat2:=hat1.keep (a0f (h:=s.heap) { cls:=.type "dict_items",data:=.fields #[.ref dt] });have hV1:Sub s.heap (s.heap.push { cls:=.type "dict_items",data:=.fields #[.ref dt] }):=a0f _;generalize hh1:s.heap.push { cls:=.type "dict_items",data:=.fields #[.ref dt] }=h1 at hV hat2 hV1 ⊢;have z1:h1.objs.size=s.heap.objs.size+1:=by rw[←hh1,Heap.size_push]
 refine wpAny_pyIter_items (s:={ s with heap:=h1 }) hV hat2 ?_
 have hI:(h1.push { cls:=.type "dict_itemiterator",data:=.fields #[.none,.bool false,.ref dt,.int 0 0,.int kvs.length 0,.int ep 0,.none,.none] }).get? h1.objs.size=some { cls:=.type "dict_itemiterator",data:=.fields #[.none,.bool false,.ref dt,.int 0 0,.int kvs.length 0,.int ep 0,.none,.none] }:=Heap.get?_push_size _ rfl;have hV2:Sub h1 (h1.push { cls:=.type "dict_itemiterator",data:=.fields #[.none,.bool false,.ref dt,.int 0 0,.int kvs.length 0,.int ep 0,.none,.none] }):=a0f _;generalize hh2:h1.push { cls:=.type "dict_itemiterator",data:=.fields #[.none,.bool false,.ref dt,.int 0 0,.int kvs.length 0,.int ep 0,.none,.none] }=h2 at hI hV2 ⊢;have z2:h2.objs.size=h1.objs.size+1:=by rw[←hh2,Heap.size_push]
 refine wpAny_newObj_type ?_;have hDd:=Heap.DictOf.new (knd:=intKind C.prog C.w) h2;have hV3:Sub h2 (h2.push { cls:=.type "dict",dict:=none,data:=.dict #[] }):=a0f _;show e1p _ _ _ _ _ { s with heap:=h2.push { cls:=.type "dict",dict:=none,data:=.dict #[] } }
 generalize hh3:h2.push { cls:=.type "dict",dict:=none,data:=.dict #[] }=h3 at hDd hV3 ⊢;have z3:h3.objs.size=h2.objs.size+1:=by rw[←hh3,Heap.size_push]
 refine wpAny_newFunctionEnv (s:={ s with heap:=h3 }) nocell (by intro y hy; simp at hy) (fun h4 hn4 hs4=>?_) hkind
 dsimp only at hn4 hs4;have hV4:Sub h3 h4:=fun b o e=>hs4.extBut b o (Nat.ne_of_lt (Heap.lt_size e)) (Heap.get?_push_of_some _ e);have alive:∀b o,s.heap.get? b=some o→b≠h1.objs.size∧b≠h2.objs.size∧b≠h3.objs.size:=fun b o e=>by
  have:@LT.lt Nat _ b s.heap.objs.size:=Heap.lt_size e
  exact⟨Nat.ne_of_lt (by exact a2a (.t N0 N1) (.e N1 (.p N2 O1)) (.t N0 N2) z1 this),Nat.ne_of_lt (by exact d2y (.t N0 N1) (.e N2 (.p N3 O1)) (.e N1 (.p N2 O1)) (.t N0 N3) z1 z2 this),Nat.ne_of_lt (by exact lc4 5 [_,_,_,_,_] [] (.t N0 N1) (.e N2 (.p N3 O1)) (.e N4 (.p N2 O1)) (.e N1 (.p N4 O1)) (.t N0 N3) z1 z2 z3 this)⟩
 have hit4:IsItemIter h4 h1.objs.size dt 0 kvs.length ep .none .none:=hV4 _ _ (hV3 _ _ hI);have hV14:Sub s.heap h4:=((hV1.trans hV2).trans hV3).trans hV4;have fin:∀h' tk m' kv2,h'.Ns h3.objs.size m'→h'.DictOf (intKind C.prog C.w) h2.objs.size kv2→PyProof.V.FlatPairs PyData.int kv2 (a3j D)→(∀b o,b≠h1.objs.size→b≠h2.objs.size→b≠h3.objs.size→h4.get? b=some o→h'.get? b=some o)→
   compPost (model C.prog C.w) A Eh none (fun v s₁=>e1p (model C.prog C.w) A (storeName env y v) (fun _=>Q' Flow.next) Eh s₁) (.ref h2.objs.size) h3.objs.size (.ok .next) { s with heap:=h',toks:=tk }:=fun h' tk m' kv2 hn' hd' hf' hk'=>by
  refine⟨m',hn',fun h'' hs''=>?_⟩;have sub2:Sub s.heap h'':=fun b o e=>hs''.extBut b o (alive b o e).2.2 (hk' b o (alive b o e).1 (alive b o e).2.1 (alive b o e).2.2 (hV14 b o e));have hDn:s.heap.get? h2.objs.size=none:=a0s (by exact a2a (.l N0 N1) (.e N2 (.p N0 O1)) (.e N1 (.p N2 O1)) z1 z2)
  have hd2:h''.DictOf (intKind C.prog C.w) h2.objs.size kv2:=hd'.extBut hs''.extBut (Nat.ne_of_lt (by exact a1b (.t N0 N1) (.e N1 (.p N0 O1)) z3))
  obtain⟨oD,hoD,hiD⟩:=Heap.dictOf_iff.mp hd2;obtain⟨g',xg,sg2,eg⟩:=Step.grow (tk:=tk) H.rel.sub sub2 hDn fun o e1 e2=>by
   rw[hoD]at e1; cases e1;obtain⟨_,_,hx,_⟩:=hiD;rw[hx.1]at e2; simp at e2
  have aft:Aft C sc env al g s st g' { s with heap:=h'',toks:=tk } st:=⟨rfl,rfl,H.rel.step xg sg2,xg.nil⟩
  have hlow:(h2.objs.size==sysModules)=false:=by
   have:@LT.lt Nat _ sysModules s.heap.objs.size:=modules_low (H.rel.amb.T.keeps H.rel.sub).nolimit
   exact beq_false_of_ne (Nat.ne_of_gt (by exact d2y (.t N0 N1) (.e N2 (.p N3 O1)) (.e N1 (.p N2 O1)) (.t N0 N3) z1 z2 this))
  have iv:InV C g' al (.ref h2.objs.size) (.tab C.toks):=⟨_,rfl,hlow,kv2,Heap.dictOf_iff.mpr ⟨oD,eg.trans hoD,hiD⟩,htoks▸hf'⟩;exact a3b so H (SAft.of H aft) hy iv fun s2 a2=>kk .next .next _ _ _ _ a2 trivial hw
 refine codeAny_compStart_dict ?_ (a7s hit4 ?_)
 all_goals
  refine c3g (E:=Eh) (g:=g) (dt:=dt) (It:=h1.objs.size) (Dd:=h2.objs.size) (kvs:=kvs) (ep:=ep) (D:=D) (m:=fun x=>List.lookup x [].reverse) H.ok.handled (H.rel.sub.trans hV14) (a2y H.rel.sub (a0s (by exact a1b (.l N0 N1) (.e N1 (.p N0 O1)) z1))) (lookup_relabel_local hsign) (lookup_relabel_local hnum) (by decide) (by simp[newEnv,relabel,hkind]) (by simpa[newEnv,relabel]using hkind) (by decide) (by decide)
   (fun b o e=>alive b o (H.rel.sub _ _ e)) (Nat.ne_of_lt (by show h1.objs.size<h3.objs.size; exact a2a (.t N0 N1) (.e N2 (.p N0 O1)) (.e N1 (.p N2 O1)) z2 z3)) (Nat.ne_of_lt (by exact a1b (.t N0 N1) (.e N1 (.p N0 O1)) z2)) (Nat.ne_of_lt (by show h2.objs.size<h3.objs.size; exact a1b (.t N0 N1) (.e N1 (.p N0 O1)) z3)) hat hf hDs hlen hit4 ?_ hn4 (fun h' tk m' kv2 a1 a2 a3 a4=>fin h' tk m' kv2 a1 a2 a3 a4)
  exact hDd.at fun o e=>hV4 _ _ e
end
end
section
noncomputable def d1g:e1n→Bool|.none=>true|_=>false
theorem b7x(h:d1g v=true):v=.none:=by cases v <;> first|rfl|exact ff h
noncomputable def a3y(p:Arguments)(dV:e1n)(ps:List Str):Bool:=
 p.posonlyargs.isEmpty&&p.vararg.isNone&&p.kwonlyargs.isEmpty&&p.kwarg.isNone&&d1g dV&&p.args.map (·.arg)==ps
theorem a2p(hl:vs.length=ps.length)(hn:ps.Nodup):(ps.filter fun n=>((ps.zip vs).lookup n).isNone)=[]:=by
 refine List.filter_eq_nil_iff.mpr fun x hx=>?_;obtain⟨i,hi,e⟩:=List.getElem_of_mem hx;obtain⟨v,_,h⟩:=a4i ps vs hl.symm hn i x (e▸List.getElem?_eq_getElem hi);rw[h]; simp
theorem a5h:∀{ps:List Str} {vs:List e1n},vs.length=ps.length→ps.Nodup→(ps.filterMap fun n=>((ps.zip vs).lookup n).map (n,·))=ps.zip vs:=by
 have key:∀(qs:List Str) (ws:List e1n) (l:List (Str×e1n)),ws.length=qs.length→qs.Nodup→(∀x∈qs,l.lookup x=(qs.zip ws).lookup x)→(qs.filterMap fun n=>(l.lookup n).map (n,·))=qs.zip ws:=by
  intro qs
  induction qs with
  |nil=>intro ws l _ _ _; rfl
  |cons q r ih=>
   intro ws l hl hn hx;cases ws with
   |nil=>cases hl
   |cons w ws=>
    rw[List.nodup_cons]at hn;have h1:=hx q (.head _);rw[List.zip_cons_cons,List.lookup_cons,beq_self_eq_true]at h1;rw[List.filterMap_cons,h1,List.zip_cons_cons];have hr:=ih ws l (by simpa using hl) hn.2 fun x hxr=>by
     have hxq:(x==q)=false:=beq_false_of_ne fun e=>hn.1 (e▸hxr);rw[hx x (List.mem_cons_of_mem _ hxr),List.zip_cons_cons,List.lookup_cons,hxq]
    exact congrArg (_ :: ·) hr
 intro ps vs hl hn;exact key ps vs _ hl hn fun _ _=>rfl
theorem c5x{k:Str}(h:ps[vs.length]?=some k):ps.zip (vs++[v])=ps.zip vs++[(k,v)]:=by
 induction ps generalizing vs with
 |nil=>simp at h
 |cons p r ih=>
  cases vs with
  |nil=>simp at h; subst h; simp
  |cons w ws=>simp at h; simp[ih h]
theorem a7q(hn:ps.Nodup){k:Str}(h:ps[vs.length]?=some k):(ps.zip vs).lookup k=none:=by
 induction ps generalizing vs with
 |nil=>rfl
 |cons p r ih=>
  rw[List.nodup_cons]at hn;cases vs with
  |nil=>rfl
  |cons w ws=>
   simp at h;rw[List.zip_cons_cons,List.lookup_cons,show(k==p)=false from beq_false_of_ne fun e=>hn.1 (e▸List.mem_of_getElem? h)]
   exact ih hn.2 h
theorem a8q{ps:List Str}(hn:ps.Nodup){B:Str×e1n→List (Str×e1n)×List (Str×e1n)→Sem (ForInStep (List (Str×e1n)×List (Str×e1n)))}(hB:∀(x:Str×e1n) (s:List (Str×e1n)),x.1∈ps→s.lookup x.1=none→B x (s,[])=pure (.yield (s++[x],[]))):∀(ks:List Str) (kvs vals:List e1n),ks=ps.drop vals.length→ks.length=kvs.length→forIn (ks.zip kvs) (ps.zip vals,[]) B=pure (ps.zip (vals++kvs),[])
 |[],[]=>fun vals _ _=>by simp
 |[],_::_=>fun _ _ h=>by cases h
 |_::_,[]=>fun _ _ h=>by cases h
 |k::ks,v::kvs=>fun vals hk h=>by
  have hk1:ps[vals.length]?=some k:=by
   have:(ps.drop vals.length)[0]?=some k:=by rw[←hk]; rfl
   simpa using this
  have hk2:ks=ps.drop (vals++[v]).length:=by
   have:(ps.drop vals.length).drop 1=ks:=by rw[←hk]; rfl
   rw[←this,List.drop_drop]; simp
  rw[List.zip_cons_cons,List.forIn_cons,hB (k,v) _ (List.mem_of_getElem? hk1) (a7q hn hk1)];simp only[pure_bind];rw[←c5x hk1,a8q hn hB ks kvs (vals++[v]) hk2 (by simpa using h),List.append_assoc]
  rfl
theorem c5q{α β:Type}{m:Sem α}{v:α}{f:α→Sem β}{r:Sem β}(h:m=pure v)(k:f v=r):(m >>= f)=r:=by rw[h]; exact k
theorem e0j{α:Type}[Decidable c]{a b r:α}(h:c)(k:a=r):(if c then a else b)=r:=(if_pos h).trans k
theorem d5u{α:Type}[Decidable c]{a b r:α}(h:¬c)(k:b=r):(if c then a else b)=r:=(if_neg h).trans k
theorem a7f(h:a3y fd.params fd.defaults ps=true)(hn:ps.Nodup)(vals:List e1n)(ks:List Str)(kvs:List e1n)(hks:ks=ps.drop vals.length)(hkl:ks.length=kvs.length)(hl:(vals++kvs).length=ps.length):bindArgs fd ⟨vals,ks.zip kvs⟩=pure (ps.zip (vals++kvs)):=by
 obtain⟨_,_,⟨po,ar,va,ko,kd,kw,df⟩,_,_,_,_,dV,_,_,_,_,_,_,_⟩:=fd;cases po with|cons _ _=>cases h|nil=>?_
 cases va with|some _=>cases h|none=>?_
 cases ko with|cons _ _=>cases h|nil=>?_
 cases kw with|some _=>cases h|none=>?_
 obtain rfl:=b7x (a0a (a0b h));obtain rfl:ar.map (·.arg)=ps:=beq_iff_eq.mp (a0a h);clear h;have hvl:vals.length≤(ar.map (·.arg)).length:=by rw[←hl,List.length_append]; exact Nat.le_add_right _ _
 dsimp only[bindArgs,List.map_nil,List.nil_append,List.append_nil];refine c5q (a8q hn (fun x s h1 h2=>?_) ks kvs vals hks hkl) ?_
 ·exact e0j (by rw[List.contains_iff_mem.mpr h1]; rfl) (d5u (by show ¬(List.lookup x.fst s).isSome=true; rw[h2]; exact Bool.false_ne_true) rfl)
 refine c5q (show seqItems? Value.none=pure none from rfl) ?_
 refine d5u (show ¬(decide (vals.length>(ar.map (·.arg)).length)&&true)=true by rw[decide_eq_false (Nat.not_lt.mpr hvl)]; exact Bool.false_ne_true) ?_
 refine d5u (by
  show ¬(!(List.filter (fun n=>(List.lookup n ((ar.map (·.arg)).zip (vals++kvs))).isNone) (List.take ((ar.map (·.arg)).length-(List.drop (0-(ar.map (·.arg)).length) ([]:List e1n)).length) (ar.map (·.arg)))).isEmpty)=true;rw[List.drop_nil,List.length_nil,Nat.sub_zero,List.take_length,a2p hl hn]; exact Bool.false_ne_true) ?_
 refine c5q (v:=(ar.map (·.arg)).zip (vals++kvs)) ?_ ?_
 ·show forIn ((List.drop _ (ar.map (·.arg))).zip (List.drop (0-(ar.map (·.arg)).length) ([]:List e1n))) _ _=_
  rw[List.drop_nil,List.zip_nil_right]; rfl
 refine c5q (show forIn ([]:List Str) _ _=pure _ from rfl) ?_
 refine d5u Bool.false_ne_true ?_;show pure (List.filterMap _ (ar.map (·.arg)++[]))=_;rw[List.append_nil];exact congrArg pure (a5h hl hn)
theorem a9m(h:a3y fd.params fd.defaults ps=true)(hn:ps.Nodup)(vals:List e1n)(hl:vals.length=ps.length):bindArgs fd ⟨vals,[]⟩=pure (ps.zip vals):=by
 have:=a7f h hn vals [] [] (by rw[hl,List.drop_length]) rfl (by rw[List.append_nil]; exact hl)
 rwa[List.append_nil]at this
end
section
structure FnOKc(fd:FuncData)(ps ls fs:List Str)(cl:List (Str×Addr))(body:List Stmt):Prop where
 body:fd.body=.stmts body
 closure:fd.closure=cl
 kind:fd.scope.kind=.function
 co:fd.scope.isCoroutine=false
 gen:fd.scope.isGenerator=false
 globals:fd.globals=e1v
 builtins:fd.builtins=builtinsNs
 nodup:(fd.scope.names.map (·.1)).Nodup
 xnodup:(ps++ls++fs).Nodup
 kinds:∀x∈ps++ls,fd.scope.names.lookup x=some .local
 kindf:∀x∈fs,fd.scope.names.lookup x=some .free
 nocell:∀p∈fd.scope.names,p.2 ≠ .cell
 allfree:∀p∈fd.scope.names,p.2=.free→p.1∈fs
 clnd:(cl.map (·.2)).Nodup
 bind:∀vals:List e1n,vals.length=ps.length→bindArgs fd ⟨vals,[]⟩=pure (ps.zip vals)
def e0f(Γ:Ctx)(tk:List (e1l×e1l))(np nl:Nat)(fr:List V)(body:Ss):Spec:=fun hz ks us ow Q=>ks=[]∧us.length=np∧a1f Γ tk body ⟨us++List.replicate nl .undef++fr,ow,hz⟩ fun fl st=>
 Q (.dat (match fl with|.ret d=>d|.next=>.none)) (st.own.take ow.length)
theorem c4t{ps ls fs:List Str}{body:List Stmt}(ok:FnOKc fd ps ls fs cl body):SIOK (a2m fd.scope.names (ps++ls++fs)) where
 nd:=by
  show(((ps++ls++fs).zip (List.range (ps++ls++fs).length)).map (·.2)).Nodup;rw[List.map_snd_zip (by simp)]
  exact List.nodup_range
 kinds:=fun x i h=>by
  rcases List.mem_append.mp (List.mem_of_getElem? (b7h h))with h|h
  ·exact .inl (ok.kinds x h)
  ·exact .inr (.inr (ok.kindf x h))
section
variable {C:Cfg} {Γ:Ctx} {n:Nat} {k:Ck}
def c9t(C:Cfg)(cl:List (Str×Addr))(fs:List Str)(fr:List V):Prop:=fr.length=fs.length∧∀(i:Nat) (x:Str),fs[i]?=some x→∃u c v,fr[i]?=some u∧cl.lookup x=some c∧∀g,C.Amb g→g.IsCell c (some v)∧∀al,C.base <+: al→InV C g al v u
theorem b3s{a:Addr}{ps ls fs:List Str}{body:Ss}{fr:List V}(hnl:ls.length=nl)(hfv:C.fnv f=.ref a)(hfo:o.data=.func fd)(hg:∀g,C.Amb g→g.get? a=some o∧g.CodeRec fd.code fd.qualname)(ok:FnOKc fd ps ls fs cl stmts)
 (hfs:c9t C cl fs fr) (hcl:∀g,C.Amb g→∀c∈cl.map (·.2),∃v,g.IsCell c v)
 (hs:SSs C Γ (a2m fd.scope.names (ps++ls++fs)) n hzf body stmts)
 (A:e1x) (g:Heap) (s:e1m) (al:List Addr) (ow:List OV) (hz:Bool) (vs:List e1n) (ks:List Str) (kvs:List e1n) (us:List V) (Eh:e1n→e1m→Prop) (Q:V→List OV→Prop) (Q':e1n→e1m→Prop) (hzz:hzf=true→hz=true)
 (aok:AOK A (n+1) hz g) (B:BRel C g s.heap al ow) (hfrB:FrB C A g s.heap al) (hkl:ks.length=kvs.length) (hi:InVs C g al (vs++kvs) us) (hw:e0f Γ C.toks ps.length nl fr body hz ks us ow Q)
 (kk:∀v u ow' s' g',BRel C g' s'.heap al ow'→Step (al++C.TA) s g s' g'→InV C g' al v u→Q u ow'→Q' v s') :
  e1p (model C.prog C.w) A (call (C.fnv f) vs (ks.zip kvs)) Q' Eh s:=by
 obtain⟨hk0,hul,hw⟩:=hw;subst hk0;have hkv:kvs=[]:=List.length_eq_zero_iff.mp hkl.symm;subst hkv;rw[List.append_nil]at hi;have hvl:vs.length=ps.length:=hi.len.trans hul;rw[hfv];obtain⟨ho,hcr⟩:=hg g B.amb;have T:=B.amb.T.keeps B.sub;have hpsn:ps.Nodup:=(List.nodup_append.mp (List.nodup_append.mp ok.xnodup).1).1;have hzk:((ps.zip vs).map (·.1))=ps:=a7p ps vs hvl.symm;refine wpAny_call (codeAny_call_function (by have:=aok.depth; exact a2c (.t N0 N1) (.l (.p N0 (.p N2 O1)) N1) this) (B.sub _ _ ho) hfo ok.co ok.gen ok.body ?_ ?_)
 ·obtain⟨c,oc,fs,t,e1,e2,e3,e4⟩:=hcr; exact⟨c,oc,fs,t,e1,B.sub _ _ e2,e3,e4⟩
 show e1p _ _ (bindArgs fd ⟨vs,[]⟩) _ _ _;rw[ok.bind vs hvl,ok.closure];refine e1o (wpAny_newFunctionEnv ok.nocell (fun x hx=>ok.kinds x.1 (List.mem_append_left _ (by rw[←hzk]; exact List.mem_map.mpr ⟨x,hx,rfl⟩))) (fun h1 hns hsb=>?_) ok.kind)
 have hns:h1.Ns s.heap.objs.size fun x=>(ps.zip vs).reverse.lookup x:=hns;have sb:Sub s.heap h1:=fun b o e=>hsb.extBut b o (Nat.ne_of_lt (Heap.lt_size e)) (Heap.get?_push_of_some _ e);refine⟨T.nolimit.keeps sb,codeAny_func ?_⟩;generalize hs1:({ s with heap:=h1,toks:=s.toks+(ps.zip vs).length }:e1m)=s1
 have hs1h:s1.heap=h1:=hs1▸rfl;generalize henv:newEnv fd.scope s.heap.objs.size fd.globals cl (fd.qualname++Str.ofString ".<locals>.") (some a) fd.code none fd.builtins=env;have he1:env.scope=fd.scope:=henv▸rfl;have he2:env.locals=s.heap.objs.size:=henv▸rfl;have he3:env.cells=cl:=henv▸rfl;have he4:env.frame=some s.heap.objs.size:=henv▸rfl;have he5:env.globals=e1v:=henv▸ok.globals;have he6:env.builtins=builtinsNs:=henv▸ok.builtins;have hnew:∀b,s.heap.objs.size≤b→s.heap.get? b=none:=fun b hb=>a0s hb;have x1:Step [] s g s1 g:=hs1▸Step.ext sb;have B1:=B.move x1 (by rw[hs1h]; exact B.sub.trans sb) (by simp)
 rw[hs1h]at B1;have hk:∀y,env.kindOf y=fd.scope.names.lookup y:=fun y=>by unfold Env.kindOf; rw[he1]
 have Lnew:s.heap.get? env.locals=none:=by rw[he2]; exact hnew _ (Nat.le_refl _)
 have cellg:∀c∈cl.map (·.2),∃o v,g.get? c=some o∧o.data=.cell v:=fun c hc=>by
  obtain⟨v,o,ho,hd⟩:=hcl g B.amb c hc; exact⟨o,_,ho,hd⟩
 have vget:∀{y:Str} {i:Nat} {v:e1n},ps[i]?=some y→vs[i]?=some v→Look env h1 y v:=fun{y i v} hy hv=>by
  obtain⟨v',h2,h3⟩:=a4i ps vs hvl.symm hpsn i y hy;rw[hv]at h2; cases h2;refine .inl ⟨(hk y).trans (ok.kinds y (List.mem_append_left _ (List.mem_of_getElem? hy))),_,(by rw[he2]; exact hns),?_⟩
  have hrn:((ps.zip vs).reverse.map (·.1)).Nodup:=by rw[List.map_reverse,hzk]; exact List.pairwise_reverse.mpr (hpsn.imp fun h=>Ne.symm h)
  exact a0q hrn (List.mem_reverse.mpr (e1r h3))
 have R:Rel C (a2m fd.scope.names (ps++ls++fs)) env g h1 al ⟨us++List.replicate nl .undef++fr,ow,hz⟩:={
  sub:=B1.sub,amb:=B1.amb,nd:=B1.nd,tabs:=B1.tabs
  ns:=⟨_,by rw[he2]; exact hns⟩
  cell:=fun y hy=>by
   rcases hy with h|h
   ·exact absurd rfl (ok.nocell _ (e1r h))
   ·have hm:y∈fs:=ok.allfree _ (e1r h) rfl
    obtain⟨i,hi',e⟩:=List.getElem_of_mem hm;obtain⟨u,c,v,_,h2,h3⟩:=hfs.2 i y (e▸List.getElem?_eq_getElem hi');obtain⟨o,ho,hd⟩:=(h3 g B.amb).1;exact⟨c,_,by rw[he3]; exact h2,o,B1.sub _ _ ho,hd⟩
  vars:=fun y i hyi=>by
   have hy:=b7h hyi
   by_cases hip:i<ps.length
   ·rw[List.append_assoc,List.getElem?_append_left hip]at hy
    have hv:vs[i]?=some vs[i]:=List.getElem?_eq_getElem (by exact a2a (.t N0 N1) (.e N1 N2) (.t N0 N2) hvl hip)
    obtain⟨u,hu,iu⟩:=hi.get hv;refine .inr ⟨vs[i],vget hy hv,?_⟩;show InV C g al vs[i] ((us++List.replicate nl V.undef++fr).getD i V.undef);rw[List.getD_eq_getElem?_getD,List.append_assoc,List.getElem?_append_left (by exact a2a (.t N0 N1) (.e N1 N2) (.t N0 N2) hul hip),hu]
    exact iu
   ·by_cases hil:i<ps.length+ls.length
    ·refine .inl fun u hu=>?_
     subst hu;show(us++List.replicate nl V.undef++fr).getD i V.undef=.undef;rw[List.getD_eq_getElem?_getD,List.append_assoc,List.getElem?_append_right (by exact a2a (.l N0 N1) (.e N0 N2) (.n (.t N1 N2)) hul hip),List.getElem?_append_left (by simp; exact lc4 5 [_,_,_,_,_] [] (.t (.s N0 N1) N2) (.e N3 N2) (.e N1 N4) (.n (.t N0 N4)) (.t N0 (.p N4 N3)) hnl hul hip hil),List.getElem?_replicate]
     split <;> rfl
    ·rw[List.getElem?_append_right (by simp; omega)]at hy
     obtain⟨u,c,v,h1',h2,h3⟩:=hfs.2 _ y hy;obtain⟨hcc,hin⟩:=h3 g B.amb;refine .inr ⟨v,.inr ⟨.inr ((hk y).trans (ok.kindf y (List.mem_of_getElem? hy))),c,by rw[he3]; exact h2,?_⟩,?_⟩
     ·obtain⟨o,ho,hd⟩:=hcc; exact⟨o,B1.sub _ _ ho,hd⟩
     ·show InV C g al v ((us++List.replicate nl V.undef++fr).getD i V.undef)
      rw[List.getD_eq_getElem?_getD,List.getElem?_append_right (by simp; exact lc3 5 [_,_,_,_,_] [] (.l (.p N0 N1) N2) (.e N3 N1) (.e N0 N4) (.n (.t N2 (.p N4 N3))) hnl hul hil)]
      have e:i-(us++List.replicate nl V.undef).length=i-(ps++ls).length:=by simp; exact lc2 5 [_,_,_,_,_] [] (.e (.s N0 (.p N1 N2)) (.s N0 (.p N3 N4))) (.e N4 N2) (.e N1 N3) hnl hul
      rw[e,h1'];exact hin al B.base
  olen:=B1.olen,own:=B1.own,alnd:=B1.alnd
  pnd:=by
   show(env.locals::env.cells.map (·.2)).Nodup;rw[List.nodup_cons,he3];refine⟨fun hm=>?_,ok.clnd⟩;obtain⟨o,v,ho,_⟩:=cellg _ hm;rw[B.sub _ _ ho]at Lnew; cases Lnew
  pgl:=a2y B.sub Lnew
  pgc:=fun y c hky hc=>by
   rw[hk]at hky;exact absurd rfl (ok.nocell _ (e1r hky))
  plt:=fun b hb=>by
   rcases List.mem_cons.mp hb with h|h
   ·obtain⟨o,_,_,ho,_⟩:=hns; exact⟨o,by rw[h,he2]; exact ho⟩
   ·rw[he3]at h
    obtain⟨o,v,ho,_⟩:=cellg _ h;exact⟨o,B1.sub _ _ ho⟩
  pal:=fun b hb hm=>by
   obtain⟨j,hj,e⟩:=List.getElem_of_mem hm;obtain⟨a',ha',q⟩:=B.own j _ (List.getElem?_eq_getElem (by rw[←B.olen]; exact hj))
   rw[List.getElem?_eq_getElem hj,e]at ha';cases ha'
   rcases List.mem_cons.mp hb with h|h
   ·obtain⟨ob,hob⟩:=q.alive B.sub
    rw[h,Lnew]at hob; cases hob
   ·rw[he3]at h
    obtain⟨oc,v,hoc,hdc⟩:=cellg _ h;cases eo:ow[j]'(by rw[←B.olen]; exact hj)with
    |lst l=>rw[eo]at q; rw[q.1]at hoc; cases hoc
    |iter l=>rw[eo]at q; rw[q.1]at hoc; cases hoc
    |dead=>rw[eo]at q; rw[q.1]at hoc; cases hoc
    |froz l=>
     rw[eo]at q;obtain⟨a2,vs2,e2,⟨ol,hol,_,_,hdl⟩,_⟩:=RD.listE q;cases e2;rw[hol]at hoc; cases hoc;rw[hdl]at hdc; cases hdc
  pta:=fun b hb hm=>by
   obtain⟨hgn,o',ho',_⟩:=B.tabs b hm
   rcases List.mem_cons.mp hb with h|h
   ·rw[h]at ho'; rw[Lnew]at ho'; cases ho'
   ·rw[he3]at h
    obtain⟨oc,v,hoc,_⟩:=cellg _ h;rw[hgn]at hoc; cases hoc
  ata:=B1.ata,base:=B1.base }
 have hfr:FrOK C (A.deeper env) env g h1 al:=hfrB.deep (by rw[he1]; exact ok.kind) he4 he2.symm sb fun b hb hgn=>by
  rcases List.mem_cons.mp hb with h|h
  ·rw[h]; exact Lnew
  ·rw[he3]at h
   obtain⟨oc,v,hoc,_⟩:=cellg _ h;rw[hgn]at hoc; cases hoc
 have H:Here C (a2m fd.scope.names (ps++ls++fs)) hzf n (A.deeper env) env g s1 al ⟨us++List.replicate nl .undef++fr,ow,hz⟩:=
  ⟨⟨by have:=aok.depth; show A.depth+1+n≤_; exact a2c (.l (.p (.p N0 O1) N1) N2) (.l (.p N0 (.p N1 O1)) N2) this,by have:=aok.units; show A.units+3+4*n+70<_; exact a2c (.t (.p (.p (.p N0 (.k 3)) (.m 0 4 N1)) (.k 70)) N2) (.t (.p (.p N0 (.m 0 4 (.p N1 O1))) (.k 70)) N2) this,aok.none,aok.handled⟩,hzz,⟨by rw[he1]; exact ok.kind,by rw[he1]; rfl,he5,he6⟩,by rw[hs1h]; exact R,by rw[hs1h]; exact hfr⟩
 refine hs _ env g _ al _ _ _ _ H hw fun fl fr' al' g' s' st' a' hf hq=>?_;have wrL:∀b∈wr (a2m fd.scope.names (ps++ls++fs)) env,s.heap.get? b=none:=fun b hb=>by
  rcases List.mem_cons.mp hb with h|h
  ·rw[h]; exact Lnew
  ·obtain⟨x,hx,_⟩:=List.mem_filterMap.mp h
   obtain⟨p,hp,rfl⟩:=List.mem_map.mp hx;obtain⟨hp1,hp2⟩:=List.mem_filter.mp hp;exact absurd (by simpa using hp2) (ok.nocell p hp1)
 have x2:Step (al++C.TA) s g s' g':=(x1.mono (W':=al++C.TA) fun _ h=>nomatch h).trans a'.step fun b hb=>by
  rcases List.mem_append.mp hb with h|h
  ·exact .inr (wrL b h)
  ·exact .inl h
 have B2:=a'.here.rel.b.take a'.pre B.base;rw[B.olen]at B2;cases fl with
 |next=>
  cases fr' with
  |next=>exact kk .none (.dat .none) _ s' g' B2 x2 RD.none hq
  |_=>exact hf.elim
 |ret d=>
  cases fr' with
  |ret v=>exact kk v (.dat d) _ s' g' B2 x2 hf hq
  |_=>exact hf.elim
end
end
section
structure NestAt(C:Cfg)(c P:Addr)(pos:Pos)(qual:Str):Prop where
 hd:∀g,C.Amb g→CodeHd g c P
 mem:P∈C.TA
 out:∀g o,C.tabOk g P o→∃ps,o=tabObj ps∧(ps=#[]∨∃c',ps=#[rawInt pos.line,rawInt pos.col,.ref c']∧g.CodeRec (.ref c') qual)
 put:∀g c',g.CodeRec (.ref c') qual→C.tabOk g P (tabObj #[rawInt pos.line,rawInt pos.col,.ref c'])
 bm:∃bm ob,C.mg "__builtins__" = some (.ref bm)∧bm≠builtinsNs∧ob.cls=.type "module" ∧ ob.dict=some builtinsNs∧ob.data=.plain∧∀g,C.Amb g→g.get? bm=some ob
theorem a1j{g h:Heap}{cd:e1n}{q:Str}(s:Sub g h)(x:g.CodeRec cd q):h.CodeRec cd q:=Exists.imp (fun _=>Exists.imp fun _=>Exists.imp fun _=>Exists.imp fun _=>And.imp_right (And.imp_left (s _ _))) x
section
variable {C:Cfg} {Γ:Ctx} {n:Nat} {hz:Bool} {k:Ck} {sc:SI}
theorem c9c{s:e1m}{al:List Addr}{st:St}{name qual:Str}{body:List Stmt}{pos:Pos}{fl:Nat}{c P:Addr}{Q:e1n→e1m→Prop}(N:NestAt C c P pos qual)(H:Here C sc hz n A env g s al st)
 (hcode:env.code=.ref c) (hfree:∀p∈scope.names,p.2=.free→sc.names.lookup p.1=some .cell∨sc.names.lookup p.1=some .free)
 (h:∀f doc pm ctv c' s' g',Here C sc hz n A env g' s' al st→Step C.TA s g s' g'→s.heap.get? f=none→g'.get? f=some (fnMade name qual params body scope (a1e env scope.names []) doc pm c' ctv)→g'.CodeRec (.ref c') qual→Q (.ref f) s') :
  e1p (model C.prog C.w) A (makeFunction name qual params (.stmts body) scope env [] [] [] pos fl) Q Eh s:=by
 have T:=H.rel.amb.T.keeps H.rel.sub;have hd:=N.hd g H.rel.amb;obtain⟨hgP,oP,hoP,hnP,htP⟩:=H.rel.tabs P N.mem;obtain⟨ps,rfl,hps⟩:=N.out g oP htP;have hcl:closureFor scope env=pure (a1e env scope.names []):=a5g fun p hp hf=>by
  obtain⟨c,_,hc,_⟩:=H.rel.cell p.1 (hfree p hp hf); exact⟨c,hc⟩
 obtain⟨bm,ob,b1,b2,b3,b4,b5,b6⟩:=N.bm;have hgM:e1v≠P:=fun q=>by
  obtain⟨o,es,ep,e,_⟩:=H.rel.amb.T.g;rw[q,hgP]at e; cases e
 have hbG:bm≠e1v:=fun q=>by
  obtain⟨o,es,ep,e,hdd,_⟩:=H.rel.amb.T.g;rw[q.symm,b6 g H.rel.amb]at e; cases e; rw[b5]at hdd; cases hdd
 have hbP:bm≠P:=fun q=>by have:=b6 g H.rel.amb; rw[q,hgP]at this; cases this
 have hb:s.heap.BuiltinsAt C.mg P:=⟨bm,ob,b1,b2,hbG,hbP,H.rel.sub _ _ (b6 g H.rel.amb),b3,b4,b5⟩;have hhd:CodeHd s.heap c P:=hd.keeps H.rel.sub;have fin:∀(h1:Heap) (tk:Tok) (c':Addr) (doc ctv:e1n),Heap.ExtBut P s.heap h1→(∃o',h1.get? P=some o'∧b9t o'∧∀g',Sub g g'→g'.CodeRec (.ref c') qual→C.tabOk g' P o')→h1.CodeRec (.ref c') qual→s.heap.objs.size≤h1.objs.size→
   (g.CodeRec (.ref c') qual∨s.heap.get? c'=none)→
   Q (.ref h1.objs.size) { s with heap:=h1.push (fnMade name qual params body scope (a1e env scope.names []) doc ((C.mg "__name__").getD .none) c' ctv),toks:=tk }:=fun h1 tk c' doc ctv hx hP hcr hsz hc'=>by
  generalize hfo:fnMade name qual params body scope (a1e env scope.names []) doc ((C.mg "__name__").getD .none) c' ctv=fo;have sg1:Sub g h1:=fun b o e=>hx b o (fun q=>by rw[q,hgP]at e; cases e) (H.rel.sub _ _ e)
  have hf1:(h1.push fo).get? h1.objs.size=some fo:=Heap.get?_push_size h1 (by subst hfo; rfl)
  have hfn:s.heap.get? h1.objs.size=none:=a0s hsz;obtain⟨cc,oc,vs,t,e1,e2,e3,e4⟩:=id hcr;cases e1;have sbp:Sub h1 (h1.push fo):=a0f fo;obtain⟨g1,s1,s2,x1,x2,x3⟩:=b5y (sg1.trans sbp) c' fun o q1 q2 ⟨vs',n',q3⟩=>by
   rw[sbp _ _ e2]at q1; cases q1;rw[e3]at q3; cases q3
  obtain⟨g2,t1,t2,y1,y2,y3⟩:=a5o s2 h1.objs.size fun o q1 q2=>by rw[hf1]at q1; cases q1; subst hfo; simp at q2
  have hcf:c'≠h1.objs.size:=Nat.ne_of_lt (Heap.lt_size e2);have gcr:g2.CodeRec (.ref c') qual:=⟨c',oc,vs,t,rfl,(y2 c' hcf).trans (x1.trans (sbp _ _ e2)),e3,e4⟩;have alive:∀b o,s.heap.get? b=some o→g.get? b=none→b≠h1.objs.size∧b≠c':=fun b o hb hg=>by
   refine⟨fun q=>(by rw[q,hfn]at hb; cases hb),fun q=>?_⟩
   rcases hc' with⟨c2,oc2,_,_,q1,q2,_⟩|h
   ·cases q1; rw[←q,hg]at q2; cases q2
   ·rw[q,h]at hb; cases hb
  have gn:∀b o,s.heap.get? b=some o→g.get? b=none→g2.get? b=none:=fun b o hb hg=>by
   obtain⟨a1,a2⟩:=alive b o hb hg;exact(y2 b a1).trans ((x2 b a2).trans hg)
  have kept:∀b o,b∉C.TA→s.heap.get? b=some o→(h1.push fo).get? b=some o:=fun b o hb e=>sbp _ _ (hx b o (fun q=>hb (q▸N.mem)) e);have st2:Step C.TA s g { s with heap:=h1.push fo,toks:=tk } g2:={
   same:=⟨_,_,rfl⟩
   sub:=s1.trans t1
   keep:=fun b o hb e=>.of (kept b o hb e)
   low:=fun _=>t2
   fresh:=fun b o _ hb hg=>gn b o hb hg
   nd:=fun h=>y3 (x3 h) }
  have tb:C.Tabs g2 (h1.push fo):=fun P' hP'=>by
   obtain⟨q1,o,q2,q3,q4⟩:=H.rel.tabs P' hP';refine⟨gn P' o q2 q1,?_⟩
   by_cases hPP:P'=P
   ·subst hPP
    obtain⟨o',k1,k2,k3⟩:=hP;exact⟨o',sbp _ _ k1,k2,k3 g2 (s1.trans t1) gcr⟩
   ·exact⟨o,sbp _ _ (hx P' o hPP q2),q3,C.tabMono _ _ _ _ (s1.trans t1) q4⟩
  have R2:Rel C sc env g2 (h1.push fo) al st:=H.rel.up (s1.trans t1) (y3 (x3 H.rel.nd)) t2 tb (fun b o hb e=>.of (kept b o (fun hm=>hb (List.mem_append_right _ hm)) e))
   (fun b hb hg=>(H.rel.plt b hb).elim fun o ho=>gn b o ho hg) H.rel.olen fun j o e=>by
    obtain⟨a,ha,q⟩:=H.rel.own j o e;obtain⟨ob,hob⟩:=q.alive H.rel.sub;exact⟨a,ha,q.keep (s1.trans t1) (fun ob' e'=>.of (kept a ob' (H.rel.ata a (List.mem_of_getElem? ha)) e')) fun hg=>gn a ob hob hg⟩
  exact h _ _ _ _ _ { s with heap:=h1.push fo,toks:=tk } g2 ⟨H.ok.mono (s1.trans t1),H.hz,H.eok,R2,H.fr.step st2 fun b hb=>.inr (.inr (.inl hb))⟩ st2 hfn (y1.trans hf1 |>.trans (by subst hfo; rfl)) gcr
 rcases hps with rfl|⟨c',rfl,hcr⟩
 ·refine makeFunction_K hcl H.eok.globals T.g hcode hhd hoP trivial rfl hgM hb fun c' ctv doc h1 tk hx hge hlt hcr ht=>?_
  refine fin h1 tk c' doc ctv hx ⟨_,ht,(by intro es ep q; cases q),fun g' _ hc=>?_⟩ hcr (Nat.le_of_lt (Nat.lt_of_le_of_lt hge hlt)) (.inr (a0s hge))
  have:=N.put g' c' hc
  simpa using this
 ·refine makeFunction_hit hcl H.eok.globals T.g hcode hhd hoP ?_ (cv:=.ref c') ?_ hb fun ctv doc h1 tk hk hsz=>?_
  ·exact⟨⟩
  ·simp[codeAmong,rawInt]
  ·refine fin h1 tk c' doc ctv (fun b o _ e=>hk b o e) ⟨_,hk _ _ hoP,(by intro es ep q; cases q),fun g' _ hc=>N.put g' c' hc⟩ (a1j (H.rel.sub.trans hk) hcr) hsz (.inl hcr)
end
end
section
noncomputable def Cfg.at(C:Cfg)(g1:Heap)(F:Nat)(f:Addr)(b:List Addr):Cfg:=
 { C with KI:=fun g=>Sub g1 g,KM:=fun _ _ s x=>x.trans s,base:=b,fnv:=fun q=>if q=F then .ref f else C.fnv q }
section
variable {C:Cfg} {g1:Heap} {F:Nat} {f:Addr} {b:List Addr}
theorem Amb.ofAt(hC:C.Amb g1)(x:(C.at g1 F f b).Amb g):C.Amb g:=⟨C.KM _ _ x.K hC.K,x.T⟩
theorem BRel.toAt{al:List Addr}{ow:List OV}(B:BRel C g1 h al ow):BRel (C.at g1 F f al) g1 h al ow where
 sub:=B.sub
 amb:=⟨.refl g1,B.amb.T⟩
 nd:=B.nd
 tabs:=B.tabs
 olen:=B.olen
 own:=B.own
 alnd:=B.alnd
 ata:=B.ata
 base:=List.prefix_refl _
theorem BRel.ofAt(hC:C.Amb g1){g h:Heap}{al:List Addr}{ow:List OV}(hb:C.base <+: al)(B:BRel (C.at g1 F f b) g h al ow):BRel C g h al ow where
 sub:=B.sub
 amb:=Amb.ofAt hC B.amb
 nd:=B.nd
 tabs:=B.tabs
 olen:=B.olen
 own:=B.own
 alnd:=B.alnd
 ata:=B.ata
 base:=hb
theorem PvAt.at{k k':Ck}(hC:C.Amb g1)(P:PvAt C k):PvAt (C.at g1 F f b) k':=by
 obtain⟨a,o,fd,r,p1,p2,p3,p4,p5,ls,h1,h2,h3,h4,h5,h6⟩:=P;exact⟨a,o,fd,r,p1,p2,p3,p4,p5,ls,h1,h2,fun g hg=>h3 g (Amb.ofAt hC hg),h4,h5,h6⟩
theorem TokAt.at(hC:C.Amb g1)(P:TokAt C):TokAt (C.at g1 F f b):=by
 obtain⟨d,D,h1,h2,h3,h4,h5⟩:=P;exact⟨d,D,h1,fun g hg=>h2 g (Amb.ofAt hC hg),h3,h4,h5⟩
end
theorem a6p{C:Cfg}{Γ:Ctx}{n:Nat}{k:Ck}(Gd:Good C k)(P:PvAt C k)(T:TokAt C)(hn:0<n):Extra C Γ n k:=
 ⟨fun hz sc i x so h hl=>d1e T so h hl,fun sc pre i l hb h ep lp rp hp pos so he hy hpre hc hH=>d6w Gd P hn he hy hpre hc hH⟩
noncomputable def inl(F:Nat)(tk:List (e1l×e1l))(np nl:Nat)(fr:List V)(body:Ss):Nat→Ctx
 |0=>fun _ _ _ _ _ _=>False
 |m+1=>fun q hz ks us ow Q=>q=F∧0<m∧e0f (inl F tk np nl fr body m) tk np nl fr body hz ks us ow Q
noncomputable def b5r(F:Nat):Ck:=⟨fun _=>none,[],[],fun q=>q==F⟩
theorem c9e{C:Cfg}{k:Ck}{g1:Heap}{F:Nat}{f:Addr}{b:List Addr}{fo:Obj}(Gd:Good C k)(hfo:g1.get? f=some fo)(hfd:fo.data=.func fd):Good (C.at g1 F f b) (b5r F) where
 gi:=fun _ _ h=>nomatch h
 gs:=fun _ _ h=>nomatch h
 fn:=fun _ _ h=>nomatch h
 fo:=fun _ _ h=>nomatch h
 bn:=Gd.bn
 fc:=fun q h=>by
  have hq:q=F:=by simpa[b5r]using h
  subst hq;exact⟨f,fo,fd,by simp[Cfg.at],hfd,fun g hg=>hg.K _ _ hfo⟩
theorem c7q{C:Cfg}{k:Ck}{g1:Heap}{F:Nat}{f:Addr}{b:List Addr}{fo:Obj}{fd:FuncData}{ps ls fs:List Str}{cl:List (Str×Addr)}{stmts:List Stmt}{body:Ss}{fr:List V}(Gd:Good C k)(P:PvAt C k)(T:TokAt C)(hC:C.Amb g1)(hfo:g1.get? f=some fo)(hfd:fo.data=.func fd)
  (hcr:g1.CodeRec fd.code fd.qualname) (ok:FnOKc fd ps ls fs cl stmts) (hfs:c9t (C.at g1 F f b) cl fs fr) (hcl:∀c∈cl.map (·.2),∃v,g1.IsCell c v) (hck:d0r (b5r F) false (a2m fd.scope.names (ps++ls++fs)) body stmts) :
  ∀m,a3q (C.at g1 F f b) (inl F C.toks ps.length ls.length fr body m) m
 |0=>fun q A g s al ow hz vs ks kvs us Eh Q Q' _ _ _ _ _ h _=>h.elim
 |m+1=>fun q A g s al ow hz vs ks kvs us Eh Q Q' aok B fb hl iv h kk=>by
  obtain⟨rfl,hm,h⟩:=h;have ih:=c7q Gd P T hC hfo hfd hcr ok hfs hcl hck m;have Gd':=c9e (F:=q) (f:=f) (b:=b) Gd hfo hfd;have hS:=b4l Gd' ih (a6p Gd' (P.at hC) (T.at hC) hm) (c4t ok) hck;exact b3s (C:=C.at g1 q f b) rfl (by simp[Cfg.at]) hfd (fun g hg=>⟨hg.K _ _ hfo,a1j hg.K hcr⟩) ok hfs (fun g hg c hc=>let⟨v,o,ho,hd⟩:=hcl c hc; ⟨v,o,hg.K _ _ ho,hd⟩) hS A g s al ow hz vs ks kvs us Eh Q Q' (fun q=>nomatch q) aok B fb hl iv h kk
theorem b2w{h:Heap}:∀(as:List Addr) {g:Heap},Sub g h→(∀a∈as,∀o,h.get? a=some o→∃v,o.data=.cell v)→
  ∃g':Heap,Sub g g'∧Sub g' h∧(∀a∈as,g'.get? a=h.get? a)∧(∀b,b∉as→g'.get? b=g.get? b)∧(ND g→ND g')
 |[],g,s,_=>⟨g,.refl g,s,(fun _ hm=>nomatch hm),fun _ _=>rfl,id⟩
 |a::as,g,s,ha=>by
  obtain⟨g1,s1,s2,s3,s4,s5⟩:=b2w as s fun b hb=>ha b (List.mem_cons_of_mem _ hb);obtain⟨g2,t1,t2,t3,t4,t5⟩:=b5y s2 a fun o e _ ⟨vs,n,hd⟩=>by
   obtain⟨v,e2⟩:=ha a (.head _) o e;rw[e2]at hd; cases hd
  refine⟨g2,s1.trans t1,t2,fun b hb=>?_,fun b hb=>?_,fun h=>t5 (s5 h)⟩
  ·by_cases hba:b=a
   ·subst hba; exact t3
   ·exact(t4 b hba).trans (s3 b ((List.mem_cons.mp hb).resolve_left hba))
  ·exact(t4 b fun q=>hb (q ▸ .head _)).trans (s4 b fun q=>hb (List.mem_cons_of_mem _ q))
end
section
section
variable {C:Cfg} {n:Nat} {hz:Bool} {k:Ck}
theorem b7p{xs:List Str}{L a:Addr}(hn:(fd.scope.names.map (·.1)).Nodup):∀x c,(x,c)∈(e1q fd L a).cells→fd.scope.names.lookup x=some .cell∧c∈wr (a2m fd.scope.names xs) (e1q fd L a):=fun x c hm=>by
 have hcl:(e1q fd L a).cells.lookup x=some c:=a0q (a2z hn).1 hm;have hk:fd.scope.names.lookup x=some .cell:=by
  by_cases q:fd.scope.names.lookup x=some .cell
  ·exact q
  ·have:=(a0n fd.scope.names (L+1) [] hn x).1 q
   have hcl:(cellsFrom (L+1) fd.scope.names []).lookup x=some c:=hcl;rw[hcl]at this; simp at this
 refine⟨hk,List.mem_cons_of_mem _ (List.mem_filterMap.mpr ⟨x,?_,hcl⟩)⟩;exact List.mem_map.mpr ⟨_,List.mem_filter.mpr ⟨e1r hk,by simp⟩,rfl⟩
theorem b3n{s:e1m}{al:List Addr}{st:St}{Qc:V→List OV→Prop}{xs:List Str}{name qual:Str}{ibody:List Stmt}{iscope:Scope}{doc pm ctv:e1n}{c' fA F:Addr}{ps ls fs:List Str}{body:Ss}{fr:List V}{us:List V}
 (Gd:Good C k) (P:PvAt C k) (T:TokAt C) (hn:(fd.scope.names.map (·.1)).Nodup) (henv:∃L a,env=e1q fd L a) (H:Here C (a2m fd.scope.names xs) hz n A env g s al st)
 (hfo:g.get? fA=some (fnMade name qual params ibody iscope (a1e env iscope.names []) doc pm c' ctv)) (hcr:g.CodeRec (.ref c') qual)
 (ok:FnOKc (fnX name qual params ibody iscope (a1e env iscope.names []) .none .none doc pm none (.ref c') ctv) ps ls fs (a1e env iscope.names []) ibody)
 (hfree:∀p∈iscope.names,p.2=.free→fd.scope.names.lookup p.1=some .cell)
 (hfl:fr.length=fs.length) (hfr:∀(i:Nat) (x:Str),fs[i]?=some x→∃u v,fr[i]?=some u∧Look env s.heap x v∧((∃d,u=.dat d∧RD g v d)∨(∃j a,u=.own j∧al[j]?=some a∧v=.ref a)∨(u=.fn F∧v=.ref fA)))
 (hck:d0r (b5r F) false (a2m iscope.names (ps++ls++fs)) body ibody)
 (hiv:InVs C g al vs us) (hud:∀u∈us,∃d,u=.dat d)
 (hw:inl F C.toks ps.length ls.length fr body n F st.hz [] us st.own Qc)
 (kk:∀v d ow' s' g',BRel C g' s'.heap al ow'→Step (wr (a2m fd.scope.names xs) env++(al++C.TA)) s g s' g'→RD g' v d→Qc (.dat d) ow'→(∀x c w,env.cells.lookup x=some c→s.heap.IsCell c w→s'.heap.IsCell c w)→Q' v s') :
  e1p (model C.prog C.w) A (call (.ref fA) vs) Q' Eh s:=by
 obtain⟨L,a0,rfl⟩:=henv;have R:=H.rel;have cellof:∀c∈(e1q fd L a0).cells.map (·.2),∃x w,(e1q fd L a0).cells.lookup x=some c∧s.heap.IsCell c w:=fun c hc=>by
  obtain⟨⟨x,c1⟩,hp,rfl⟩:=List.mem_map.mp hc;obtain⟨hk,_⟩:=b7p (xs:=xs) hn x c1 hp;obtain⟨c2,w,h2,h3⟩:=R.cell x (.inl hk)
  have:(e1q fd L a0).cells.lookup x=some c1:=a0q (a2z hn).1 hp
  rw[this]at h2; cases h2;exact⟨x,w,this,h3⟩
 obtain⟨g1,sg1,sg2,fz,nfz,nd1⟩:=b2w ((e1q fd L a0).cells.map (·.2)) R.sub fun c hc o ho=>by
  obtain⟨x,w,_,o',ho',hd⟩:=cellof c hc;rw[ho]at ho'; cases ho'; exact⟨_,hd⟩
 have C1:C.Amb g1:=R.amb.mono sg1;have cellin:∀x c w,(e1q fd L a0).cells.lookup x=some c→s.heap.IsCell c w→g1.IsCell c w:=fun x c w hc hw=>by
  obtain⟨o,ho,hd⟩:=hw;exact⟨o,(fz c (List.mem_map.mpr ⟨_,e1r hc,rfl⟩)).trans ho,hd⟩
 have notcell:∀b o,s.heap.get? b=some o→(∀w,o.data ≠ .cell w)→g.get? b=none→g1.get? b=none:=fun b o ho hd hg=>by
  refine(nfz b fun hm=>?_).trans hg;obtain⟨_,w,_,o',ho',hd'⟩:=cellof b hm;rw[ho]at ho'; cases ho'; exact hd _ hd'
 have st1:Step (wr (a2m fd.scope.names xs) (e1q fd L a0)) s g s g1:={
  same:=⟨s.heap,s.toks,rfl⟩
  sub:=sg1
  keep:=fun b o _ e=>.of e
  low:=fun _=>sg2
  fresh:=fun b o hb _ hg=>(nfz b fun hm=>by
   obtain⟨⟨x,c⟩,hp,rfl⟩:=List.mem_map.mp hm;exact hb (b7p hn x c hp).2).trans hg
  nd:=nd1 }
 have mem_priv:∀b∈(e1q fd L a0).cells.map (·.2),b∈a4o (e1q fd L a0):=fun b hb=>List.mem_cons_of_mem _ hb;have B1:BRel C g1 s.heap al st.own:={
  sub:=sg2,amb:=C1,nd:=nd1 R.nd
  tabs:=R.tabs.keep sg1 (fun P _ ob e=>.of e) fun P hP=>by
   obtain⟨q1,_⟩:=R.tabs P hP;exact(nfz P fun hm=>R.pta P (mem_priv P hm) hP).trans q1
  olen:=R.olen
  own:=fun j o e=>by
   obtain⟨a,ha,q⟩:=R.own j o e;exact⟨a,ha,q.keep sg1 (fun ob e=>.of e) fun hg=>(nfz a fun hm=>R.pal a (mem_priv a hm) (List.mem_of_getElem? ha)).trans hg⟩
  alnd:=R.alnd,ata:=R.ata,base:=R.base }
 have FB:FrB (C.at g1 F fA al) A g1 s.heap al:=by
  obtain⟨es,f1,f2⟩:=H.fr.b R;refine⟨es,f1,fun e he=>?_⟩;obtain⟨k1,Lf,k2,k3,k4,k5,o,es',ep,k6,k7⟩:=f2 e he;exact⟨k1,Lf,k2,notcell Lf o k6 (fun w q=>by rw[k7]at q; cases q) k3,k4,k5,o,es',ep,k6,k7⟩
 have clk:∀x c,(x,c)∈a1e (e1q fd L a0) iscope.names []→(x,NameKind.free)∈iscope.names∧(e1q fd L a0).cells.lookup x=some c:=fun x c hm=>by
  rcases a3c hm with h|⟨h,e⟩
  ·cases h
  ·obtain⟨c1,_,hc,_⟩:=R.cell x (.inl (hfree _ h rfl))
   rw[hc]at e;exact⟨h,e▸hc⟩
 have hfs:c9t (C.at g1 F fA al) (a1e (e1q fd L a0) iscope.names []) fs fr:=by
  refine⟨hfl,fun i x hx=>?_⟩;obtain⟨u,v,h1,h2,h3⟩:=hfr i x hx;have hkf:iscope.names.lookup x=some .free:=ok.kindf x (List.mem_of_getElem? hx);have hkc:fd.scope.names.lookup x=some .cell:=hfree _ (e1r hkf) rfl;have hlk:∃c,(e1q fd L a0).cells.lookup x=some c∧s.heap.IsCell c (some v):=by
   rcases h2 with⟨hk,_⟩|⟨_,c,hc,hcell⟩
   ·rw[H.eok.kindOf]at hk
    have hk:fd.scope.names.lookup x=some .local:=hk;rw[hkc]at hk; cases hk
   ·exact⟨c,hc,hcell⟩
  obtain⟨c,hc,hcell⟩:=hlk;refine⟨u,c,v,h1,?_,fun g' hg=>⟨?_,fun al' hal=>?_⟩⟩
  ·refine a0q (a1y (acc:=[]) ok.nodup List.nodup_nil (fun _ h=>nomatch h)) (a5i (.inr ⟨e1r hkf,?_⟩))
   show c=((e1q fd L a0).cells.lookup x).getD 0;rw[hc]; rfl
  ·obtain⟨o,ho,hd⟩:=cellin x c _ hc hcell
   exact⟨o,hg.K _ _ ho,hd⟩
  ·rcases h3 with⟨d,rfl,r⟩|⟨j,a,rfl,ha,rfl⟩|⟨rfl,rfl⟩
   ·exact(r.mono sg1).mono hg.K
   ·exact⟨a,a8m hal ha,rfl⟩
   ·show Value.ref fA=(if F=F then Value.ref fA else C.fnv F)
    rw[if_pos rfl]
 have hclc:∀c∈(a1e (e1q fd L a0) iscope.names []).map (·.2),∃v,g1.IsCell c v:=fun c hc=>by
  obtain⟨⟨x,c1⟩,hp,rfl⟩:=List.mem_map.mp hc;obtain⟨h1,h2⟩:=clk x c1 hp;obtain⟨c2,w,h3,h4⟩:=R.cell x (.inl (hfree _ h1 rfl));rw[h2]at h3; cases h3;exact⟨w,cellin x c1 w h2 h4⟩
 have hctx:=c7q (F:=F) (f:=fA) (b:=al) (g1:=g1) Gd P T C1 (sg1 _ _ hfo) rfl (a1j sg1 hcr) ok hfs hclc hck n;have hiv':InVs (C.at g1 F fA al) g1 al (vs++[]) us:=by
  rw[List.append_nil];have key:∀(vs:List e1n) (us:List V),InVs C g al vs us→(∀u∈us,∃d,u=.dat d)→InVs (C.at g1 F fA al) g1 al vs us:=by
   intro vs
   induction vs with
   |nil=>intro us h _; cases us with|nil=>trivial|cons=>exact h.elim
   |cons v r ih=>
    intro us h hd;cases us with
    |nil=>exact h.elim
    |cons u q=>
     obtain⟨d,rfl⟩:=hd u (.head _);exact⟨RD.mono sg1 h.1,ih q h.2 fun u hu=>hd u (List.mem_cons_of_mem _ hu)⟩
  exact key vs us hiv hud
 have hw':inl F C.toks ps.length ls.length fr body n F st.hz [] us st.own fun u ow=>(∃d,u=.dat d)∧Qc u ow:=by
  cases n with
  |zero=>exact hw.elim
  |succ m=>
   obtain⟨h1,h2,h3,h4,h5⟩:=hw;refine⟨h1,h2,h3,h4,?_⟩;have e:(fun(fl:Fl) (st':St)=>(∃d,V.dat (match fl with|.ret d=>d|.next=>PyData.none)=.dat d)∧Qc (.dat (match fl with|.ret d=>d|.next=>.none)) (st'.own.take st.own.length))=(fun(fl:Fl) (st':St)=>Qc (.dat (match fl with|.ret d=>d|.next=>.none)) (st'.own.take st.own.length)):=by
    funext fl st'; simp
   show a1f _ _ _ _ fun fl st'=>(∃d,V.dat (match fl with|.ret d=>d|.next=>PyData.none)=.dat d)∧Qc (.dat (match fl with|.ret d=>d|.next=>.none)) (st'.own.take st.own.length)
   rw[e];exact h5
 have c:=hctx F A g1 s al st.own st.hz vs [] [] us Eh _ Q' (H.ok.mono sg1) B1.toAt FB rfl hiv' hw' fun v u ow' s' g' B x iv hq=>?_
 ·simpa[Cfg.at]using c
 ·obtain⟨⟨d,rfl⟩,hq⟩:=hq
  refine kk v d ow' s' g' (BRel.ofAt C1 R.base B) ((st1.mono fun b hb=>List.mem_append_left _ hb).tr (x.mono fun b hb=>List.mem_append_right _ hb)) iv hq fun x c w hc hw=>?_;obtain⟨o,ho,hd⟩:=cellin x c w hc hw;exact⟨o,B.sub _ _ (B.amb.K _ _ ho),hd⟩
end
end
section
noncomputable def a4j(params:Arguments)(iscope:Scope)(ps ls fs:List Str):Bool:=
 iscope.kind == .function && !iscope.isCoroutine && !iscope.isGenerator&&decide ((iscope.names.map (·.1)).Nodup)&&decide ((ps++ls++fs).Nodup)&&(ps++ls).all (fun x=>iscope.names.lookup x==some .local) &&
  fs.all (fun x=>iscope.names.lookup x==some .free)&&iscope.names.all (fun p=>p.2 != .cell&&(p.2 != .free||fs.contains p.1))&&a3y params .none ps
theorem a8d{name qual:Str}{ibody:List Stmt}{iscope:Scope}{doc pm cd ctv:e1n}{ps ls fs:List Str}(h:a4j params iscope ps ls fs=true)(hcl:(cl.map (·.2)).Nodup) :
  FnOKc (fnX name qual params ibody iscope cl .none .none doc pm none cd ctv) ps ls fs cl ibody:=by
 have h9:=a0a h;have h8:=List.all_eq_true.mp (a0a (a0b h));have h7:=List.all_eq_true.mp (a0a (a0b (a0b h)));have h6:=List.all_eq_true.mp (a0a (a0b (a0b (a0b h))));have h5:=of_decide_eq_true (a0a (a0b (a0b (a0b (a0b h)))));exact{
  body:=rfl,closure:=rfl,kind:=beq_iff_eq.mp (a0b (a0b (a0b (a0b (a0b (a0b (a0b (a0b h)))))))),co:=b1t (a0a (a0b (a0b (a0b (a0b (a0b (a0b (a0b h)))))))),gen:=b1t (a0a (a0b (a0b (a0b (a0b (a0b (a0b h))))))),globals:=rfl,builtins:=rfl,nodup:=of_decide_eq_true (a0a (a0b (a0b (a0b (a0b (a0b h)))))),xnodup:=h5
  kinds:=fun x hx=>beq_iff_eq.mp (h6 x hx)
  kindf:=fun x hx=>beq_iff_eq.mp (h7 x hx)
  nocell:=fun p hp=>bne_iff_ne.mp (a0b (h8 p hp))
  allfree:=fun p hp hf=>(Bool.or_eq_true_iff.mp (a0a (h8 p hp))).elim (fun k=>absurd hf (bne_iff_ne.mp k)) List.contains_iff_mem.mp
  clnd:=hcl
  bind:=fun vals hl=>a9m h9 (List.nodup_append.mp (List.nodup_append.mp h5).1).1 vals hl }
section
variable {C:Cfg} {Γ:Ctx} {n:Nat} {hz:Bool} {k:Ck}
theorem b6z{sc:SI}{s:e1m}{al:List Addr}{st:St}{name qual:Str}{body:List Stmt}{pos:Pos}{c P:Addr}{Q:Flow→e1m→Prop}(N:NestAt C c P pos qual)(so:SIOK sc)(H:Here C sc hz n A env g s al st)
 (hcode:env.code=.ref c) (hq:qualnameIn env name name=qual) (hfree:∀p∈scope.names,p.2=.free→sc.names.lookup p.1=some .cell∨sc.names.lookup p.1=some .free) (hx:a8t sc name i=true)
 (hd0:params.defaults=[]) (hk0:params.kw_defaults=[]) (ha:annTrees params none env=[])
 (h:∀f doc pm ctv c' s' g',Here C sc hz n A env g' s' al (st.set i .undef)→Step (wr sc env++(al++C.TA)) s g s' g'→g'.get? f=some (fnMade name qual params body scope (a1e env scope.names []) doc pm c' ctv)→g'.CodeRec (.ref c') qual→Look env s'.heap name (.ref f)→Q .next s') :
  e1p (model C.prog C.w) A (exec (.FunctionDef name params body [] none [] scope none name pos) env) Q Eh s:=by
 refine nestDef_K hd0 hk0 ha ?_;rw[hq];refine c9c N H hcode hfree fun f doc pm ctv c' s' g' H' x' hfn hfo hcr=>?_;refine a9k so H'.eok H'.rel (b0x hx) ((a8r hx).imp id fun h=>h.1) (u:=.undef) trivial fun s2 b hb x2 R2 lk _=>?_;have x3:Step (wr sc env) s' g' s2 g':=x2.mono fun c hc=>by simp at hc; subst hc; exact b4k hx hb
 refine h f doc pm ctv c' s2 g' ⟨H'.ok,H'.hz,H'.eok,R2,H'.fr.step x3 fun c hc=>.inl (a2g hc)⟩ ?_ hfo hcr lk;exact(x'.mono fun b hb=>List.mem_append_right _ (List.mem_append_right _ hb)).tr (x3.mono fun b hb=>List.mem_append_left _ hb)
theorem NestAt.pos{c P:Addr}{p p':Pos}(N:NestAt C c P p qual)(h1:p'.line=p.line)(h2:p'.col=p.col):NestAt C c P p' qual where
 hd:=N.hd
 mem:=N.mem
 out:=fun g o h=>by rw[h1,h2]; exact N.out g o h
 put:=fun g c' h=>by rw[h1,h2]; exact N.put g c' h
 bm:=N.bm
noncomputable def d5v(params:Arguments):Bool:=params.args.all fun a=>a.annotation.isNone
theorem b7r{dV:e1n}(h:a3y params dV ps=true)(h2:d5v params=true):annTrees params none env=[]:=by
 unfold a3y at h;simp only[Bool.and_eq_true,List.isEmpty_iff,Option.isNone_iff_eq_none,beq_iff_eq]at h;obtain⟨⟨⟨⟨⟨h1,h2'⟩,h3⟩,h4⟩,h5⟩,h6⟩:=h;obtain⟨po,a,va,ko,kd,kwa,de⟩:=params;dsimp only at h1 h2' h3 h4;subst h1 h2' h3 h4;unfold annTrees;have key:∀l:List Arg,(l.all fun a=>a.annotation.isNone)=true→annotationsOf l env=[]:=by
  intro l
  induction l with
  |nil=>intro _; rfl
  |cons x r ih=>
   intro h;simp only[List.all_cons,Bool.and_eq_true,Option.isNone_iff_eq_none]at h;obtain⟨arg,ann,pos⟩:=x;have h1:ann=none:=h.1;subst h1;exact ih h.2
 show annotationsOf (a++[]++[]++[]++[]) env++[]=[];simp only[List.append_nil];exact key a h2
theorem BRel.frozen{s:e1m}{al:List Addr}{ow:List OV}{D:Addr}{l:List e1l}(B:BRel C g s.heap al ow)(hD:al[j]?=some D)(hl:ow[j]?=some (.lst l)) :
  ∃g',BRel C g' s.heap al (ow.set j (.froz l))∧Step [D] s g s g'∧RD g' (.ref D) (.list l):=by
 obtain⟨D',hD',hg,vs,⟨nn,hp⟩,r⟩:=B.own j _ hl;rw[hD]at hD'; cases hD';obtain⟨g',s1,s2,x1,x2,x3⟩:=a5o B.sub D fun o e _=>by rw[hp]at e; cases e; rfl
 have rd:RD g' (.ref D) (.list l):=RD.list ⟨_,x1.trans hp,rfl,nn,rfl⟩ (r.mono s1);have hDm:=List.mem_of_getElem? hD;refine⟨g',?_,⟨⟨s.heap,s.toks,rfl⟩,s1,fun b o _ e=>.of e,fun _=>s2,fun b o hb _ hg=>(x2 b (by simpa using hb)).trans hg,x3⟩,rd⟩
 exact{
  sub:=s2,amb:=B.amb.mono s1,nd:=x3 B.nd
  tabs:=B.tabs.keep s1 (fun P _ ob e=>.of e) fun P hP=>(x2 P fun q=>B.ata D hDm (q▸hP)).trans (B.tabs P hP).1
  olen:=by simpa using B.olen
  own:=fun i o e=>by
   rw[List.getElem?_set]at e
   split at e
   ·rename_i hij
    subst hij
    split at e
    ·cases e; exact⟨D,hD,rd⟩
    ·cases e
   ·rename_i hij
    obtain⟨a,ha,q⟩:=B.own i o e;refine⟨a,ha,q.keep s1 (fun ob e=>.of e) fun hg=>(x2 a fun q'=>?_).trans hg⟩;subst q';obtain⟨h1,e1⟩:=List.getElem?_eq_some_iff.mp hD;obtain⟨h2,e2⟩:=List.getElem?_eq_some_iff.mp ha;exact hij ((List.getElem_inj (h₀:=h1) (h₁:=h2) B.alnd).mp (e1.trans e2.symm))
  alnd:=B.alnd,ata:=B.ata,base:=B.base }
end
end
section
noncomputable def d9c:List Str:=["x", "L", "R"]
noncomputable def d3a:List Str:=["a_digits", "n", "inner"]
noncomputable def a1o:List Str:=["a", "n", "a_digits", "inner"]
set_option backward.match.sparseCases false in
noncomputable def fA:Stmt→Arguments|.FunctionDef _ a _ _ _ _ _ _ _ _=>a|_=>default
set_option backward.match.sparseCases false in
noncomputable def fS:Stmt→Scope|.FunctionDef _ _ _ _ _ _ s _ _ _=>s|_=>default
noncomputable def c6z (S1:S) (args:Es) (body:Ss) (l:List Stmt):List Stmt:=[rbS S1 (sh l),.FunctionDef "inner" (fA (sh l.tail)) (a4q body (sB (sh l.tail))) [] none [] (fS (sh l.tail)) none "inner" (sP (sh l.tail)),
 .If (rbE (.var 0) (sV (sh l.tail.tail))) [.Expr (.Call (.Name "inner" (xP (x1 (sV (sh (sB (sh l.tail.tail))))))) (a7a args (xs (sV (sh (sB (sh l.tail.tail)))))) [] (xP (sV (sh (sB (sh l.tail.tail)))))) (sP (sh (sB (sh l.tail.tail))))] [] (sP (sh l.tail.tail)),
 .Return (some (.Name "a_digits" (xP (sV (sh l.tail.tail.tail))))) (sP (sh l.tail.tail.tail))]
noncomputable def e0g (k:Ck) (F:Nat) (fd:FuncData) (nms:List Str) (inj:Nat) (ips ls ifs:List Str) (body:Ss) (pos:Pos) (d:Stmt):Bool:=(sP d).line==pos.line&&((sP d).col==pos.col&&(a8t (a2m fd.scope.names nms) "inner" inj&&((fA d).defaults.isEmpty&&((fA d).kw_defaults.isEmpty&&(d5v (fA d)&&(a4j (fA d) (fS d) ips ls ifs&&((fS d).names.all (fun p=>p.2 != .free||fd.scope.names.lookup p.1==some .cell)&&b9p (b5r F) false (a2m (fS d).names (ips++ls++ifs)) body (sB d))))))))
noncomputable def d4i(k:Ck)(F:Nat)(fd:FuncData)(S1:S)(args:Es)(ls:List Str)(body:Ss)(pos:Pos)(l:List Stmt):Bool:=e0g k F fd a1o 3 d9c ls d3a body pos (sh l.tail)&&(ckS k true (a2m fd.scope.names a1o) S1 (sh l) &&
  (nmv (a2m fd.scope.names a1o) "a_digits" 2&&(nmv (a2m fd.scope.names a1o) "n" 1&&(fd.scope.names.lookup ("a_digits" : Str)==some NameKind.cell&&(b7t k true (a2m fd.scope.names a1o) (.var 0) (sV (sh l.tail.tail))&&(c7c args&&b8b k true (a2m fd.scope.names a1o) args (xs (sV (sh (sB (sh l.tail.tail)))))))))))
def e0a(Γ:Ctx)(tk:List (e1l×e1l))(F nl:Nat)(body:Ss)(m:Nat)(S1:S)(args:Es):St→(Fl→St→Prop)→Prop:=fun st Q=>st.hz=true∧wpS Γ tk S1 st fun fl st1=>match fl with
 |.ret _=>False
 |.next=>∃(j:Nat) (nn:Int),wpT Γ (.var 0) (st1.set 3 .undef) fun b st2=>st2.get 2=.own j ∧
   if b=true then wpAs Γ args st2 [] fun us st3=>st3.get 2=.own j∧st3.get 1=.dat (.int nn)∧(∀u∈us,∃d,u=.dat d) ∧
    inl F tk 3 nl [.own j,.dat (.int nn),.fn F] body m F st3.hz [] us st3.own fun _ ow=>∃l,ow[j]?=some (.lst l)∧Q (.ret (.list l)) { st3 with own:=ow.set j (.froz l) }
   else ∃l,st2.own[j]?=some (.lst l)∧Q (.ret (.list l)) (st2.setOwn j (.froz l))
section
variable {C:Cfg} {Γ:Ctx} {n:Nat} {k:Ck}
theorem b6x{sc:SI}{g h:Heap}{al:List Addr}{st:St}{i j:Nat}(R:Rel C sc env g h al st)(hi:sc.ids.lookup x=some i)(e:st.get i=.own j):∃D,al[j]?=some D∧Look env h x (.ref D):=by
 rcases R.vars x i hi with h0|⟨v,hl,hv⟩
 ·have:=h0 _ rfl; rw[e]at this; cases this
 ·rw[e]at hv
  obtain⟨a,ha,rfl⟩:=hv;exact⟨a,ha,hl⟩
theorem b1g{sc:SI}{g h:Heap}{al:List Addr}{st:St}(R:Rel C sc env g h al st)(hi:sc.ids.lookup x=some i)(e:st.get i=.dat d):∃v,Look env h x v∧RD g v d:=by
 rcases R.vars x i hi with h0|⟨v,hl,hv⟩
 ·have:=h0 _ rfl; rw[e]at this; cases this
 ·rw[e]at hv
  exact⟨v,hl,hv⟩
theorem c0z{F:Nat}{body:Ss}{S1:S}{args:Es}{stmts l0:List Stmt}{pos:Pos}{c P:Addr}{ps0 ls0:List Str}(hxs:ps0++ls0=a1o)(Gd:Good C k)(Γok:a3q C Γ n)(X:Extra C Γ n k)(PV:PvAt C k)(TK:TokAt C)(N:NestAt C c P pos qual)(ok:FnOK fd ps0 ls0 stmts)
 (hcode:fd.code=.ref c) (hq:∀L a,qualnameIn (e1q fd L a) "inner" "inner" = qual) (hck:d4i k F fd S1 args ls body pos l0=true) :
  SSW C (a2m fd.scope.names (ps0++ls0)) n true fd (e0a Γ C.toks F ls.length body n S1 args) (c6z S1 args body l0):=fun A env g s al st Eh Q Q' henv H hw kk=>by
 have so:=b1f ok;rw[hxs]at so H kk;unfold c6z;have hin0:=a0b hck;have hck1:=a0a hck;have hS1:=a0b hck1; have hck2:=a0a hck1;have hya:=a0b hck2; have hck3:=a0a hck2;have hnn:=a0b hck3; have hck4:=a0a hck3;have hyc:fd.scope.names.lookup ("a_digits" : Str)=some NameKind.cell:=beq_iff_eq.mp (a0b hck4);have hT:=a0b (a0a hck4);have hne:=a0b (a0a (a0a hck4));have hAs:=a0a (a0a (a0a hck4));have hp1:(sP (sh l0.tail)).line=pos.line:=beq_iff_eq.mp (a0b hin0);have d1:=a0a hin0;have hp2:(sP (sh l0.tail)).col=pos.col:=beq_iff_eq.mp (a0b d1);have d2:=a0a d1;have hin:=a0b d2; have d3:=a0a d2;have hd0:(fA (sh l0.tail)).defaults=[]:=List.isEmpty_iff.mp (a0b d3);have d4:=a0a d3;have hk0:(fA (sh l0.tail)).kw_defaults=[]:=List.isEmpty_iff.mp (a0b d4);have d5:=a0a d4;have hna:=a0b d5; have d6:=a0a d5;have hshape:=a0b d6; have d7:=a0a d6;have hfr:=a0b d7;have hbody:d0r (b5r F) false (a2m (fS (sh l0.tail)).names (d9c++ls++d3a)) body (a4q body (sB (sh l0.tail))):=⟨_,a0a d7,rfl⟩;generalize sP (sh l0.tail)=pos' at hp1 hp2 ⊢;generalize fA (sh l0.tail)=params at hd0 hk0 hna hshape ⊢;generalize fS (sh l0.tail)=iscope at hshape hfr hbody ⊢;generalize a4q body (sB (sh l0.tail))=ibody at hbody ⊢;clear hck hin0 hck1 hck2 hck3 hck4 d1 d2 d3 d4 d5 d6 d7;have hplain:a3y params .none d9c=true:=by unfold a4j at hshape; simp only[Bool.and_eq_true]at hshape; exact hshape.2
 have N':=N.pos hp1 hp2;obtain⟨L0,a0,rfl⟩:=henv;obtain⟨hhz,hw⟩:=hw;have hfree:∀p∈iscope.names,p.2=.free→fd.scope.names.lookup p.1=some .cell:=fun p hp hf=>by
  have:=List.all_eq_true.mp hfr p hp
  simp only[hf,Bool.or_eq_true,bne_iff_ne,ne_eq,not_true_eq_false,false_or,beq_iff_eq]at this
  exact this
 refine e1t (c7x Gd Γok X true S1 _ _ so hS1 A _ g s al st Eh _ _ H hw fun fl f al1 g1 s1 st1 a1 hf hw1=>?_);cases fl with
 |ret d=>exact hw1.elim
 |next=>
 cases f with
 |next=>
  obtain⟨j,nn,hw1⟩:=hw1;refine e1t (b6z N' so a1.here hcode (hq _ _) (fun p hp hf=>.inl (hfree p hp hf)) hin hd0 hk0 (b7r hplain hna) fun fA doc pm ctv c' s2 g2 H2 x2 hfo hcr lk=>?_);refine e1t (wpAny_If (a2o Gd Γok (.var 0) _ _ so hT A _ g2 s2 al1 _ Eh _ _ H2 hw1 fun b st4 s4 g4 a4 hw4=>?_));have H4:=H2.go a4;have lk4:=a6r H2.rel lk a4.step fun b hb=>by
   rcases List.mem_append.mp hb with h|h
   ·exact fun hm=>H2.rel.pal b hm h
   ·exact fun hm=>H2.rel.pta b hm h
  obtain⟨hj,hw4⟩:=hw4;obtain⟨D,hD,lkD⟩:=b6x H4.rel (a3w hya).1 hj;have new1:∀b∈wr (a2m fd.scope.names a1o) (e1q fd L0 a0)++(al1++C.TA),b∈wr (a2m fd.scope.names a1o) (e1q fd L0 a0)++(al++C.TA)∨s.heap.get? b=none:=fun b hb=>by
   rcases List.mem_append.mp hb with h|h
   ·exact .inl (List.mem_append_left _ h)
   ·rcases List.mem_append.mp h with h|h
    ·exact(a1.new b h).imp (fun h=>List.mem_append_right _ (List.mem_append_left _ h)) id
    ·exact .inl (List.mem_append_right _ (List.mem_append_right _ h))
  have step4:Step (wr (a2m fd.scope.names a1o) (e1q fd L0 a0)++(al++C.TA)) s g s4 g4:=(a1.step.trans x2 new1).trans (a4.step.mono (W':=wr (a2m fd.scope.names a1o) (e1q fd L0 a0)++(al1++C.TA)) fun b hb=>List.mem_append_right _ hb) new1;have fin:∀{yp rp:Pos} (s5:e1m) (g5:Heap) (ow:List OV) (l:List e1l) (st':St),BRel C g5 s5.heap al1 ow→Step (wr (a2m fd.scope.names a1o) (e1q fd L0 a0)++(al1++C.TA)) s4 g4 s5 g5→Look (e1q fd L0 a0) s5.heap "a_digits" (.ref D)→ow[j]?=some (.lst l)→st'.own=ow.set j (.froz l)→Q (.ret (.list l)) st'→
    e1p (model C.prog C.w) A (execs [.Return (some (.Name "a_digits" yp)) rp] (e1q fd L0 a0)) Q' Eh s5:=fun s5 g5 ow l st' B5 x5 l5 hl hst hq=>by
   refine e1t (wpAny_Return_some (a8p H.eok l5 (by decide) (by decide) ?_))
   obtain⟨g6,B6,x6,rd⟩:=B5.frozen hD hl;refine kk (.ret (.list l)) (.ret (.ref D)) al1 g6 s5 st' a1.pre (by rw[hst]; exact B6) ?_ rd hq
   refine(step4.trans x5 new1).trans (x6.mono (W':=wr (a2m fd.scope.names a1o) (e1q fd L0 a0)++(al1++C.TA)) fun b hb=>?_) new1;simp at hb; subst hb;exact List.mem_append_right _ (List.mem_append_left _ (List.mem_of_getElem? hD))
  cases b with
  |false=>
   rw[if_neg (by decide)]at hw4
   obtain⟨l,hl,hq⟩:=hw4;exact wpAny_execs_nil (fin s4 g4 st4.own l (st4.setOwn j (.froz l)) H4.rel.b .refl lkD hl rfl hq)
  |true=>
   rw[if_pos rfl]at hw4;refine e1t (a5e H.eok rfl (e2b (a8p H.eok lk4 (by decide) (by decide) ?_)))
   have hu:=b8o hne (xs (sV (sh (sB (sh l0.tail.tail)))));refine a5b (o:=fnMade "inner" qual params ibody iscope (a1e (e1q fd L0 a0) iscope.names []) doc pm c' ctv) (fd:=fnX "inner" qual params ibody iscope (a1e (e1q fd L0 a0) iscope.names []) .none .none doc pm none (.ref c') ctv) rfl hu ?_;refine(a1r Gd Γok args _ _ so hAs).2.1 A _ g4 s4 al1 st4 Eh _ [] _ _ H4 hw4 fun vs us st5 s5 g5 a5 i5 hw5=>?_;have H5:=H4.go a5;have hfo5:=a5.step.sub _ _ (a4.step.sub _ _ hfo);refine⟨a5.rel.sub _ _ hfo5,?_⟩;have apart5:∀b∈al1++C.TA,b∉a4o (e1q fd L0 a0):=fun b hb=>by
    rcases List.mem_append.mp hb with h|h
    ·exact fun hm=>H4.rel.pal b hm h
    ·exact fun hm=>H4.rel.pta b hm h
   have lk5:=a6r H4.rel lk4 a5.step apart5;obtain⟨hj5,hn5,hud,hw5⟩:=hw5;obtain⟨vn,lkn,rn⟩:=b1g a5.rel (a3w hnn).1 hn5;obtain⟨D5,hD5,lkD5⟩:=b6x a5.rel (a3w hya).1 hj5;rw[hD]at hD5; cases hD5;have hnd:((a1e (e1q fd L0 a0) iscope.names []).map (·.2)).Nodup:=by
    have hk:=a1y (env:=e1q fd L0 a0) (names:=iscope.names) (acc:=[]) (by unfold a4j at hshape; simp only[Bool.and_eq_true,decide_eq_true_eq]at hshape; exact hshape.1.1.1.1.1.2) List.nodup_nil (fun _ h=>nomatch h)
    have hcn:=(List.nodup_cons.mp H4.rel.pnd).2;have clm:∀x c,(x,c)∈a1e (e1q fd L0 a0) iscope.names []→(e1q fd L0 a0).cells.lookup x=some c:=fun x c hm=>by
     rcases a3c hm with h|⟨h,e⟩
     ·cases h
     ·obtain⟨c1,_,hc,_⟩:=H4.rel.cell x (.inl (hfree _ h rfl))
      rw[hc]at e;exact e▸hc
    refine List.pairwise_map.mpr (List.Pairwise.imp_of_mem (fun{p q} hp hq hne=>?_) (List.pairwise_map.mp hk));exact a3d hcn (clm _ _ hp) (clm _ _ hq) hne
   have okc:=a8d (name:="inner") (qual:=qual) (ibody:=ibody) (doc:=doc) (pm:=pm) (cd:=.ref c') (ctv:=ctv) hshape hnd;refine b3n (F:=F) (fr:=[.own j,.dat (.int nn),.fn F]) Gd PV TK ok.nodup ⟨_,_,rfl⟩ H5 hfo5 (a1j a5.step.sub (a1j a4.step.sub hcr)) okc hfree rfl (fun i x hx=>?_) hbody i5 hud hw5 fun v d ow' s6 g6 B6 x6 rd hq6 hcells=>?_
   ·match i,hx with
    |0,hx=>simp[d3a]at hx; subst hx; exact⟨_,_,rfl,lkD5,.inr (.inl ⟨j,D,rfl,hD,rfl⟩)⟩
    |1,hx=>simp[d3a]at hx; subst hx; exact⟨_,_,rfl,lkn,.inl ⟨_,rfl,rn⟩⟩
    |2,hx=>simp[d3a]at hx; subst hx; exact⟨_,_,rfl,lk5,.inr (.inr ⟨rfl,rfl⟩)⟩
    |i+3,hx=>simp[d3a]at hx
   ·obtain⟨l,hl,hq⟩:=hq6
    have hyk:fd.scope.names.lookup ("a_digits" : Str)=some .cell:=hyc;have lk6:Look (e1q fd L0 a0) s6.heap "a_digits" (.ref D):=by
     rcases lkD5 with⟨hk,_⟩|⟨hk,cc,hcl,hcell⟩
     ·rw[H.eok.kindOf]at hk
      have hk:fd.scope.names.lookup ("a_digits" : Str)=some .local:=hk;rw[hyk]at hk; cases hk
     ·exact .inr ⟨hk,cc,hcl,hcells _ _ _ hcl hcell⟩
    refine wpAny_execs_nil (fin s6 g6 ow' l { st5 with own:=ow'.set j (.froz l) } B6 ?_ lk6 hl rfl hq)
    exact(a5.step.mono fun b hb=>List.mem_append_right _ hb).tr x6
 |_=>exact hf.elim
end
end
section
noncomputable def c9p:List Str:=["L", "R"]
noncomputable def b9e:List Str:=["digits", "n", "inner"]
noncomputable def a3r:List Str:=["digits", "n", "inner"]
noncomputable def c7l (args:Es) (body:Ss) (l:List Stmt):List Stmt:=[.FunctionDef "inner" (fA (sh l)) (a4q body (sB (sh l))) [] none [] (fS (sh l)) none "inner" (sP (sh l)),
 .Return (some (.IfExp (rbE (.var 0) (x1 (sV (sh l.tail)))) (.Call (.Name "inner" (xP (x1 (x2 (sV (sh l.tail)))))) (a7a args (xs (x2 (sV (sh l.tail))))) [] (xP (x2 (sV (sh l.tail))))) (.Constant (.int 0) (xK (x3 (sV (sh l.tail)))) (xP (x3 (sV (sh l.tail))))) (xP (sV (sh l.tail))))) (sP (sh l.tail))]
noncomputable def d6s(k:Ck)(F:Nat)(fd:FuncData)(args:Es)(ls:List Str)(body:Ss)(pos:Pos)(l:List Stmt):Bool:=e0g k F fd a3r 2 c9p ls b9e body pos (sh l) &&
  (nmv (a2m fd.scope.names a3r) "digits" 0&&(nmv (a2m fd.scope.names a3r) "n" 1&&(b7t k true (a2m fd.scope.names a3r) (.var 0) (x1 (sV (sh l.tail)))&&(c7c args&&b8b k true (a2m fd.scope.names a3r) args (xs (x2 (sV (sh l.tail))))))))
def d9z(Γ:Ctx)(tk:List (e1l×e1l))(F nl:Nat)(body:Ss)(m:Nat)(args:Es):St→(Fl→St→Prop)→Prop:=fun st Q=>st.hz=true∧∃(ds:List e1l) (nn:Int),wpT Γ (.var 0) (st.set 2 .undef) fun b st2=>
   if b=true then wpAs Γ args st2 [] fun us st3=>st3.get 0=.dat (.list ds)∧st3.get 1=.dat (.int nn)∧(∀u∈us,∃d,u=.dat d) ∧
    inl F tk 2 nl [.dat (.list ds),.dat (.int nn),.fn F] body m F st3.hz [] us st3.own fun v ow=>∃d,v=.dat d∧Q (.ret d) { st3 with own:=ow }
   else Q (.ret (.int 0)) st2
section
variable {C:Cfg} {Γ:Ctx} {n:Nat} {k:Ck}
theorem c0q{F:Nat}{body:Ss}{args:Es}{stmts l0:List Stmt}{pos:Pos}{c P:Addr}{ps0 ls0:List Str}(hxs:ps0++ls0=a3r)(Gd:Good C k)(Γok:a3q C Γ n)(PV:PvAt C k)(TK:TokAt C)(N:NestAt C c P pos qual)(ok:FnOK fd ps0 ls0 stmts)
 (hcode:fd.code=.ref c) (hq:∀L a,qualnameIn (e1q fd L a) "inner" "inner" = qual) (hck:d6s k F fd args ls body pos l0=true) :
  SSW C (a2m fd.scope.names (ps0++ls0)) n true fd (d9z Γ C.toks F ls.length body n args) (c7l args body l0):=fun A env g s al st Eh Q Q' henv H hw kk=>by
 have so:=b1f ok;rw[hxs]at so H kk;unfold c7l;have hin0:=a0b hck;have hck1:=a0a hck;have hya:=a0b hck1; have hck2:=a0a hck1;have hnn:=a0b hck2; have hck3:=a0a hck2;have hT:=a0b hck3;have hne:=a0b (a0a hck3);have hAs:=a0a (a0a hck3);have hp1:(sP (sh l0)).line=pos.line:=beq_iff_eq.mp (a0b hin0);have d1:=a0a hin0;have hp2:(sP (sh l0)).col=pos.col:=beq_iff_eq.mp (a0b d1);have d2:=a0a d1;have hin:=a0b d2; have d3:=a0a d2;have hd0:(fA (sh l0)).defaults=[]:=List.isEmpty_iff.mp (a0b d3);have d4:=a0a d3;have hk0:(fA (sh l0)).kw_defaults=[]:=List.isEmpty_iff.mp (a0b d4);have d5:=a0a d4;have hna:=a0b d5; have d6:=a0a d5;have hshape:=a0b d6; have d7:=a0a d6;have hfr:=a0b d7;have hbody:d0r (b5r F) false (a2m (fS (sh l0)).names (c9p++ls++b9e)) body (a4q body (sB (sh l0))):=⟨_,a0a d7,rfl⟩;generalize sP (sh l0)=pos' at hp1 hp2 ⊢;generalize fA (sh l0)=params at hd0 hk0 hna hshape ⊢;generalize fS (sh l0)=iscope at hshape hfr hbody ⊢;generalize a4q body (sB (sh l0))=ibody at hbody ⊢;clear hck hin0 hck1 hck2 hck3 d1 d2 d3 d4 d5 d6 d7;have hplain:a3y params .none c9p=true:=by unfold a4j at hshape; simp only[Bool.and_eq_true]at hshape; exact hshape.2
 have N':=N.pos hp1 hp2;obtain⟨L0,a0,rfl⟩:=henv;obtain⟨hhz,ds,nn,hw1⟩:=hw;have hfree:∀p∈iscope.names,p.2=.free→fd.scope.names.lookup p.1=some .cell:=fun p hp hf=>by
  have:=List.all_eq_true.mp hfr p hp
  simp only[hf,Bool.or_eq_true,bne_iff_ne,ne_eq,not_true_eq_false,false_or,beq_iff_eq]at this
  exact this
 refine e1t (b6z N' so H hcode (hq _ _) (fun p hp hf=>.inl (hfree p hp hf)) hin hd0 hk0 (b7r hplain hna) fun fA doc pm ctv c' s2 g2 H2 x2 hfo hcr lk=>?_);refine e1t (wpAny_Return_some (wpAny_IfExp (a2o Gd Γok (.var 0) _ _ so hT A _ g2 s2 al _ Eh _ _ H2 hw1 fun b st4 s4 g4 a4 hw4=>?_)));have H4:=H2.go a4;have lk4:=a6r H2.rel lk a4.step fun b hb=>by
  rcases List.mem_append.mp hb with h|h
  ·exact fun hm=>H2.rel.pal b hm h
  ·exact fun hm=>H2.rel.pta b hm h
 have step4:Step (wr (a2m fd.scope.names a3r) (e1q fd L0 a0)++(al++C.TA)) s g s4 g4:=x2.tr (a4.step.mono fun b hb=>List.mem_append_right _ hb);cases b with
 |false=>
  rw[if_neg (by decide)]at hw4
  refine wpAny_Constant_int ?_;have a5:=H4.stay { s4 with toks:=s4.toks+1 } Step.toks H4.rel.sub
  exact kk (.ret (.int 0)) (.ret _) al g4 _ st4 (List.prefix_refl _) a5.rel.b (step4.tr (a5.step.mono fun b hb=>List.mem_append_right _ hb)) (RD.int 0 _) hw4
 |true=>
  rw[if_pos rfl]at hw4;refine e2b (a8p H.eok lk4 (by decide) (by decide) ?_)
  have hu:=b8o hne (xs (Mw.Internal.x2 (sV (sh l0.tail))));refine a5b (o:=fnMade "inner" qual params ibody iscope (a1e (e1q fd L0 a0) iscope.names []) doc pm c' ctv) (fd:=fnX "inner" qual params ibody iscope (a1e (e1q fd L0 a0) iscope.names []) .none .none doc pm none (.ref c') ctv) rfl hu ?_;refine(a1r Gd Γok args _ _ so hAs).2.1 A _ g4 s4 al st4 Eh _ [] _ _ H4 hw4 fun vs us st5 s5 g5 a5 i5 hw5=>?_;have H5:=H4.go a5;have hfo5:=a5.step.sub _ _ (a4.step.sub _ _ hfo);refine⟨a5.rel.sub _ _ hfo5,?_⟩;have apart5:∀b∈al++C.TA,b∉a4o (e1q fd L0 a0):=fun b hb=>by
   rcases List.mem_append.mp hb with h|h
   ·exact fun hm=>H4.rel.pal b hm h
   ·exact fun hm=>H4.rel.pta b hm h
  have lk5:=a6r H4.rel lk4 a5.step apart5;obtain⟨hj5,hn5,hud,hw5⟩:=hw5;obtain⟨vn,lkn,rn⟩:=b1g a5.rel (a3w hnn).1 hn5;obtain⟨vd,lkd,rd5⟩:=b1g a5.rel (a3w hya).1 hj5;have hnd:((a1e (e1q fd L0 a0) iscope.names []).map (·.2)).Nodup:=by
   have hk:=a1y (env:=e1q fd L0 a0) (names:=iscope.names) (acc:=[]) (by unfold a4j at hshape; simp only[Bool.and_eq_true,decide_eq_true_eq]at hshape; exact hshape.1.1.1.1.1.2) List.nodup_nil (fun _ h=>nomatch h)
   have hcn:=(List.nodup_cons.mp H4.rel.pnd).2;have clm:∀x c,(x,c)∈a1e (e1q fd L0 a0) iscope.names []→(e1q fd L0 a0).cells.lookup x=some c:=fun x c hm=>by
    rcases a3c hm with h|⟨h,e⟩
    ·cases h
    ·obtain⟨c1,_,hc,_⟩:=H4.rel.cell x (.inl (hfree _ h rfl))
     rw[hc]at e;exact e▸hc
   refine List.pairwise_map.mpr (List.Pairwise.imp_of_mem (fun{p q} hp hq hne=>?_) (List.pairwise_map.mp hk));exact a3d hcn (clm _ _ hp) (clm _ _ hq) hne
  have okc:=a8d (name:="inner") (qual:=qual) (ibody:=ibody) (doc:=doc) (pm:=pm) (cd:=.ref c') (ctv:=ctv) hshape hnd;refine b3n (F:=F) (fr:=[.dat (.list ds),.dat (.int nn),.fn F]) Gd PV TK ok.nodup ⟨_,_,rfl⟩ H5 hfo5 (a1j a5.step.sub (a1j a4.step.sub hcr)) okc hfree rfl (fun i x hx=>?_) hbody i5 hud hw5 fun v d ow' s6 g6 B6 x6 rd hq6 hcells=>?_
  ·match i,hx with
   |0,hx=>simp[b9e]at hx; subst hx; exact⟨_,_,rfl,lkd,.inl ⟨_,rfl,rd5⟩⟩
   |1,hx=>simp[b9e]at hx; subst hx; exact⟨_,_,rfl,lkn,.inl ⟨_,rfl,rn⟩⟩
   |2,hx=>simp[b9e]at hx; subst hx; exact⟨_,_,rfl,lk5,.inr (.inr ⟨rfl,rfl⟩)⟩
   |i+3,hx=>simp[b9e]at hx
  ·obtain⟨d',hd',hq⟩:=hq6
   cases hd';exact kk (.ret d) (.ret v) al g6 s6 { st5 with own:=ow' } (List.prefix_refl _) B6 ((step4.tr (a5.step.mono fun b hb=>List.mem_append_right _ hb)).tr x6) rd hq
end
end
section
end
section
end
section
section
variable {C:Cfg} {A:e1x} {E:e1n→e1m→Prop} {s:e1m}
theorem b9j{d:Addr}{name:Str}{Q:Unit→e1m→Prop}(hm:s.heap.DictOf (e2a C.prog C.w) d kvs)(hf:name∉kvs.map (·.1))
 (hQ:∀h' tk,h'.DictOf (e2a C.prog C.w) d (kvs++[(name,v)])→Heap.SameBut d s.heap h'→Q () { s with heap:=h',toks:=tk }):e1p (model C.prog C.w) A (nsSet d name v) Q E s:=by
 obtain⟨o,es,ep,ho,hc,hd,hk,hp,hn⟩:=hm;unfold nsSet;refine e1k ?_;unfold strHash;refine e1k (wpAny_askSetting (e1o ?_));refine e1k (wpAny_mkText ?_);refine e1k (wpAny_loadPart (s:={ s with toks:=s.toks+1 }) ho ?_)
 have hany:es.any (·.refKey)=false:=by
  rw[Array.any_eq_false']; intro e he;obtain⟨k,h1,h2⟩:=hk e he;obtain⟨t,ht⟩:=Value.isStrOf_shape h1;simp[DictEntry.refKey,ht]
 rw[hd];simp only[aRefKeyMayBeTheName_eq,aRefKeyMayBeTheNameByArray,hany,Bool.and_false,Bool.false_eq_true,if_false];refine wpAny_updatePart (s:={ s with toks:=s.toks+1 }) ho ?_
 have hnone:es.findIdx? (·.key.isStr name)=none:=by
  have h1:(es.findIdx? fun e=>(e2a C.prog C.w).is name e.key)=kvs.findIdx? fun kv=>decide (kv.1=name):=by
   rw[←hp.findIdx name]; obtain⟨l⟩:=es; simp
  have h2:(kvs.findIdx? fun kv=>decide (kv.1=name))=none:=by
   rw[List.findIdx?_eq_none_iff];intro kv hkv;exact decide_eq_false fun q=>hf (q▸List.mem_map.mpr ⟨kv,hkv,rfl⟩)
  have h3:(fun e:DictEntry=>e.key.isStr name)=fun e=>(e2a C.prog C.w).is name e.key:=by
   funext e
   show Value.isStr e.key name=Value.isStrOf name e.key;cases e.key <;> rfl
  rw[h3];exact h1.trans h2
 have hput:∀key h,Obj.putName name h key v o={ o with data:=.dict (es.push ⟨h,key,v⟩) (ep+1) }:=fun key h=>by
  obtain⟨c,d',dt,sl⟩:=o;subst hd;simp only[Obj.putName_eq,Obj.putNameByArray,hnone]
 have hkey:(e2a C.prog C.w).is name (.str name s.toks)=true:=strKind_is C.prog C.w name s.toks;refine hQ _ _ ⟨_,es.push ⟨_,.str name s.toks,v⟩,ep+1,Heap.get?_update_self _ ho ?_,?_,?_,hk.push hkey _,?_,?_⟩ (Heap.SameBut.update ..)
 ·rw[hput]; exact Obj.isFreed_of_dict (es:=es.push _) (ep:=ep+1) rfl
 ·rw[hput]; obtain⟨a1,a2,a3⟩:=hc; exact⟨a1,a2,a3⟩
 ·rw[hput]; rfl
 ·have:=hp.append hkey ((e2a C.prog C.w).hash name) v
  obtain⟨l⟩:=es;simpa using this
 ·rw[List.map_append,List.nodup_append]
  refine⟨hn,by simp,fun a ha b hb e=>?_⟩
  simp at hb; subst hb; subst e; exact hf ha
end
noncomputable def e0k(p:Arguments)(dV:e1n)(ps:List Str)(ka:Str):Bool:=
 p.posonlyargs.isEmpty&&p.vararg.isNone&&p.kwonlyargs.isEmpty&&(match p.kwarg with|some a=>a.arg==ka|none=>false)&&d1g dV&&p.args.map (·.arg)==ps
theorem b0g{α β:Type}:∀(kw:List α) (a:β) (l:List α) (f:α→β×List α→Sem (ForInStep (β×List α))),(∀x∈kw,∀st,f x st=pure (.yield (st.1,st.2++[x])))→forIn kw (a,l) f=pure (a,l++kw)
 |[]=>fun a l f _=>by simp
 |x::kw=>fun a l f h=>by
  rw[List.forIn_cons,h x (.head _)];simp only[pure_bind];rw[b0g kw a (l++[x]) f fun y hy=>h y (List.mem_cons_of_mem _ hy)];simp
section
variable {C:Cfg} {A:e1x} {E:e1n→e1m→Prop} {s:e1m}
theorem d4l{d:Addr}{acc:List (Str×e1n)}(hm:s.heap.DictOf (e2a C.prog C.w) d acc):∀(kw:List (Str×e1n)),((acc++kw).map (·.1)).Nodup→∀{Q:PUnit→e1m→Prop},
  (∀h' tk,h'.DictOf (e2a C.prog C.w) d (acc++kw)→Heap.SameBut d s.heap h'→Q ⟨⟩ { s with heap:=h',toks:=tk })→
  e1p (model C.prog C.w) A (forIn kw PUnit.unit fun x _=>do nsSet d x.1 x.2; pure (ForInStep.yield PUnit.unit)) Q E s:=by
 intro kw
 induction kw generalizing acc s with
 |nil=>intro hn Q hQ; exact e1o (hQ s.heap s.toks (by simpa using hm) (.refl ..))
 |cons x r ih=>
  intro hn Q hQ;rw[List.forIn_cons];have hf:x.1∉acc.map (·.1):=fun hmem=>by
   rw[List.map_append,List.nodup_append]at hn;exact hn.2.2 x.1 hmem x.1 (by simp) rfl
  refine e1k (e1k (b9j hm hf fun h1 tk1 hd1 hs1=>e1o ?_));refine ih (s:={ s with heap:=h1,toks:=tk1 }) hd1 (by simpa using hn) fun h2 tk2 hd2 hs2=>?_
  exact hQ h2 tk2 (by simpa using hd2) (hs1.trans hs2)
theorem c7h{α β:Type}{m:Sem α}{v:α}{f:α→Sem β}{Q:β→e1m→Prop}(h:m=pure v)(k:e1p (model C.prog C.w) A (f v) Q E s):e1p (model C.prog C.w) A (m >>= f) Q E s:=by rw[h]; exact k
theorem d7b{β:Type}[Decidable c]{a b:Sem β}{Q:β→e1m→Prop}(h:¬c)(k:e1p (model C.prog C.w) A b Q E s):e1p (model C.prog C.w) A (if c then a else b) Q E s:=by rw[if_neg h]; exact k
theorem d2b{ka:Str}(h:e0k fd.params fd.defaults ps ka=true)(hn:ps.Nodup)(vals:List e1n)(hl:vals.length=ps.length)(kw:List (Str×e1n))(hk:∀p∈kw,p.1∉ps)(hkn:(kw.map (·.1)).Nodup)(hkl:kw.length≤1000){Q:List (Str×e1n)→e1m→Prop}
 (hQ:∀h' tk,Sub s.heap h'→h'.DictOf (e2a C.prog C.w) s.heap.objs.size kw→Q (ps.zip vals++[(ka,.ref s.heap.objs.size)]) { s with heap:=h',toks:=tk }) :
  e1p (model C.prog C.w) A (bindArgs fd ⟨vals,kw⟩) Q E s:=by
 obtain⟨_,_,⟨po,ar,va,ko,kd,kv,df⟩,_,_,_,_,dV,_,_,_,_,_,_,_⟩:=fd;cases po with|cons _ _=>cases h|nil=>?_
 cases va with|some _=>cases h|none=>?_
 cases ko with|cons _ _=>cases h|nil=>?_
 cases kv with|none=>cases h|some ak=>?_
 obtain rfl:=b7x (a0a (a0b h));obtain rfl:ak.arg=ka:=beq_iff_eq.mp (a0a (a0b (a0b h)));obtain rfl:ar.map (·.arg)=ps:=beq_iff_eq.mp (a0a h);clear h;dsimp only[bindArgs,List.map_nil,List.nil_append,List.append_nil];refine c7h (b0g kw ((ar.map (·.arg)).zip vals) [] _ fun x hx st=>?_) ?_
 ·exact d5u (by show ¬((ar.map (·.arg)).contains x.fst||false)=true; rw[Bool.or_false,List.contains_iff_mem]; exact hk x hx) (e0j rfl rfl)
 refine c7h (show seqItems? Value.none=pure none from rfl) ?_
 refine d7b (show ¬(decide (vals.length>(ar.map (·.arg)).length)&&true)=true by rw[hl,decide_eq_false (Nat.lt_irrefl _)]; exact Bool.false_ne_true) ?_
 refine d7b (by
  show ¬(!(List.filter (fun n=>(List.lookup n ((ar.map (·.arg)).zip vals)).isNone) (List.take ((ar.map (·.arg)).length-(List.drop (0-(ar.map (·.arg)).length) ([]:List e1n)).length) (ar.map (·.arg)))).isEmpty)=true;rw[List.drop_nil,List.length_nil,Nat.sub_zero,List.take_length,a2p hl hn]; exact Bool.false_ne_true) ?_
 refine c7h (v:=(ar.map (·.arg)).zip vals) ?_ ?_
 ·show forIn ((List.drop _ (ar.map (·.arg))).zip (List.drop (0-(ar.map (·.arg)).length) ([]:List e1n))) _ _=_
  rw[List.drop_nil,List.zip_nil_right]; rfl
 refine c7h (show forIn ([]:List Str) _ _=pure _ from rfl) ?_
 refine d7b Bool.false_ne_true ?_;refine d7b (by show ¬([]++kw).length>e2f+1; rw[List.nil_append]; have:e2f=_:=sizeLine_eq; omega) ?_
 have hdo:=Heap.DictOf.new (knd:=e2a C.prog C.w) s.heap;refine e1k (wpAny_alloc ?_);refine e1k (d4l hdo kw (by simpa using hkn) fun h' tk hd hs=>?_)
 refine e1o ?_;show Q (List.filterMap (fun n=>(List.lookup n ((ar.map (·.arg)).zip vals)).map (n,·)) (ar.map (·.arg)++[])++[(ak.arg,.ref s.heap.objs.size)]) { s with heap:=h',toks:=tk }
 rw[List.append_nil,a5h hl hn];exact hQ h' tk (fun b o e=>hs.extBut b o (Nat.ne_of_lt (Heap.lt_size e)) (Heap.get?_push_of_some _ e)) hd
end
end
section
theorem b1k:isSubtype (.type "dict") (.type "dict")=pure true:=by rw[isSubtype_type]; kernel_rfl
section
variable {C:Cfg} {A:e1x} {E:e1n→e1m→Prop} {s:e1m}
theorem b6c{d:Addr}{k:Str}{key v:e1n}{Q:Unit→e1m→Prop}(hkey:(e2a C.prog C.w).is k key=true)(hm:s.heap.DictOf (e2a C.prog C.w) d kvs)(hf:k∉kvs.map (·.1))(hsz:kvs.length≤1000)
 (hQ:∀h',h'.DictOf (e2a C.prog C.w) d (kvs++[(k,v)])→Heap.SameBut d s.heap h'→Q () { s with heap:=h' }):e1p (model C.prog C.w) A (dictPut d ((e2a C.prog C.w).hash k) key v) Q E s:=by
 obtain⟨o,es,ep,ho,hc,hd,hk,hp,hn⟩:=hm;have hes:es.size≤e2f:=by
  have e1:=hp.length; have e2:es.toList.length=es.size:=by simp
  have:e2f=_:=sizeLine_eq
  omega
 unfold dictPut;refine e1k (wpAny_dictFind_of hkey ho hd hk ?_);have hidx:(es.findIdx? fun e=>(e2a C.prog C.w).is k e.key)=none:=by
  have h1:(es.findIdx? fun e=>(e2a C.prog C.w).is k e.key)=kvs.findIdx? fun kv=>decide (kv.1=k):=by
   rw[←hp.findIdx k]; obtain⟨l⟩:=es; simp
  rw[h1,List.findIdx?_eq_none_iff];intro kv hkv;exact decide_eq_false fun q=>hf (q▸List.mem_map.mpr ⟨kv,hkv,rfl⟩)
 rw[hidx];refine wpAny_updateDictKeys (hz:=hes) ho hd (hQ _ ⟨_,_,ep+1,Heap.get?_update_self _ ho (Obj.isFreed_of_dict (Obj.data_mapDictKeys hd _)),hc.mapDictKeys _,Obj.data_mapDictKeys hd _,hk.push hkey _,?_,?_⟩ (Heap.SameBut.update ..))
 ·have:=hp.append hkey ((e2a C.prog C.w).hash k) v
  obtain⟨l⟩:=es;simpa using this
 ·rw[List.map_append,List.nodup_append]
  refine⟨hn,by simp,fun a ha b hb e=>?_⟩
  simp at hb; subst hb; subst e; exact hf ha
theorem c5a{d m:Addr}{kw:List (Str×e1n)}{Q:Unit→e1m→Prop}(hd:s.heap.DictOf (e2a C.prog C.w) d [])(hm:s.heap.DictOf (e2a C.prog C.w) m kw)(hne:d≠m)(hsys:(m==sysModules)=false)(hkl:kw.length≤1000)
 (hQ:∀h',h'.DictOf (e2a C.prog C.w) d kw→Heap.SameBut d s.heap h'→Q () { s with heap:=h' }):e1p (model C.prog C.w) A (mergeMapping d (.ref m) true) Q E s:=by
 have hT:=hm.typeIs;obtain⟨om,em,pm,hom,hcm,hdm,hkm,hpm,hnm⟩:=id hm;obtain⟨od,ed,pd,hod,hcd,hdd,hkd,hpd,hnd⟩:=id hd;have hed:ed=#[]:=by
  have:=hpd.length
  simp at this
  exact this
 subst hed;unfold mergeMapping;refine e1k (wpAny_isInstance hT b1k ?_);refine e1k (wpAny_specialOf hT F.slot_dict_iter.lookup ?_);refine e1k (e1o ?_);rw[show(some (Value.builtin "dict.__iter__")==some (Value.builtin "dict.__iter__"))=true from by decide]
 dsimp only;rw[if_neg (by rw[hsys]; decide)]
 refine e1k (wpAny_dictEntries hod hdd ?_);rw[if_pos (show(#[]:Array DictEntry).isEmpty=true from rfl)]
 refine e1k (wpAny_dictEntries hom hdm ?_);have keys:∀e∈em,∃k t,e.key=.str k t:=fun e he=>by
  obtain⟨k,h1,_⟩:=hkm e he;obtain⟨t,ht⟩:=Value.isStrOf_shape h1;exact⟨k,t,ht⟩
 have hsz:em.size=kw.length:=by have:=hpm.length; simpa using this
 refine e1k (wpAny_forIn_array' _ (fun rest _ s'=>s'=s∧∀e∈rest,∃k t,e.key=.str k t) _ (fun e rest b s' hI=>?_) (fun b s' hI=>?_) em PUnit.unit ⟨rfl,fun e he=>keys e (by simpa using he)⟩)
 ·obtain⟨rfl,hr⟩:=hI
  obtain⟨k,t,ht⟩:=hr e (.head _);simp only[ht];exact e1o ⟨rfl,fun e he=>hr e (List.mem_cons_of_mem _ he)⟩
 obtain⟨rfl,_⟩:=hI;refine e1k (wpAny_dictEntries hom hdm ?_);refine e1k (wpAny_dictEpoch hom hdm ?_);refine e1k (wpAny_forIn_list _ (fun rest _ s1=>∃i h',rest=List.range' i (em.size-i)∧i≤em.size∧s1={ s' with heap:=h' } ∧ h'.DictOf (e2a C.prog C.w) d (kw.take i)∧Heap.SameBut d s'.heap h') _ (fun x rest b s1 hI=>?_) (fun b s1 hI=>?_) _ PUnit.unit ⟨0,s'.heap,by rw[List.range_eq_range']; simp,Nat.zero_le _,rfl,by simpa using hd,.refl ..⟩)
 ·obtain⟨i,h',hr,hi,rfl,hd',hs'⟩:=hI
  have hlt:i<em.size:=by
   rcases Nat.lt_or_ge i em.size with h|h
   ·exact h
   ·rw[Nat.sub_eq_zero_of_le h]at hr; cases hr
  obtain⟨rfl,hrest⟩:x=i∧rest=List.range' (i+1) (em.size-(i+1)):=by
   have e:em.size-i=(em.size-(i+1))+1:=by exact a1b (.e (.s N0 N1) (.p (.s N0 (.p N1 O1)) O1)) (.t N1 N0) hlt
   rw[e,List.range'_succ]at hr;exact⟨(List.cons.inj hr).1,(List.cons.inj hr).2⟩
  have hom':h'.get? m=some om:=hs'.extBut _ _ (Ne.symm hne) hom;refine e1k (wpAny_dictEntries (s:={ s' with heap:=h' }) hom' hdm ?_)
  have hgx:em[x]?=some em[x]:=Array.getElem?_eq_getElem hlt;rw[hgx];obtain⟨kv,hkv⟩:∃kv,kw[x]?=some kv:=⟨kw[x]'(by exact a2a (.t N0 N1) (.e N2 N1) (.t N0 N2) hsz hlt),List.getElem?_eq_getElem (by exact a2a (.t N0 N1) (.e N2 N1) (.t N0 N2) hsz hlt)⟩
  obtain⟨hkey,hval⟩:=hpm.get? (e:=em[x]) (k:=kv.1) (v:=kv.2) (by rw[Array.getElem?_toList]; exact hgx) hkv
  obtain⟨k',hk1,hk2⟩:=hkm em[x] (Array.getElem_mem hlt);have hkk:k'=kv.1:=by
   obtain⟨t1,e1⟩:=Value.isStrOf_shape hk1;obtain⟨t2,e2⟩:=Value.isStrOf_shape hkey;rw[e1]at e2; cases e2; rfl
  rw[hkk]at hk2;have hfresh:kv.1∉(kw.take x).map (·.1):=fun hmem=>by
   obtain⟨p,hp,e⟩:=List.mem_map.mp hmem;obtain⟨j,hj,ej⟩:=List.getElem_of_mem hp;rw[List.length_take]at hj;rw[List.getElem_take]at ej;have e3:(kw.map (·.1))[j]'(by rw[List.length_map]; exact a2c (.t N0 N1) (.t N0 (.b 2 N2 N1)) hj)=(kw.map (·.1))[x]'(by rw[List.length_map]; exact a2a (.t N0 N1) (.e N2 N1) (.t N0 N2) hsz hlt):=by
    rw[List.getElem_map,List.getElem_map,ej,e]
    have:=List.getElem?_eq_some_iff.mp hkv
    rw[this.2]
   have:=(List.getElem_inj (h₀:=by rw[List.length_map]; exact a2c (.t N0 N1) (.t N0 (.b 2 N2 N1)) hj) (h₁:=by rw[List.length_map]; exact a2a (.t N0 N1) (.e N2 N1) (.t N0 N2) hsz hlt) hnm).mp e3
   exact a2a .f (.t N0 (.b 2 N1 N2)) (.e N0 N1) hj this
  obtain⟨od',ed',pd',hod',hcd',hdd',hkd',hpd',hnd'⟩:=id hd';dsimp only;rw[if_pos rfl,hk2];refine e1k (e1s (e1k (wpAny_dictFind_of (s:={ s' with heap:=h' }) hkey hod' hdd' hkd' ?_)))
  have hidx:(ed'.findIdx? fun e=>(e2a C.prog C.w).is kv.1 e.key)=none:=by
   have h1:(ed'.findIdx? fun e=>(e2a C.prog C.w).is kv.1 e.key)=(kw.take x).findIdx? fun p=>decide (p.1=kv.1):=by
    rw[←hpd'.findIdx kv.1]; obtain⟨l⟩:=ed'; simp
   rw[h1,List.findIdx?_eq_none_iff];intro p hp;exact decide_eq_false fun q=>hfresh (q▸List.mem_map.mpr ⟨p,hp,rfl⟩)
  rw[hidx,if_neg (by simp)]
  refine b6c (s:={ s' with heap:=h' }) hkey hd' hfresh (by rw[List.length_take]; exact a1b (.l (.b 2 N0 N1) (.k 1000)) (.l N1 (.k 1000)) hkl) fun h2 hd2 hs2=>?_
  have hom2:h2.get? m=some om:=hs2.extBut _ _ (Ne.symm hne) hom';refine e1k (wpAny_dictEpoch (s:={ s' with heap:=h2 }) hom2 hdm ?_)
  rw[if_neg (by simp)]
  refine e1o ⟨x+1,h2,hrest,hlt,rfl,?_,hs'.trans hs2⟩;have hkv2:(kv.1,em[x].val)=kv:=by rw[hval]
  rw[hkv2]at hd2;rw[List.take_succ,hkv]; exact hd2
 ·obtain⟨i,h',hr,hi,rfl,hd',hs'⟩:=hI
  have hin:i=em.size:=by
   rcases Nat.lt_or_ge i em.size with h|h
   ·have e:em.size-i=(em.size-(i+1))+1:=by exact a1b (.e (.s N0 N1) (.p (.s N0 (.p N1 O1)) O1)) (.t N1 N0) h
    rw[e,List.range'_succ]at hr; cases hr
   ·exact a1m (.e N0 N1) (.l N0 N1) (.l N1 N0) hi h
  rw[hin,hsz,List.take_length]at hd';exact e1o (hQ h' hd' hs')
theorem b9i{f:e1n}{x:Sem e1n}{m:Addr}{kw:List (Str×e1n)}{Q:Addr→e1m→Prop}(hm:s.heap.DictOf (e2a C.prog C.w) m kw)(hsys:(m==sysModules)=false)(hkl:kw.length≤1000)
 (hx:∀Qx:e1n→e1m→Prop,Qx (.ref m) { s with heap:=s.heap.push { cls:=.type "dict",data:=.dict #[] } }→e1p (model C.prog C.w) A x Qx E { s with heap:=s.heap.push { cls:=.type "dict",data:=.dict #[] } })
 (hQ:∀h',h'.DictOf (e2a C.prog C.w) s.heap.objs.size kw→Sub s.heap h'→Q s.heap.objs.size { s with heap:=h' }):e1p (model C.prog C.w) A (mergedKeywords f [(none,x)]) Q E s:=by
 have hd:=Heap.DictOf.new (knd:=e2a C.prog C.w) s.heap;have hm1:(s.heap.push { cls:=.type "dict",data:=.dict #[] }).DictOf (e2a C.prog C.w) m kw:=hm.at fun o e=>Heap.get?_push_of_some _ e;have hne:s.heap.objs.size≠m:=by
  obtain⟨o,_,_,ho,_⟩:=hm;exact Nat.ne_of_gt (Heap.lt_size ho)
 unfold mergedKeywords;refine e1k (wpAny_alloc ?_);refine e1k (e1s ?_);refine e1k ?_;rw[List.forIn_cons];refine e1k ?_;refine e1k (e1o ?_);refine e1k (hx _ ?_);refine e1k (wpAny_onRaise (e1s (wpAny_tryCatch (wpAny_onRaise (c5a hd hm1 hne hsys hkl fun h' hd' hs'=>?_)))));refine e1o ?_;show e1p _ _ (forIn ([]:List (Option Str×Sem e1n)) ([]:List (Str×Sem e1n)) _) _ _ _;rw[List.forIn_nil];refine e1o (e1o (e1o ?_));exact hQ h' hd' fun b o e=>hs'.extBut b o (Nat.ne_of_lt (Heap.lt_size e)) (Heap.get?_push_of_some _ e)
theorem c2m{K:Type}[DecidableEq K]{knd:KeyKind prog w K}{e:DictEntry}{es:List DictEntry}{r:List (K×e1n)}(h:Pairs knd (e::es) r):∃kv r',r=kv::r'∧knd.is kv.1 e.key=true∧e.val=kv.2∧Pairs knd es r':=by
 cases h with
 |cons h1 h2 h3=>exact⟨_,_,rfl,h1,h2,h3⟩
theorem b4t{f:e1n}{d:Addr}{kw:List (Str×e1n)}{Q:List (Str×e1n)→e1m→Prop}(hd:s.heap.DictOf (e2a C.prog C.w) d kw)(hQ:Q kw s):e1p (model C.prog C.w) A (keywordsIn f d) Q E s:=by
 obtain⟨o,es,ep,ho,hc,hdd,hk,hp,hn⟩:=hd;unfold keywordsIn;refine e1k (wpAny_dictEntries ho hdd ?_);refine e1k (wpAny_forIn_array' _ (fun rest acc s'=>s'=s∧∃r,Pairs (e2a C.prog C.w) rest r∧acc++r=kw) _ (fun e rest acc s' hI=>?_) (fun acc s' hI=>?_) es [] ⟨rfl,kw,hp,rfl⟩)
 ·obtain⟨rfl,r,hr,hacc⟩:=hI
  obtain⟨kv,kvs,e1,h1,h2,h3⟩:=c2m hr;obtain⟨t,ht⟩:=Value.isStrOf_shape h1;simp only[ht];refine e1o ⟨rfl,kvs,h3,?_⟩;rw[←hacc,h2,e1]; simp
 ·obtain⟨rfl,r,hr,hacc⟩:=hI
  obtain rfl:=List.eq_nil_of_length_eq_zero hr.length.symm;rw[List.append_nil]at hacc;subst hacc;exact e1o hQ
end
end
section
def e0d (nm:Nat→Option Str) (Γ:Ctx):Spec:=fun hz ks us ow Q=>∃u0 f2 ws,us=u0 :: .fn f2::ws∧(nm f2).isSome=true∧ks.length=ws.length∧ks.Nodup∧(∀k∈ks,k ≠ "name_index" ∧ k ≠ "get_name")∧ks.length≤1000 ∧
 Γ f2 hz ks (u0::ws) ow fun v ow'=>∃d,v=.dat d∧(Q (.twin d) ow'∨Q (.dat (.tuple [d,d])) ow')
noncomputable def c6i (l:List Stmt):List Stmt:=[.If (.Compare (.Name "get_name" (xP (x1 (sV (sh l))))) [.IsNot] [.Constant .none (xK (xa0 (sV (sh l)))) (xP (xa0 (sV (sh l))))] (xP (sV (sh l)))) [.Assign [.Name "argval" (xP (sT (sh (sB (sh l)))))] (.Call (.Name "get_name" (xP (x1 (sV (sh (sB (sh l))))))) [.Name "name_index" (xP (xa0 (sV (sh (sB (sh l))))))] [⟨none,.Name "extrainfo" (xP (kV (xW (sV (sh (sB (sh l))))))),kP (xW (sV (sh (sB (sh l)))))⟩] (xP (sV (sh (sB (sh l)))))) (sP (sh (sB (sh l)))),
 .Return (some (.Tuple [.Name "argval" (xP (xa0 (sV (sh (sB (sh l)).tail)))),.Name "argval" (xP (xa1 (sV (sh (sB (sh l)).tail))))] (xK (sV (sh (sB (sh l)).tail))) (xP (sV (sh (sB (sh l)).tail))))) (sP (sh (sB (sh l)).tail))] (sE (sh l)) (sP (sh l))]
noncomputable def c9a(fd:FuncData):Bool:=
  fd.closure.isEmpty&&fd.scope.kind == .function && !fd.scope.isCoroutine && !fd.scope.isGenerator &&
  fd.globals==e1v&&fd.builtins==builtinsNs&&fd.scope.names.all (fun p=>p.2 != .cell&&p.2 != .free)&&e0k fd.params fd.defaults ["name_index", "get_name"] "extrainfo" &&
  ([("name_index" : Str), "get_name", "extrainfo", "argval"]).all (fun x=>fd.scope.names.lookup x==some .local)
inductive GniAt(C:Cfg)(f:Nat):Prop
 |mk:∀a o fd l,C.fnv f=.ref a→o.data=.func fd→(∀g,C.Amb g→g.get? a=some o∧g.CodeRec fd.code fd.qualname)→fd.body=.stmts (c6i l)→c9a fd=true→GniAt C f
section
variable {C:Cfg} {Γ:Ctx} {n:Nat} {k:Ck}
theorem b0h{E:e1n→e1m→Prop}{s:e1m}{pos np:Pos}{a m:Addr}{ni ex:Str}{np2 kp:Pos}{v0:e1n}{kw:List (Str×e1n)}{Q:e1n→e1m→Prop}(hd:o.data=.func fd)(ho:s.heap.get? a=some o)
 (hv:∀Qx:e1n→e1m→Prop,Qx v0 s→e1p (model C.prog C.w) A (eval (.Name ni np) env) Qx E s)
 (hm:s.heap.DictOf (e2a C.prog C.w) m kw) (hsys:(m==sysModules)=false) (hkl:kw.length≤1000)
 (hx:∀(s':e1m) (Qx:e1n→e1m→Prop),Sub s.heap s'.heap→Qx (.ref m) s'→e1p (model C.prog C.w) A (eval (.Name ex np2) env) Qx E s')
 (h:∀h' ,Sub s.heap h'→e1p (model C.prog C.w) A (call (.ref a) [v0] kw) Q E { s with heap:=h' }) :
  e1p (model C.prog C.w) A (callWith pos (.ref a) [] (e2e pos (e1z [.Name ni np] env)) (backToKw pos (keywordEach [⟨none,.Name ex np2,kp⟩] env))) Q E s:=by
 unfold callWith;refine e1k (e1s ?_);unfold evalArgs;refine e1k (m:=spliced (e2e pos (e1z [.Name ni np] env))) (spliced_more (hv _ (spliced_nil ?_)) rfl);refine e1k (e1o ?_);refine e1s ?_;refine e1k (m:=mergedKeywords (.ref a) [(none,do let v ←eval (.Name ex np2) env; standAt pos; pure v)]) (b9i hm hsys hkl (fun Qx hq=>e1k (hx _ _ (a0f _) (e1k (e1y (e1o hq))))) fun h' hd' hs'=>?_)
 refine e1k (e1o ?_);refine e1k (e1s (b4t (s:={ s with heap:=h' }) hd' ?_))
 refine e1o ?_;refine e1k (e1y ?_);refine e1k (m:=keeperOf (.ref a)) ?_;unfold keeperOf;refine e1k (wpAny_load (s:={ s with heap:=h' }) (hs' _ _ ho) ?_)
 rw[hd];refine e1o ?_;refine e1k (m:=callMarked starredCall (.ref a) ([]++[v0]) kw) ?_;unfold callMarked;exact Calls.wpAny_keep (e1w (h h' hs') (fun r s₂ hr=>e1k (e1s (wpAny_point (e1o hr)))) fun _ _ e=>e)
theorem d5s(P:GniAt C f)(Γok:a3q C Γ n)(Gd:Good C k):c3m C (e0d k.fname Γ) (n+1) f:=fun A g s al ow hz ps ks kvs us Eh Q Q' aok B fb hkl hiv hw kk=>by
 obtain⟨u0,f2,ws,rfl,hsome,hks,hknd,hkne,hklen,hw⟩:=hw;obtain⟨a,o,fd,lb,hfv,hfo,hg,hbody,hck⟩:=P;obtain⟨v0,v1,rfl⟩:∃v0 v1,ps=[v0,v1]:=by
  have h1:=hiv.len
  have:ps.length=2:=by simp at h1; exact d2y (.e N0 (.k 2)) (.e N1 N2) (.e N1 N3) (.e (.p N0 N2) (.p (.p N3 O1) O1)) hkl hks h1
  exact two this
 obtain⟨iv0,iv1,ivs⟩:=hiv;have iv1:v1=C.fnv f2:=iv1;obtain⟨nm2,hnm2⟩:=Option.isSome_iff_exists.mp hsome;obtain⟨a2,o2,fd2,ha2,hd2,hg2⟩:=Gd.fo f2 nm2 hnm2;rw[ha2]at iv1;subst iv1;unfold c9a at hck;unfold c6i at hbody;simp only[Bool.and_eq_true,beq_iff_eq,List.isEmpty_iff,Bool.not_eq_true',List.all_eq_true]at hck;obtain⟨⟨⟨⟨⟨⟨⟨⟨hclo,hkind⟩,hco⟩,hgen⟩,hglob⟩,hbuil⟩,hnames⟩,hkw⟩,hloc⟩:=hck;have lk:∀x∈([("name_index" : Str), "get_name", "extrainfo", "argval"]),fd.scope.names.lookup x=some .local:=fun x hx=>hloc x hx;have hnocell:∀p∈fd.scope.names,p.2 ≠ .cell:=fun p hp=>by have:=(hnames p hp).1; simpa using this
 obtain⟨ho,hcr⟩:=hg g B.amb;have T:=B.amb.T.keeps B.sub;rw[hfv];have hkl':(ks.zip kvs).length≤1000:=by rw[List.length_zip]; exact a1b (.l (.b 2 N0 N1) (.k 1000)) (.l N0 (.k 1000)) hklen
 have hzk:(ks.zip kvs).map (·.1)=ks:=a7p ks kvs hkl;refine wpAny_call (codeAny_call_function (by have:=aok.depth; exact a2c (.t N0 N1) (.l (.p N0 (.p N2 O1)) N1) this) (B.sub _ _ ho) hfo hco hgen hbody ?_ ?_)
 ·obtain⟨c,oc,fs,t,e1,e2,e3,e4⟩:=hcr; exact⟨c,oc,fs,t,e1,B.sub _ _ e2,e3,e4⟩
 refine d2b hkw (by decide) [v0,.ref a2] rfl (ks.zip kvs) (fun p hp hm=>?_) (by rw[hzk]; exact hknd) hkl' fun h1 tk1 sb1 hd1=>?_
 ·have hp1:p.1∈ks:=by rw[←hzk]; exact List.mem_map.mpr ⟨p,hp,rfl⟩
  obtain⟨n1,n2⟩:=hkne p.1 hp1;simp at hm;exact hm.elim n1 n2
 rw[hclo];refine wpAny_newFunctionEnv (s:={ s with heap:=h1,toks:=tk1 }) hnocell (fun x hx=>?_) (fun h2 hns hsb=>?_) hkind
 ·simp at hx
  rcases hx with rfl|rfl|rfl <;> exact lk _ (by simp)
 have hns:h2.Ns h1.objs.size fun x=>List.lookup x [(("extrainfo" : Str),Value.ref s.heap.objs.size),("get_name",.ref a2),("name_index",v0)]:=hns;have sb12:Sub h1 h2:=fun b o e=>hsb.extBut b o (Nat.ne_of_lt (Heap.lt_size e)) (Heap.get?_push_of_some _ e);have sb2:Sub s.heap h2:=sb1.trans sb12;refine⟨T.nolimit.keeps sb2,codeAny_func ?_⟩;generalize henv:newEnv fd.scope ({ s with heap:=h1,toks:=tk1 }:e1m).heap.objs.size fd.globals [] (fd.qualname++Str.ofString ".<locals>.") (some a) fd.code none fd.builtins=env
 have he1:env.scope=fd.scope:=henv▸rfl;have he2:env.locals=h1.objs.size:=henv▸rfl;have he4:env.frame=some h1.objs.size:=henv▸rfl;have hk:∀y,env.kindOf y=fd.scope.names.lookup y:=fun y=>by unfold Env.kindOf; rw[he1]
 have hfk:env.scope.kind=.function:=by rw[he1]; exact hkind
 have hsz1:@LE.le Nat _ s.heap.objs.size h1.objs.size:=by
  obtain⟨od,_,_,hod,_⟩:=hd1;exact Nat.le_of_lt (Heap.lt_size hod)
 have Lnew:s.heap.get? h1.objs.size=none:=a0s hsz1;have hd2':h2.DictOf (e2a C.prog C.w) s.heap.objs.size (ks.zip kvs):=hd1.at fun o e=>sb12 _ _ e;have hsys:(s.heap.objs.size==sysModules)=false:=by
  have:@LT.lt Nat _ sysModules s.heap.objs.size:=modules_low T.nolimit
  exact beq_false_of_ne (Nat.ne_of_gt this)
 have name:∀(x:Str) (v:e1n) {p:Pos} (s':e1m) (Qx:e1n→e1m→Prop) (E:e1n→e1m→Prop),x∈([("name_index" : Str), "get_name", "extrainfo", "argval"])→List.lookup x [(("extrainfo" : Str),Value.ref s.heap.objs.size),("get_name",.ref a2),("name_index",v0)]=some v→(x==("__debug__" : Str))=false→Sub h2 s'.heap→Qx v s'→
   e1p (model C.prog C.w) (A.deeper env) (eval (.Name x p) env) Qx E s':=fun x v {p} s' Qx E hx hl hdb hsub hq=>
  wpAny_Name (e2g hfk ((hk x).trans (lk x hx)) (by rw[he2]; exact hns.keeps hsub) hl hq) hdb
 refine e1t (wpAny_If (wpAny_isTrue_Compare1 (name "get_name" (.ref a2) _ _ _ (by simp) rfl (by decide) (by exact fun b o e=>e) (wpAny_Constant_none (wpAny_isNot_other rfl (by simp) ?_))) (by rfl)))
 refine a8n (g:=g) (b:=true) (RD.bool true) fun tk2=>?_;refine e1t (wpAny_Assign_Name ?_ (a4b rfl));refine wpAny_Call_ofName (name "get_name" (.ref a2) { s with heap:=h2,toks:=tk2 } _ _ (by simp) rfl (by decide) (by exact fun b o e=>e) ?_)
 have ho2:∀h',Sub s.heap h'→h'.get? a2=some o2:=fun h' hs=>hs _ _ (B.sub _ _ (hg2 g B.amb));refine b0h hd2 (ho2 _ sb2) (fun Qx hq=>name "name_index" v0 { s with heap:=h2,toks:=tk2 } Qx _ (by simp) rfl (by decide) (by exact fun b o e=>e) hq) hd2' hsys hkl' (fun s' Qx hsub hq=>name "extrainfo" _ s' Qx _ (by simp) rfl (by decide) hsub hq) fun h3 hs3=>?_
 have sb3:Sub s.heap h3:=sb2.trans hs3;have x3:Step [] s g { s with heap:=h3,toks:=tk2 } g:=Step.ext sb3
 have B3:BRel C g h3 al ow:=B.move x3 (B.sub.trans sb3) (by simp)
 have FB3:FrB C (A.deeper env) g h3 al:=by
  obtain⟨fs,f1,f2'⟩:=fb;refine⟨env::fs,by show A.frames.map _=_; rw[f1]; rfl,fun e he=>?_⟩
  rcases List.mem_cons.mp he with rfl|he
  ·obtain⟨o',es,ep,q1,q2,_⟩:=hns.keeps hs3
   refine⟨by rw[he1,hkind]; simp,h1.objs.size,he4,a2y B.sub Lnew,fun hm=>?_,fun hm=>?_,o',es,ep,q1,q2⟩
   ·obtain⟨j,hj,e'⟩:=List.getElem_of_mem hm
    obtain⟨a',ha',q⟩:=B.own j _ (List.getElem?_eq_getElem (by rw[←B.olen]; exact hj))
    rw[List.getElem?_eq_getElem hj,e']at ha';cases ha';obtain⟨ob,hob⟩:=q.alive B.sub;rw[Lnew]at hob; cases hob
   ·obtain⟨_,o'',ho'',_⟩:=B.tabs _ hm
    rw[Lnew]at ho''; cases ho''
  ·obtain⟨k1,L,k2,k3,k4,k5,o',es,ep,k6,k7⟩:=f2' e he
   exact⟨k1,L,k2,k3,k4,k5,o',es,ep,sb3 _ _ k6,k7⟩
 have Lout:h1.objs.size∉al∧h1.objs.size∉C.TA:=by
  obtain⟨fs',e1,hfr⟩:=FB3;obtain⟨fs,f1,_⟩:=fb;have e1:A.frames.map (env :: ·)=some fs':=e1;rw[f1]at e1; cases e1;obtain⟨_,L,q1,_,q2,q3,_⟩:=hfr env (.head _);rw[he4]at q1; cases q1;exact⟨q2,q3⟩
 have aok2:AOK (A.deeper env) n hz g:=⟨by have:=aok.depth; show A.depth+1+n≤_; exact a2c (.l (.p (.p N0 O1) N1) N2) (.l (.p N0 (.p N1 O1)) N2) this,by have:=aok.units; show A.units+3+4*n+70<_; exact a2c (.t (.p (.p (.p N0 (.k 3)) (.m 0 4 N1)) (.k 70)) N2) (.t (.p (.p N0 (.m 0 4 (.p N1 O1))) (.k 70)) N2) this,aok.none,aok.handled⟩
 rw[show call (.ref a2) [v0] (ks.zip kvs)=call (C.fnv f2) [v0] (ks.zip kvs) from by rw[ha2]]
 refine Γok f2 (A.deeper env) g { s with heap:=h3,toks:=tk2 } al ow hz [v0] ks kvs (u0::ws) _ _ _ aok2 B3 FB3 hkl ⟨iv0,ivs⟩ hw fun v u ow' s4 g4 B4 x4 iv4 hq4=>?_
 ·obtain⟨d,rfl,hq4⟩:=hq4
  have Lg:g4.get? h1.objs.size=none:=by
   obtain⟨o',es,ep,q1,q2,_⟩:=hns.keeps hs3;exact x4.fresh _ o' (fun hm=>(List.mem_append.mp hm).elim Lout.1 Lout.2) q1 (a2y B.sub Lnew)
  have hn4:s4.heap.Ns env.locals (fun x=>List.lookup x [(("extrainfo" : Str),Value.ref s.heap.objs.size),("get_name",.ref a2),("name_index",v0)]):=by
   rw[he2];exact KeptIn.ns (hns.keeps hs3) fun o' e'=>x4.keep _ o' (fun hm=>(List.mem_append.mp hm).elim Lout.1 Lout.2) e'
  refine wpAny_storeName_local ((hk "argval").trans (lk "argval" (by simp))) hn4 (fun h5 hn5 hs5=>?_) (by rw[hfk]; rfl)
  rw[he2]at hs5;obtain⟨x5,sg5⟩:=Step.one (tk:=s4.toks+1) B4.sub Lg hs5;refine e1t (wpAny_Return_some (Tuple_ ?_));have ld:∀{p:Pos} {Qx:e1n→e1m→Prop} {E:e1n→e1m→Prop},Qx v { s4 with heap:=h5,toks:=s4.toks+1 }→e1p (model C.prog C.w) (A.deeper env) (eval (.Name "argval" p) env) Qx E { s4 with heap:=h5,toks:=s4.toks+1 }:=fun{p Qx E} hq=>
   wpAny_Name (e2g hfk ((hk "argval").trans (lk "argval" (by simp))) hn5 (by simp) hq) (by decide)
  refine spliced_more (ld (spliced_more (ld (spliced_nil ?_)) rfl)) rfl;refine wpAny_newTuple ?_;have hp:(h5.push { cls:=.type "tuple",data:=.seq #[v,v] }).get? h5.objs.size=some { cls:=.type "tuple",data:=.seq #[v,v] }:=Heap.get?_push_size _ rfl;obtain⟨g6,x6,x7,x8⟩:=Step.grow (s:={ s4 with heap:=h5,toks:=s4.toks+1 }) (tk:=s4.toks+1) sg5 (a0f { cls:=.type "tuple",data:=.seq #[v,v] }) (a0e h5) (fun o e hc=>by rw[hp]at e; cases e; simp at hc)
  have x56:Step [h1.objs.size] s4 g4 { s4 with heap:=h5.push { cls:=.type "tuple",data:=.seq #[v,v] },toks:=s4.toks+1 } g6:=x5.tr (x6.mono fun _ h=>nomatch h)
  have B6:BRel C g6 (h5.push { cls:=.type "tuple",data:=.seq #[v,v] }) al ow':=B4.move x56 x7 fun b hb=>by simp at hb; subst hb; exact Lout
  have step:Step (al++C.TA) s g { s4 with heap:=h5.push { cls:=.type "tuple",data:=.seq #[v,v] },toks:=s4.toks+1 } g6:=((x3.mono (W':=al++C.TA) fun _ h=>nomatch h).tr x4).trans x56 fun b hb=>by simp at hb; subst hb; exact .inr Lnew
  have rv:RD g6 v d:=RD.mono x56.sub iv4;have hT:g6.IsTuple h5.objs.size #[v,v]:=⟨_,x8.trans hp,rfl,0,rfl⟩
  rcases hq4 with hq|hq
  ·exact kk (.ref h5.objs.size) (.twin d) ow' _ g6 B6 step ⟨_,v,rfl,hT,rv⟩ hq
  ·exact kk (.ref h5.objs.size) (.dat (.tuple [d,d])) ow' _ g6 B6 step (RD.tuple (vs:=[v,v]) hT (.cons rv (.one rv))) hq
end
end
section
noncomputable def c3v(fd:FuncData)(ps ls:List Str):Bool:=
 fd.closure.isEmpty&&fd.scope.kind == .function && !fd.scope.isCoroutine && !fd.scope.isGenerator&&fd.globals==e1v&&fd.builtins==builtinsNs&&decide ((fd.scope.names.map (·.1)).Nodup)&&decide ((ps++ls).Nodup) &&
  (ps++ls).all (fun x=>fd.scope.names.lookup x==some .local||fd.scope.names.lookup x==some .cell)&&fd.scope.names.all (fun p=>p.2 != .free)&&a3y fd.params fd.defaults ps
theorem b8y{ps ls:List Str}(hb:fd.body=.stmts stmts)(h:c3v fd ps ls=true):FnOK fd ps ls stmts:=by
 have h11:=a0a h;have h10:=List.all_eq_true.mp (a0a (a0b h));have h9:=List.all_eq_true.mp (a0a (a0b (a0b h)));have h8:=of_decide_eq_true (a0a (a0b (a0b (a0b h))));exact{
     body:=hb,closure:=List.isEmpty_iff.mp (a0b (a0b (a0b (a0b (a0b (a0b (a0b (a0b (a0b (a0b h)))))))))),kind:=beq_iff_eq.mp (a0a (a0b (a0b (a0b (a0b (a0b (a0b (a0b (a0b (a0b h)))))))))),co:=b1t (a0a (a0b (a0b (a0b (a0b (a0b (a0b (a0b (a0b h))))))))),gen:=b1t (a0a (a0b (a0b (a0b (a0b (a0b (a0b (a0b h)))))))),globals:=beq_iff_eq.mp (a0a (a0b (a0b (a0b (a0b (a0b (a0b h))))))),builtins:=beq_iff_eq.mp (a0a (a0b (a0b (a0b (a0b (a0b h)))))),nodup:=of_decide_eq_true (a0a (a0b (a0b (a0b (a0b h))))),xnodup:=h8
     kinds:=fun x hx=>(Bool.or_eq_true_iff.mp (h9 x hx)).imp beq_iff_eq.mp beq_iff_eq.mp
     nofree:=fun p hp=>bne_iff_ne.mp (h10 p hp)
     bind:=fun vals hl=>a9m h11 (List.nodup_append.mp h8).1 vals hl
     bindK:=fun vals ks kvs=>a7f h11 (List.nodup_append.mp h8).1 vals ks kvs }
theorem nn{α:Type}{a:α}{P:Prop}(h:none=some a):P:=nomatch h
noncomputable def asR:e1n→Option Addr|.ref a=>some a|_=>none
noncomputable def asI:e1n→Option Int|.int i _=>some i|_=>none
noncomputable def asS:e1n→Option Str|.str s _=>some s|_=>none
noncomputable def asT:e1n→Option String|.type c=>some c|_=>none
noncomputable def asF:Data→Option FuncData|.func f=>some f|_=>none
noncomputable def asD:Data→Option (Array DictEntry)|.dict e _=>some e|_=>none
noncomputable def asB:FuncBody→Option (List Stmt)|.stmts l=>some l|_=>none
theorem c8c{a:Addr}(h:asR v=some a):v=.ref a:=by cases v <;> first|exact nn h|exact congrArg _ (Option.some.inj h)
theorem c8q{a:Int}(h:asI v=some a):∃t,v=.int a t:=by cases v <;> first|exact nn h|exact⟨_,congrArg (Value.int · _) (Option.some.inj h)⟩
theorem c8x{a:Str}(h:asS v=some a):∃t,v=.str a t:=by cases v <;> first|exact nn h|exact⟨_,congrArg (Value.str · _) (Option.some.inj h)⟩
theorem d4b{a:String}(h:asT v=some a):v=.type a:=by cases v <;> first|exact nn h|exact congrArg _ (Option.some.inj h)
theorem d5j{v:Data}{a:FuncData}(h:asF v=some a):v=.func a:=by cases v <;> first|exact nn h|exact congrArg _ (Option.some.inj h)
theorem d4u{v:Data}{a:Array DictEntry}(h:asD v=some a):∃n,v=.dict a n:=by cases v <;> first|exact nn h|exact⟨_,congrArg (Data.dict · _) (Option.some.inj h)⟩
theorem d6u{v:FuncBody}{a:List Stmt}(h:asB v=some a):v=.stmts a:=by cases v <;> first|exact nn h|exact congrArg _ (Option.some.inj h)
theorem d2x{α:Type}{o:Option α}{p:α→Bool}(h:o.any p=true):∃q,o=some q∧p q=true:=by
 cases o with
 |none=>cases h
 |some q=>exact⟨q,rfl,h⟩
theorem d1k{α:Type}{o:Option (Option α)}{v:α}(h:o.bind id=some v):o=some (some v):=by
 obtain⟨w,h1,h2⟩:=Option.bind_eq_some_iff.mp h;exact h1.trans (congrArg some h2)
noncomputable def d0c(K:Frag)(x:Str):Option (Addr×Obj×FuncData×List Stmt):=((nsIn K e1v x).bind id).bind fun v=>(asR v).bind fun a=>(K.lookup a).bind fun o=>(asF o.data).bind fun fd=>(asB fd.body).map fun l=>(a,o,fd,l)
theorem b1i{K:Frag}{a:Addr}{l:List Stmt}(h:d0c K x=some (a,o,fd,l)):nsIn K e1v x=some (some (.ref a))∧K.lookup a=some o∧o.data=.func fd∧fd.body=.stmts l:=by
 obtain⟨v,h0,h⟩:=Option.bind_eq_some_iff.mp h;obtain⟨a',h2,h⟩:=Option.bind_eq_some_iff.mp h;obtain⟨o',h3,h⟩:=Option.bind_eq_some_iff.mp h;obtain⟨fd',h4,h⟩:=Option.bind_eq_some_iff.mp h;obtain⟨l',h5,h⟩:=Option.map_eq_some_iff.mp h;cases h;exact⟨(d1k h0).trans (congrArg (fun v=>some (some v)) (c8c h2)),h3,d5j h4,d6u h5⟩
noncomputable def a0k(K:Frag)(x:Str):List Stmt:=((d0c K x).map (·.2.2.2)).getD []
theorem b4h{K:Frag}{a:Addr}{l:List Stmt}(h:d0c K x=some (a,o,fd,l)):a0k K x=l:=congrArg (fun q=>(Option.map (fun r:Addr×Obj×FuncData×List Stmt=>r.2.2.2) q).getD []) h
noncomputable def a7o(K:Frag)(x:Str)(ps ls:List Str)(chk:FuncData→List Stmt→Bool):Bool:=(d0c K x).any fun q=>c3v q.2.2.1 ps ls&&codeIn K q.2.2.1.code q.2.2.1.qualname&&chk q.2.2.1 q.2.2.2
inductive TD(C:Cfg)(K:Frag)(f:Nat)(x:Str)(ps ls:List Str)(chk:FuncData→List Stmt→Bool):Prop
 |mk:∀a o fd stmts,C.mg x=some (.ref a)→C.fnv f=.ref a→o.data=.func fd→(∀g,C.Amb g→g.get? a=some o∧g.CodeRec fd.code fd.qualname)→FnOK fd ps ls stmts→chk fd stmts=true→a0k K x=stmts→TD C K f x ps ls chk
structure Tied(C:Cfg)(K:Frag)(names:List Str):Prop where
 ins:∀g,C.Amb g→K.In g
 mg:∀x v,nsIn K e1v x=some (some v)→C.mg x=some v
 mn:∀x,nsIn K e1v x=some none→C.mg x=none
 fnv:∀(f:Nat) x v,names[f]?=some x→nsIn K e1v x=some (some v)→C.fnv f=v
section
variable {C:Cfg} {K:Frag} {names:List Str} {k:Ck}
theorem Tied.def(T:Tied C K names){ps ls:List Str}{chk:FuncData→List Stmt→Bool}(hf:names[f]?=some x)(h:a7o K x ps ls chk=true) :
  TD C K f x ps ls chk:=by
 obtain⟨⟨a,o,fd,l⟩,e,h⟩:=d2x h;obtain⟨h1,h2,h3,h4⟩:=b1i e;exact⟨a,o,fd,l,T.mg _ _ h1,T.fnv f x _ hf h1,h3,fun g hg=>⟨T.ins g hg _ _ h2,codeRec_of (T.ins g hg) (a0a (a0b h))⟩,b8y h4 (a0b (a0b h)),a0a h,b4h e⟩
theorem Tied.defAt(T:Tied C K names){ps ls:List Str}{body:Ss}(hf:names[f]?=some x)(h:a7o K x ps ls (fun fd stmts=>b9p k hzf (a2m fd.scope.names (ps++ls)) body stmts)=true)(hr:a4q body (a0k K x)=a0k K x):DefAt C k f ps.length body hzf:=by
 obtain⟨a,o,fd,stmts,_,h2,h3,h4,h5,h6,h7⟩:=T.def hf h;exact⟨a,o,fd,ps,ls,stmts,h2,h3,h4,h5,rfl,stmts,h6,by rw[←h7]; exact hr⟩
noncomputable def e0n(K:Frag)(x:Str)(i:Int):Bool:=((nsIn K e1v x).bind id).any fun v=>decide (asI v=some i)
noncomputable def e0r(K:Frag)(x:Str)(i:Str):Bool:=((nsIn K e1v x).bind id).any fun v=>decide (asS v=some i)
noncomputable def d3j(K:Frag)(x:Str):Bool:=(nsIn K e1v x).any (·.isNone)
theorem Tied.good(T:Tied C K names)(hn:∀(f:Nat) x,k.fname f=some x→names[f]?=some x)(h1:(names.all fun x=>(d0c K x).isSome)=true)(h2:k.gi.all (fun p=>e0n K p.1 p.2)=true)(h3:k.gs.all (fun p=>e0r K p.1 p.2)=true)(h4:bnames.all (d3j K)=true)(h5:∀f,k.fcl f=false):Good C k where
 gi:=fun x i h=>by
  obtain⟨v,h0,e⟩:=d2x (List.all_eq_true.mp h2 _ (e1r h));obtain⟨t,rfl⟩:=c8q (of_decide_eq_true e);exact⟨t,T.mg _ _ (d1k h0)⟩
 gs:=fun x i h=>by
  obtain⟨v,h0,e⟩:=d2x (List.all_eq_true.mp h3 _ (e1r h));obtain⟨t,rfl⟩:=c8x (of_decide_eq_true e);exact⟨t,T.mg _ _ (d1k h0)⟩
 fn:=fun f x h=>by
  obtain⟨q,e⟩:=Option.isSome_iff_exists.mp (List.all_eq_true.mp h1 x (List.mem_of_getElem? (hn f x h)));have e:=(b1i e).1;exact(T.mg _ _ e).trans (congrArg some (T.fnv f x _ (hn f x h) e).symm)
 fo:=fun f x h=>by
  obtain⟨q,e⟩:=Option.isSome_iff_exists.mp (List.all_eq_true.mp h1 x (List.mem_of_getElem? (hn f x h)));have e:=b1i e;exact⟨_,_,_,T.fnv f x _ (hn f x h) e.1,e.2.2.1,fun g hg=>T.ins g hg _ _ e.2.1⟩
 bn:=fun x hx=>by
  obtain⟨v,h0,e⟩:=d2x (List.all_eq_true.mp h4 x hx);exact T.mn _ (h0.trans (congrArg some (Option.isNone_iff_eq_none.mp e)))
 fc:=fun f h=>by rw[h5 f]at h; cases h
end
end
section
open PySem
noncomputable def nF:Nat:=100
noncomputable def c3a:S:=.assignOwn 2 (.bin .mul (.list (.cons (.int 0) .nil)) (.bin .fdiv (.bin .sub (.bin .add (.me .bitlen (.var 0) .nil) (.var 1)) (.int 1)) (.var 1)))
noncomputable def a8g:Es:=.cons (.var 0) (.cons (.int 0) (.cons (.bi .len (.cons (.var 2) .nil)) .nil))
noncomputable def i2dLs:List Str:=["mid", "shift", "upper", "lower"]
noncomputable def a6g:Ss:=
 .cons (.ifs (.cmp .eq (.bin .add (.var 1) (.int 1)) (.var 2)) (.cons (.setIdx 7 (.var 1) (.var 0)) (.cons .retNone .nil)) .nil)
 (.cons (.assign 3 (.bin .shr (.bin .add (.var 1) (.var 2)) (.int 1)))
 (.cons (.assign 4 (.bin .mul (.bin .sub (.var 3) (.var 1)) (.var 8)))
 (.cons (.assign 5 (.bin .shr (.var 0) (.var 4)))
 (.cons (.assign 6 (.bin .bxor (.var 0) (.bin .shl (.var 5) (.var 4))))
 (.cons (.expr (.callV 9 nF (.cons (.var 6) (.cons (.var 1) (.cons (.var 3) .nil)))))
 (.cons (.expr (.callV 9 nF (.cons (.var 5) (.cons (.var 3) (.cons (.var 2) .nil))))) .nil))))))
noncomputable def a8h:Es:=.cons (.int 0) (.cons (.bi .len (.cons (.var 0) .nil)) .nil)
noncomputable def d2iLs:List Str:=["mid", "shift"]
noncomputable def a6e:Ss:=
 .cons (.ifs (.cmp .eq (.bin .add (.var 0) (.int 1)) (.var 1)) (.cons (.ret (.idx (.var 4) (.var 0))) .nil) .nil)
 (.cons (.assign 2 (.bin .shr (.bin .add (.var 0) (.var 1)) (.int 1)))
 (.cons (.assign 3 (.bin .mul (.bin .sub (.var 2) (.var 0)) (.var 5)))
 (.cons (.ret (.bin .add (.bin .shl (.callV 6 nF (.cons (.var 2) (.cons (.var 1) .nil))) (.var 3)) (.callV 6 nF (.cons (.var 0) (.cons (.var 2) .nil))))) .nil)))
end
section
structure Mk where
 c:Addr
 P:Addr
 pos:Pos
 qual:Str
noncomputable def c9h(K:Frag)(names:List Str)(f:Nat):e1n:=match names[f]? with
 |some x=>(match nsIn K e1v x with|some (some v)=>v|_=>.none)
 |none=>.none
noncomputable def mkC(prog:Program)(w:World)(K:Frag)(mg mb:Str→Option e1n)(p:Program)(loose:List Str)(names:List Str)(toks:List (e1l×e1l))(TL:List Mk)(bm:Addr)(ob:Obj):Cfg where
 prog:=prog
 w:=w
 KI:=fun g=>K.In g∧(∀t∈TL,CodeHd g t.c t.P)∧g.get? bm=some ob
 KM:=fun g g' s h=>⟨h.1.keeps s,fun t ht=>(h.2.1 t ht).keeps s,s _ _ h.2.2⟩
 base:=[]
 p:=p
 loose:=loose
 mg:=mg
 mb:=mb
 tabs:=TL.map fun t=>(t.c,t.P)
 fnv:=c9h K names
 toks:=toks
 tabOk:=fun g P o=>∃ps,o=tabObj ps∧(ps=#[]∨∃t∈TL,t.P=P∧∃c',ps=#[rawInt t.pos.line,rawInt t.pos.col,.ref c']∧g.CodeRec (.ref c') t.qual)
 tabMono:=fun g g' P o s=>Exists.imp fun _=>And.imp_right (Or.imp id (Exists.imp fun _=>And.imp_right (And.imp_right (Exists.imp fun _=>And.imp_right (a1j s)))))
section
variable {prog:Program} {w:World} {K:Frag} {mg mb:Str→Option e1n} {p:Program} {loose names:List Str} {toks:List (e1l×e1l)} {TL:List Mk} {bm:Addr} {ob:Obj}
theorem c5t:Tied (mkC prog w K mg mb p loose names toks TL bm ob) K names∨∀g,¬(mkC prog w K mg mb p loose names toks TL bm ob).Amb g:=by
 by_cases h:∃g,(mkC prog w K mg mb p loose names toks TL bm ob).Amb g
 ·obtain⟨g,hg⟩:=h
  have G:g.Ns e1v mg:=hg.T.g;have hf:∀(f:Nat) x v,names[f]?=some x→nsIn K e1v x=some (some v)→c9h K names f=v:=fun f x v e1 e2=>by
   unfold c9h;rw[e1]; dsimp only; rw[e2]
  exact .inl ⟨fun g hg=>hg.K.1,fun x v e=>mg_of hg.K.1 G e,fun x e=>ns_none_of hg.K.1 G e,hf⟩
 ·exact .inr fun g hg=>h ⟨g,hg⟩
theorem b6k {t:Mk} (ht:t∈TL) (hu:∀t'∈TL,t'.P=t.P→t'=t) (hb:mg "__builtins__" = some (.ref bm)) (b2:bm≠builtinsNs) (b3:ob.cls=.type "module") (b4:ob.dict=some builtinsNs) (b5:ob.data=.plain) :
  NestAt (mkC prog w K mg mb p loose names toks TL bm ob) t.c t.P t.pos t.qual where
 hd:=fun g hg=>hg.K.2.1 t ht
 mem:=List.mem_map.mpr ⟨(t.c,t.P),List.mem_map.mpr ⟨t,ht,rfl⟩,rfl⟩
 out:=fun g o=>Exists.imp fun _=>And.imp_right (Or.imp id fun h=>h.elim fun t' h=>hu t' h.1 h.2.1▸h.2.2)
 put:=fun g c' hc=>⟨_,rfl,.inr ⟨t,ht,rfl,c',rfl,hc⟩⟩
 bm:=⟨bm,ob,hb,b2,b3,b4,b5,fun g hg=>hg.K.2.2⟩
end
noncomputable def a5f(o:Obj):Bool:=match o.data with
 |.seq _ _=>!(o.cls == .type "list")||o.dict.isNone
 |_=>true
noncomputable def a9b(K:Frag):Bool:=K.all fun p=>a5f p.2
theorem a5k(h:∀vs n,o.data ≠ .seq vs n):a5f o=true:=by
 unfold a5f;cases e:o.data with
 |seq vs n=>exact absurd e (h vs n)
 |_=>rfl
noncomputable def b5t(h:Heap)(b:Addr):Bool:=match h.get? b with
 |some o=>a5f o
 |none=>false
theorem b0e{b:Addr}(e:h.get? b=some o):b5t h b=a5f o:=by unfold b5t; rw[e]
theorem d2j{tabs:List (Addr×Addr)}(hT:TabsAt tabs h):∃g:Heap,Sub g h∧ND g∧(∀P∈tabs.map (·.2),g.get? P=none)∧(∀b o,h.get? b=some o→o≠tabObj #[]→a5f o=true→g.get? b=some o) ∧
  (∀b o,h.get? b=some o→g.get? b=some o∨o=tabObj #[]∧b∈tabs.map (·.2)∨(∃vs n,o.data=.seq vs n)):=by
 obtain⟨g,_,e⟩:=a6v (ghostOf h tabs) (b5t h);have sub:Sub g h:=fun b o he=>by
  rw[e b]at he
  split at he
  ·exact of_hideAll _ he
  ·cases he
 have get:∀b o,h.get? b=some o→b∉tabs.map (·.2)→a5f o=true→g.get? b=some o:=fun b o he hb hp=>by
  rw[e b,b0e he,hp,if_pos rfl];exact ghost_ne he hb
 refine⟨g,sub,fun a o he hc ⟨vs,n,hd⟩=>?_,fun P hP=>?_,fun b o he hn hp=>get b o he (fun hm=>?_) hp,fun b o he=>?_⟩
 ·have he':=sub _ _ he
  rw[e a,b0e he']at he
  split at he
  ·rename_i hp
   unfold a5f at hp;rw[hd]at hp;simpa[hc]using hp
  ·cases he
 ·rw[e P]
  split
  ·exact hideAll_none _ hP
  ·rfl
 ·obtain⟨r,hr,e2⟩:=List.mem_map.mp hm
  have e3:=(hT r hr).2;rw[e2,he]at e3;exact hn (Option.some.inj e3)
 ·by_cases hb:b∈tabs.map (·.2)
  ·obtain⟨r,hr,e2⟩:=List.mem_map.mp hb
   have e3:=(hT r hr).2;rw[e2,he]at e3;exact .inr (.inl ⟨Option.some.inj e3,hb⟩)
  ·by_cases hp:a5f o=true
   ·exact .inl (get b o he hb hp)
   ·refine .inr (.inr ?_)
    apply Classical.byContradiction;intro hq;exact hp (a5k fun vs n q=>hq ⟨vs,n,q⟩)
theorem c2h{g:Heap}:∀{vs:List e1n} {is:List Int},IntsAre vs is→RDs g vs (is.map .int)
 |_,_,.nil=>.nil
 |_,_,.cons _ _ t=>.cons (RD.int _ _) (c2h t)
section
variable {prog:Program} {w:World} {K:Frag} {mg mb:Str→Option e1n} {p:Program} {loose names:List Str} {toks:List (e1l×e1l)} {TL:List Mk} {mean:ExcName→Option e1n}
theorem c5n{s:e1m}{a:Addr}{is:List Int}(KX:K.In s.heap)(h1:noTabs K=true)(h2:a9b K=true)(hT:TabsAt (TL.map fun t=>(t.c,t.P)) s.heap)(T:Top p loose mean mg mb s.heap)
 (hw:s.heap.get? a=some { cls:=.type "list",data:=.seq vs.toArray }) (hI:IntsAre vs is) :
  ∃bm ob,mg "__builtins__" = some (.ref bm)∧bm≠builtinsNs∧ob.cls=.type "module" ∧ ob.dict=some builtinsNs∧ob.data=.plain ∧
   ∃g,BRel (mkC prog w K mg mb p loose names toks TL bm ob) g s.heap [] []∧RD g (.ref a) (.list (is.map .int)) ∧
    ∀s' g',BRel (mkC prog w K mg mb p loose names toks TL bm ob) g' s'.heap [] []→Step (mkC prog w K mg mb p loose names toks TL bm ob).TA s g s' g'→OldK s.heap s'.heap:=by
 obtain⟨bm,ob,b1,b2,b3,b4,b5,b6⟩:=T.bmain;obtain⟨g,sub,nd,gn,get,alt⟩:=d2j hT;have notab:∀o:Obj,(∀vs,o.data ≠ .fields vs)→o≠tabObj #[]:=fun o h q=>by subst q; exact h _ rfl
 have ns:∀{N:Addr} {m:Str→Option e1n},s.heap.Ns N m→g.Ns N m:=Exists.imp fun o=>Exists.imp fun es=>Exists.imp fun ep h=>
  ⟨get _ _ h.1 (notab _ fun vs q=>by rw[h.2.1]at q; cases q) (a5k fun vs n q=>by rw[h.2.1]at q; cases q),h.2⟩
 have TR:TopRead p loose mg mb g:=by
  have T0:=topRead_of T;exact⟨ns T0.g,ns T0.b,(T0.nolimit.imp fun _=>And.imp_left ns),T0.builtins,T0.free⟩
 have KG:K.In g:=fun b o e=>by
  have hm:=mem_of_lookupK e;refine get b o (KX _ _ e) (fun q=>?_) (List.all_eq_true.mp h2 _ hm);have h3:=List.all_eq_true.mp h1 _ hm;subst q;exact absurd (show false=true from h3) Bool.false_ne_true
 have TT:(mkC prog w K mg mb p loose names toks TL bm ob).TA=TL.map fun t=>t.P:=by
  show((TL.map fun t=>(t.c,t.P)).map (·.2))=_;rw[List.map_map]; rfl
 have B:BRel (mkC prog w K mg mb p loose names toks TL bm ob) g s.heap [] []:={
  sub:=sub
  amb:=⟨⟨KG,fun t ht=>by
   obtain⟨⟨o,vs',file,tf,flags,tg,inF,text,tt,e1,e2,e3,r⟩,_⟩:=hT (t.c,t.P) (List.mem_map.mpr ⟨t,ht,rfl⟩);exact⟨o,vs',file,tf,flags,tg,inF,text,tt,get _ _ e1 (fun q=>by rw[q]at e2; cases e2) (a5k fun vs n q=>by rw[e3]at q; cases q),e2,e3,r⟩,
   get _ _ b3 (fun q=>by rw[q]at b4; cases b4) (a5k fun vs n q=>by rw[b6]at q; cases q)⟩,TR⟩
  nd:=nd
  tabs:=fun P hP=>by
   obtain⟨q,hq,rfl⟩:=List.mem_map.mp hP;have hq:q∈TL.map fun t=>(t.c,t.P):=hq;exact⟨gn _ (List.mem_map.mpr ⟨q,hq,rfl⟩),tabObj #[],(hT q hq).2,(by intro es ep h; cases h),#[],rfl,.inl rfl⟩
  olen:=rfl
  own:=fun k o e=>by simp at e
  alnd:=List.nodup_nil
  ata:=fun b hb=>nomatch hb
  base:=List.prefix_refl _ }
 have ha:=get _ _ hw (fun q=>by have:=congrArg Obj.data q; cases this) (by rfl)
 refine⟨bm,ob,b1,b2,b4,b5,b6,g,B,RD.list ⟨_,ha,rfl,0,rfl⟩ (c2h hI),fun s' g' B' x=>⟨fun b o e=>?_,fun b o e=>?_⟩⟩
 ·rcases alt b o e with hb|⟨rfl,hb⟩|⟨vs',n,hd⟩
  ·exact .inl (B'.sub _ _ (x.sub _ _ hb))
  ·obtain⟨q,hq,rfl⟩:=List.mem_map.mp hb
   obtain⟨_,o',ho',_,ps,rfl,_⟩:=B'.tabs q.2 (List.mem_map.mpr ⟨q,hq,rfl⟩);exact .inr (.inl ⟨((hT q hq).1.tab (hT q hq).2).isCodeTable,rfl,#[],ps,rfl,by simpa using ho'⟩)
  ·by_cases hb:b∈(mkC prog w K mg mb p loose names toks TL bm ob).TA
   ·obtain⟨q,hq,rfl⟩:=List.mem_map.mp hb
    have:=(hT q hq).2
    rw[e]at this; cases this; cases hd
   ·exact .inl ((x.keep b o hb e).exact fun es ep q=>by rw[hd]at q; cases q)
 ·by_cases hb:b∈(mkC prog w K mg mb p loose names toks TL bm ob).TA
  ·obtain⟨_,o',ho',_⟩:=B'.tabs b hb; exact⟨o',ho'⟩
  ·exact(x.keep b o hb e).alive
end
end
section
noncomputable def e0i (l:List Stmt):List Stmt:=.Assign [.Name "b" (xP (sT (sh l)))] (.Call (.Name "next" (xP (x1 (sV (sh l))))) [.Name "iterator" (xP (xa0 (sV (sh l))))] [] (xP (sV (sh l)))) (sP (sh l))::l.tail
noncomputable def d6j (fd:FuncData) (_:List Stmt):Bool:=fd.scope.names.lookup ("next" : Str)==some .globalImplicit&&fd.scope.names.lookup ("iterator" : Str)==some .local
noncomputable def d9y (K:Frag):Bool:=(d0c K "_get_name_info").any fun q=>c9a q.2.2.1&&codeIn K q.2.2.1.code q.2.2.1.qualname
section
variable {C:Cfg} {K:Frag} {names:List Str} {k:Ck}
theorem Tied.pv (T:Tied C K names) (hf:names[f]?=some ("_parse_varint" : Str)) (h:a7o K "_parse_varint" ["iterator"] ls d6j=true) (hr:e0i (a0k K "_parse_varint")=a0k K "_parse_varint"):PvAt C k:=by
  obtain⟨a,o,fd,stmts,h1,h2,h3,h4,h5,h6,h7⟩:=T.def hf h;rw[←h7,←hr]at h5;exact⟨a,o,fd,_,_,_,_,_,_,ls,h1,h3,h4,h5,beq_iff_eq.mp (a0b h6),beq_iff_eq.mp (a0a h6)⟩
theorem Tied.gni (T:Tied C K names) (hf:names[f]?=some ("_get_name_info" : Str)) (h:d9y K=true) (hr:c6i (a0k K "_get_name_info")=a0k K "_get_name_info"):GniAt C f:=by
  obtain⟨⟨a,o,fd,l⟩,e,h⟩:=d2x h;obtain⟨h1,h2,h3,h4⟩:=b1i e;rw[←(show a0k K _=l from b4h e),←hr]at h4
  exact⟨a,_,fd,_,T.fnv f _ _ hf h1,h3,fun g hg=>⟨T.ins g hg _ _ h2,codeRec_of (T.ins g hg) (a0a h)⟩,h4,a0b h⟩
noncomputable def c4l(K:Frag)(d:Addr):List DictEntry:=((K.lookup d).bind fun o=>asD o.data).elim [] Array.toList
noncomputable def c8l (K:Frag) (d:Addr):Bool:=(K.lookup d).any fun o=>decide (asT o.cls=some "dict")&&o.dict.isNone&&o.slots.isEmpty&&(asD o.data).isSome
noncomputable def d2u(e:DictEntry):Option (Str×e1n×Int):=(asS e.key).bind fun x=>(asI e.val).map fun j=>(x,e.val,j)
noncomputable def b9s(es:List DictEntry):List (e1l×e1l):=es.filterMap fun e=>(d2u e).map fun q=>(.str q.1,.int q.2.2)
noncomputable def a2h(es:List DictEntry):List Str:=es.filterMap fun e=>(d2u e).map fun q=>q.1
noncomputable def d9l(es:List DictEntry):Bool:=es.all (fun e=>(d2u e).isSome)&&decide ((a2h es).Nodup)&&decide (es.length≤1000)
theorem b3h{e:DictEntry}{q:Str×e1n×Int}(h:d2u e=some q):(∃t,e.key=.str q.1 t)∧e.val=q.2.1∧∃t,q.2.1=.int q.2.2 t:=by
 obtain⟨x,h1,h⟩:=Option.bind_eq_some_iff.mp h;obtain⟨j,h2,h⟩:=Option.map_eq_some_iff.mp h;cases h;exact⟨c8x h1,rfl,c8q h2⟩
theorem b2e{prog:Program}{w:World}:∀(es:List DictEntry),(es.all fun e=>(d2u e).isSome)=true→
  ∃kvs:List (Str×e1n),Pairs (e2a prog w) es kvs∧kvs.map (·.1)=a2h es∧PyProof.V.FlatPairs PyData.str kvs (b9s es)∧∀p∈b9s es,∃x j,p=(PyData.str x,PyData.int j)
 |[]=>fun _=>⟨[],.nil,rfl,.nil,fun _ h=>nomatch h⟩
 |e::es=>fun h=>by
  simp only[List.all_cons,Bool.and_eq_true]at h;obtain⟨kvs,h1,h2,h3,h4⟩:=b2e (prog:=prog) (w:=w) es h.2;obtain⟨q,hq⟩:=Option.isSome_iff_exists.mp h.1;obtain⟨⟨t,e1⟩,e2,u,e3⟩:=b3h hq;refine⟨(q.1,q.2.1)::kvs,.cons (by rw[e1]; exact strKind_is prog w q.1 t) e2 h1,?_,?_,?_⟩
  ·have:a2h (e::es)=q.1::a2h es:=by simp[a2h,hq]
   rw[this,←h2]; rfl
  ·have:b9s (e::es)=(.str q.1,.int q.2.2)::b9s es:=by simp[b9s,hq]
   rw[this];exact .cons (by rw[e3]; exact fun h=>.int _ _) h3
  ·have:b9s (e::es)=(.str q.1,.int q.2.2)::b9s es:=by simp[b9s,hq]
   rw[this];intro p hp
   rcases List.mem_cons.mp hp with rfl|hp
   ·exact⟨_,_,rfl⟩
   ·exact h4 p hp
theorem Tied.tok (T:Tied C K names) {d:Addr} (h1:nsIn K e1v "EXACT_TOKEN_TYPES" = some (some (.ref d))) (h2:c8l K d=true) (h3:d9l (c4l K d)=true) (h4:(d==sysModules)=false)
 (h5:(c4l K d).map (·.hash)=(a2h (c4l K d)).map (PyData.keyHash C.w.params)) (h6:a3j (b9s (c4l K d))=C.toks):TokAt C:=by
  obtain⟨o,hl,h2⟩:=d2x h2;obtain⟨es,hs⟩:=Option.isSome_iff_exists.mp (a0a h2);obtain⟨n,hd⟩:=d4u hs;have hes:c4l K d=es.toList:=congrArg (fun o=>Option.elim o [] Array.toList) (((congrArg (fun o=>Option.bind o fun o:Obj=>asD o.data) hl)).trans hs);rw[hes]at h3 h5 h6;unfold d9l at h3;simp only[Bool.and_eq_true,decide_eq_true_eq]at h3;obtain⟨⟨a1,a2⟩,a3⟩:=h3;obtain⟨kvs,p1,p2,p3,p4⟩:=b2e (prog:=C.prog) (w:=C.w) es.toList a1;refine⟨d,b9s es.toList,T.mg _ _ h1,fun g hg=>⟨h4,kvs,⟨_,es,n,T.ins g hg _ _ hl,⟨d4b (of_decide_eq_true (a0b (a0b (a0b h2)))),Option.isNone_iff_eq_none.mp (a0a (a0b (a0b h2))),Array.isEmpty_iff.mp (a0a (a0b h2))⟩,hd,fun e he=>?_,p1,by rw[p2]; exact a2⟩,p3⟩,p4,?_,h6.symm⟩
  ·-- the hashes
   have key:∀(l:List DictEntry),(l.all fun e=>(d2u e).isSome)=true→l.map (·.hash)=(a2h l).map (PyData.keyHash C.w.params)→∀e∈l,∃k,(e2a C.prog C.w).is k e.key=true∧e.hash=(e2a C.prog C.w).hash k:=by
    intro l
    induction l with
    |nil=>intro _ _ e he; cases he
    |cons x r ih=>
     intro ha hh e he;simp only[List.all_cons,Bool.and_eq_true]at ha;obtain⟨q,hq⟩:=Option.isSome_iff_exists.mp ha.1;have ek:a2h (x::r)=q.1::a2h r:=by simp[a2h,hq]
     rw[ek,List.map_cons,List.map_cons,List.cons.injEq]at hh
     rcases List.mem_cons.mp he with rfl|he
     ·obtain⟨⟨t,e1⟩,_⟩:=b3h hq
      exact⟨q.1,by rw[e1]; exact strKind_is C.prog C.w q.1 t,hh.1⟩
     ·exact ih ha.2 hh.2 e he
   exact key es.toList a1 h5 e (by simpa using he)
  ·have:(b9s es.toList).length≤es.toList.length:=List.length_filterMap_le _ _
   omega
end
end
section
noncomputable def b0k(K:Frag)(x:Str):Addr:=(((nsIn K e1v x).bind id).bind asR).getD 0
noncomputable def b7e(k:Ck)(hzf:Bool)(xs:List Str)(b:Ss)(fd:FuncData)(stmts:List Stmt):Bool:=b9p k hzf (a2m fd.scope.names xs) b stmts
noncomputable def c5g (t:Mk) (fd:FuncData):Bool:=(asR fd.code==some t.c)&&fd.scope.names.lookup ("inner" : Str)==some .cell&&fd.qualname ++ ".<locals>." ++ "inner" == t.qual
noncomputable def c8u(k:Ck)(t:Mk)(fd:FuncData)(stmts:List Stmt):Bool:=d4i k nF fd c3a a8g i2dLs a6g t.pos stmts&&c5g t fd
noncomputable def c7y(k:Ck)(t:Mk)(fd:FuncData)(stmts:List Stmt):Bool:=d6s k nF fd a8h d2iLs a6e t.pos stmts&&c5g t fd
theorem b6v {t:Mk} (h:c5g t fd=true):fd.code=.ref t.c∧∀L a,qualnameIn (e1q fd L a) "inner" "inner" = t.qual:=by
 unfold c5g at h;simp only[Bool.and_eq_true,beq_iff_eq]at h;obtain⟨⟨h1,h2⟩,h3⟩:=h;refine⟨?_,fun L a=>?_⟩
 ·exact c8c h1
 ·have hk:(e1q fd L a).kindOf ("inner" : Str)=some .cell:=h2
  unfold qualnameIn;rw[hk,if_neg (by decide)]
  exact h3
def e0s(tk:List (e1l×e1l))(n:Nat)(Γ:Ctx):Spec:=fun hz ks us ow Q=>hz=true∧d6y (e0a Γ tk nF i2dLs.length a6g n c3a a8g) 2 2 hz ks us ow Q
def e0p(tk:List (e1l×e1l))(n:Nat)(Γ:Ctx):Spec:=fun hz ks us ow Q=>hz=true∧d6y (d9z Γ tk nF d2iLs.length a6e n a8h) 2 1 hz ks us ow Q
def kwS(tk:List (e1l×e1l))(ps:List Str)(nl:Nat)(body:Ss)(hzf:Bool)(Γ:Ctx):Spec:=fun hz ks us ow Q=>(hzf=true→hz=true)∧ks=ps.drop (us.length-ks.length)∧fnW Γ tk ps.length nl body hz [] us ow Q
section
variable {C:Cfg} {K:Frag} {names:List Str} {k:Ck} {Γ:Ctx} {n:Nat}
theorem Tied.kw(T:Tied C K names)(Gd:Good C k)(Γok:a3q C Γ n)(X:Extra C Γ n k){ps ls:List Str}{body:Ss}(hf:names[f]?=some x)(h:a7o K x ps ls (fun fd stmts=>b9p k hzf (a2m fd.scope.names (ps++ls)) body stmts)=true)(hr:a4q body (a0k K x)=a0k K x) :
  c3m C (kwS C.toks ps nl body hzf Γ) (n+1) f:=by
 obtain⟨a,o,fd,stmts,_,h2,h3,h4,h5,h6,h7⟩:=T.def hf h;intro A g s al ow hz ps' ks kvs us Eh Q Q' aok B fb hl iv hw kk;have hI:d0r k hzf (a2m fd.scope.names (ps++ls)) body stmts:=⟨stmts,h6,by rw[←h7]; exact hr⟩
 have hS:=b4l Gd Γok X (b1f h5) hI;have hks:ks=ps.drop ps'.length:=by
  have h1:=iv.len;rw[List.length_append]at h1;have h2:=hw.2.1;rwa[show us.length-ks.length=ps'.length from by exact b2a (.e (.s N0 N1) N2) (.e N1 N3) (.e (.p N2 N3) N0) hl h1]at h2
 exact b3x h2 h3 h4 h5 (W:=fun st Q=>a1f Γ C.toks body st Q) (fun A env g s al st Eh Q Q' _ H hw kk=>hS A env g s al st Eh Q Q' H hw fun fl f al' g' s' st' a' hf hq=>kk fl f al' g' s' st' a'.pre a'.here.rel.b a'.step hf hq)
  A g s al ow hz ps' ks kvs us Eh Q Q' hw.1 aok B fb hl iv hks ⟨rfl,hw.2.2.2.1,hw.2.2.2.2⟩ kk
theorem Tied.i2d (T:Tied C K names) (Gd:Good C k) (Γok:a3q C Γ n) (X:Extra C Γ n k) (PV:PvAt C k) (TK:TokAt C) {t:Mk} (N:NestAt C t.c t.P t.pos t.qual) (hf:names[f]?=some ("_int2digits" : Str)) (h:a7o K "_int2digits" ["a", "n"] ["a_digits", "inner"] (c8u k t)=true) (hr:c6z c3a a8g a6g (a0k K "_int2digits")=a0k K "_int2digits") :
  c3m C (e0s C.toks n Γ) (n+1) f:=by
 obtain⟨a,o,fd,stmts,h1,h2,h3,h4,h5,h6,h7⟩:=T.def hf h;obtain⟨hc,hq⟩:=b6v (a0a h6);have hS:=c0z rfl Gd Γok X PV TK N h5 hc hq (a0b h6);rw[←h7,hr,h7]at hS;exact fun A g s al ow hz ps ks kvs us Eh Q Q' aok B fb hl iv hw kk=>a7x (nl:=2) h2 h3 h4 h5 hS A g s al ow hz ps ks kvs us Eh Q Q' (fun _=>hw.1) aok B fb hl iv hw.2 kk
theorem Tied.d2i (T:Tied C K names) (Gd:Good C k) (Γok:a3q C Γ n) (PV:PvAt C k) (TK:TokAt C) {t:Mk} (N:NestAt C t.c t.P t.pos t.qual) (hf:names[f]?=some ("_digits2int" : Str)) (h:a7o K "_digits2int" ["digits", "n"] ["inner"] (c7y k t)=true) (hr:c7l a8h a6e (a0k K "_digits2int")=a0k K "_digits2int") :
  c3m C (e0p C.toks n Γ) (n+1) f:=by
 obtain⟨a,o,fd,stmts,h1,h2,h3,h4,h5,h6,h7⟩:=T.def hf h;obtain⟨hc,hq⟩:=b6v (a0a h6);have hS:=c0q rfl Gd Γok PV TK N h5 hc hq (a0b h6);rw[←h7,hr,h7]at hS;exact fun A g s al ow hz ps ks kvs us Eh Q Q' aok B fb hl iv hw kk=>a7x (nl:=1) h2 h3 h4 h5 hS A g s al ow hz ps ks kvs us Eh Q Q' (fun _=>hw.1) aok B fb hl iv hw.2 kk
end
end
section
set_option maxRecDepth 100000
namespace L2
open PySem
noncomputable def fns:List Str:=["_ellipsis_match", "_div2n1n", "_div3n2n", "_int2digits", "_digits2int", "_divmod_pos", "int_divmod", "_get_name_info", "_parse_varint", "ISNONTERMINAL", "ISEOF", "_law_fits", "_law_shape", "_law_true", "_law_turns", "_law_ask", "_law_read", "law"]
noncomputable def ellipsis_match_ps:List Str:=["want", "got"]
noncomputable def ellipsis_match_ls:List Str:=["ws", "startpos", "endpos", "w"]
noncomputable def ellipsis_match_nl:Nat:=4
noncomputable def ellipsis_match:Ss:=(.cons (.ifs (.cmp .notin (.gstr "ELLIPSIS_MARKER" "...") (.var 0)) (.cons (.ret (.cmp .eq (.var 0) (.var 1)))
 .nil) .nil)
 (.cons (.assignOwn 2 (.me .split (.var 0) (.cons (.gstr "ELLIPSIS_MARKER" "...") .nil)))
 (.cons (.assert (.cmp .ge (.bi .len (.cons (.var 2) .nil)) (.int 2)))
 (.cons (.assignTup [3,4] (.tup (.cons (.int 0) (.cons (.bi .len (.cons (.var 1) .nil)) .nil))))
 (.cons (.assign 5 (.idx (.var 2) (.int 0)))
 (.cons (.ifs (.var 5) (.cons (.ifs (.me .starts (.var 1) (.cons (.var 5) .nil)) (.cons (.assign 3 (.bi .len (.cons (.var 5) .nil)))
 (.cons (.delIdx 2 (0))
 .nil)) (.cons (.ret (.bool false))
 .nil))
 .nil) .nil)
 (.cons (.assign 5 (.idx (.var 2) (.neg (.int 1))))
 (.cons (.ifs (.var 5) (.cons (.ifs (.me .ends (.var 1) (.cons (.var 5) .nil)) (.cons (.aug 4 .sub (.bi .len (.cons (.var 5) .nil)))
 (.cons (.delIdx 2 (-1))
 .nil)) (.cons (.ret (.bool false))
 .nil))
 .nil) .nil)
 (.cons (.ifs (.cmp .gt (.var 3) (.var 4)) (.cons (.ret (.bool false))
 .nil) .nil)
 (.cons (.for (.one 5) (.over (.var 2)) (.cons (.assign 3 (.me .find (.var 1) (.cons (.var 5) (.cons (.var 3) (.cons (.var 4) .nil)))))
 (.cons (.ifs (.cmp .lt (.var 3) (.int 0)) (.cons (.ret (.bool false))
 .nil) .nil)
 (.cons (.aug 3 .add (.bi .len (.cons (.var 5) .nil)))
 .nil))))
 (.cons (.ret (.bool true))
 .nil)))))))))))
noncomputable def div2n1n_ps:List Str:=["a", "b", "n"]
noncomputable def div2n1n_ls:List Str:=["pad", "half_n", "mask", "b1", "b2", "q1", "r", "q2"]
noncomputable def div2n1n_nl:Nat:=8
noncomputable def div2n1n:Ss:=(.cons (.ifs (.cmp .le (.bin .sub (.me .bitlen (.var 0) .nil) (.var 2)) (.gint "_DIV_LIMIT" 4000)) (.cons (.ret (.bi .divmod (.cons (.var 0) (.cons (.var 1) .nil))))
 .nil) .nil)
 (.cons .stuck (.cons .stuck (.cons .stuck (.cons .stuck (.cons .stuck (.cons .stuck (.cons .stuck (.cons .stuck (.cons .stuck .nil))))))))))
noncomputable def divmod_pos_ps:List Str:=["a", "b"]
noncomputable def divmod_pos_ls:List Str:=["n", "a_digits", "r", "q_digits", "a_digit", "q_digit", "q"]
noncomputable def divmod_pos_nl:Nat:=7
noncomputable def divmod_pos:Ss:=(.cons (.assign 2 (.me .bitlen (.var 1) .nil))
 (.cons (.assign 3 (.call 3 (.cons (.var 0) (.cons (.var 2) .nil))))
 (.cons (.assign 4 (.int 0))
 (.cons (.assignOwn 5 (.list .nil))
 (.cons (.for (.one 6) (.rev (.var 3)) (.cons (.assignTup [7,4] (.call 1 (.cons (.bin .add (.bin .shl (.var 4) (.var 2)) (.var 6)) (.cons (.var 1) (.cons (.var 2) .nil)))))
 (.cons (.append 5 (.var 7))
 .nil)))
 (.cons (.reverse 5)
 (.cons (.assign 8 (.call 4 (.cons (.var 5) (.cons (.var 2) .nil))))
 (.cons (.ret (.tup (.cons (.var 8) (.cons (.var 4) .nil))))
 .nil))))))))
noncomputable def int_divmod_ps:List Str:=["a", "b"]
noncomputable def int_divmod_ls:List Str:=["q", "r"]
noncomputable def int_divmod_nl:Nat:=2
noncomputable def int_divmod:Ss:=(.cons (.ifs (.cmp .eq (.var 1) (.int 0)) (.cons .stuck
 .nil) (.cons (.ifs (.cmp .lt (.var 1) (.int 0)) (.cons (.assignTup [2,3] (.call 6 (.cons (.neg (.var 0)) (.cons (.neg (.var 1)) .nil))))
 (.cons (.ret (.tup (.cons (.var 2) (.cons (.neg (.var 3)) .nil))))
 .nil)) (.cons (.ifs (.cmp .lt (.var 0) (.int 0)) (.cons (.assignTup [2,3] (.call 6 (.cons (.inv (.var 0)) (.cons (.var 1) .nil))))
 (.cons (.ret (.tup (.cons (.inv (.var 2)) (.cons (.bin .add (.var 1) (.inv (.var 3))) .nil))))
 .nil)) (.cons (.ret (.call 5 (.cons (.var 0) (.cons (.var 1) .nil))))
 .nil))
 .nil))
 .nil))
 .nil)
noncomputable def parse_varint_ps:List Str:=["iterator"]
noncomputable def parse_varint_ls:List Str:=["b", "val"]
noncomputable def parse_varint_nl:Nat:=2
noncomputable def parse_varint:Ss:=(.cons (.assign 1 (.next 0))
 (.cons (.assign 2 (.bin .band (.var 1) (.int 63)))
 (.cons (.while (.bin .band (.var 1) (.int 64)) (.cons (.aug 2 .shl (.int 6))
 (.cons (.assign 1 (.next 0))
 (.cons (.aug 2 .bor (.bin .band (.var 1) (.int 63)))
 .nil))))
 (.cons (.ret (.var 2))
 .nil))))
noncomputable def ISNONTERMINAL_ps:List Str:=["x"]
noncomputable def ISNONTERMINAL_ls:List Str:=[]
noncomputable def ISNONTERMINAL_nl:Nat:=0
noncomputable def ISNONTERMINAL:Ss:=(.cons (.ret (.cmp .ge (.var 0) (.gint "NT_OFFSET" 256)))
 .nil)
noncomputable def ISEOF_ps:List Str:=["x"]
noncomputable def ISEOF_ls:List Str:=[]
noncomputable def ISEOF_nl:Nat:=0
noncomputable def ISEOF:Ss:=(.cons (.ret (.cmp .eq (.var 0) (.gint "ENDMARKER" 0)))
 .nil)
noncomputable def law_fits_ps:List Str:=["pieces", "text"]
noncomputable def law_fits_ls:List Str:=["ends", "piece", "least"]
noncomputable def law_fits_nl:Nat:=4
noncomputable def law_fits:Ss:=(.cons (.assign 2 (.ite (.cmp .eq (.sl (.var 1) .none (.some (.bi .len (.cons (.idx (.var 0) (.int 0)) .nil)))) (.idx (.var 0) (.int 0))) (.list (.cons (.bi .len (.cons (.idx (.var 0) (.int 0)) .nil)) .nil)) (.list .nil)))
 (.cons (.for (.one 3) (.over (.sl (.var 0) (.some (.int 1)) .none)) (.cons (.assign 4 (.bin .add (.bi .min (.cons (.bin .add (.var 2) (.list (.cons (.bin .add (.bi .len (.cons (.var 1) .nil)) (.int 1)) .nil))) .nil)) (.bi .len (.cons (.var 3) .nil))))
 (.cons (.assign 2 (.comp (.forIf (.one 5) (.range2 (.var 4) (.bin .add (.bi .len (.cons (.var 1) .nil)) (.int 1))) (.cmp .eq (.sl (.var 1) (.some (.bin .sub (.var 5) (.bi .len (.cons (.var 3) .nil)))) (.some (.var 5))) (.var 3)) (.elt (.var 5)))))
 .nil)))
 (.cons (.ret (.cmp .isin (.bi .len (.cons (.var 1) .nil)) (.var 2)))
 .nil)))
noncomputable def law_shape_ps:List Str:=["x"]
noncomputable def law_shape_ls:List Str:=["whole", "u", "k", "part"]
noncomputable def law_shape_nl:Nat:=4
noncomputable def law_shape:Ss:=(.cons (.assignTup [1,2] (.tup (.cons (.bin .mod (.var 0) (.int 3)) (.cons (.bin .fdiv (.var 0) (.int 3)) .nil))))
 (.cons (.for (.one 3) (.over (.tup (.cons (.int 1) (.cons (.int 2) .nil)))) (.cons (.assign 4 (.ite (.cmp .eq (.bin .mod (.var 2) (.int 2)) (.int 1)) (.list (.cons (.str "~") (.cons (.bin .mod (.bin .add (.var 0) (.var 3)) (.int 3)) .nil))) (.bin .mod (.bin .add (.var 0) (.var 3)) (.int 3))))
 (.cons (.assign 1 (.bin .add (.list (.cons (.idx (.tup (.cons (.str "&") (.cons (.str "|") .nil))) (.bin .mod (.bin .fdiv (.var 2) (.int 2)) (.int 2))) .nil)) (.ite (.cmp .eq (.bin .mod (.bin .fdiv (.var 2) (.int 4)) (.int 2)) (.int 0)) (.list (.cons (.var 1) (.cons (.var 4) .nil))) (.list (.cons (.var 4) (.cons (.var 1) .nil))))))
 (.cons (.assign 2 (.bin .fdiv (.var 2) (.int 8)))
 .nil))))
 (.cons (.ret (.ite (.cmp .eq (.bin .mod (.var 2) (.int 2)) (.int 1)) (.list (.cons (.str "~") (.cons (.var 1) .nil))) (.var 1)))
 .nil)))
noncomputable def law_true_ps:List Str:=["formula", "fits"]
noncomputable def law_true_ls:List Str:=["told"]
noncomputable def law_true_nl:Nat:=2
noncomputable def law_true:Ss:=(.cons (.ifs (.isint (.var 0)) (.cons (.ret (.idx (.var 1) (.var 0)))
 .nil) .nil)
 (.cons (.assign 2 (.comp (.for (.one 3) (.over (.sl (.var 0) (.some (.int 1)) .none)) (.elt (.call 13 (.cons (.var 3) (.cons (.var 1) .nil)))))))
 (.cons (.ret (.ite (.cmp .eq (.idx (.var 0) (.int 0)) (.str "~")) (.not (.idx (.var 2) (.int 0))) (.ite (.cmp .eq (.idx (.var 0) (.int 0)) (.str "&")) (.and (.idx (.var 2) (.int 0)) (.idx (.var 2) (.int 1))) (.or (.idx (.var 2) (.int 0)) (.idx (.var 2) (.int 1))))))
 .nil)))
noncomputable def law_turns_ps:List Str:=["formula", "ring", "back"]
noncomputable def law_turns_ls:List Str:=["a", "b", "c", "d", "e", "pair"]
noncomputable def law_turns_nl:Nat:=10
noncomputable def law_turns:Ss:=(.cons (.ifs (.isint (.var 0)) (.cons (.ret (.list (.cons (.list (.cons (.var 0) (.cons (.var 1) (.cons (.var 2) .nil)))) .nil)))
 .nil) .nil)
 (.cons (.ifs (.cmp .eq (.idx (.var 0) (.int 0)) (.str "~")) (.cons (.ret (.bin .add (.call 14 (.cons (.idx (.var 0) (.int 1)) (.cons (.var 1) (.cons (.not (.var 2)) .nil)))) (.list (.cons (.list (.cons (.int 3) (.cons (.var 1) (.cons (.var 2) .nil)))) .nil))))
 .nil) .nil)
 (.cons (.ifs (.cmp .eq (.idx (.var 0) (.int 0)) (.str "|")) (.cons (.ret (.call 14 (.cons (.list (.cons (.str "~") (.cons (.list (.cons (.str "&") (.cons (.list (.cons (.str "~") (.cons (.idx (.var 0) (.int 1)) .nil))) (.cons (.list (.cons (.str "~") (.cons (.idx (.var 0) (.int 2)) .nil))) .nil)))) .nil))) (.cons (.var 1) (.cons (.var 2) .nil)))))
 .nil) .nil)
 (.cons (.assignTup [3,4,5,6,7] (.var 1))
 (.cons (.assign 8 (.list (.cons (.list (.cons (.idx (.var 0) (.int 1)) (.cons (.list (.cons (.var 3) (.cons (.var 5) (.cons (.var 4) (.cons (.var 7) (.cons (.var 6) .nil)))))) .nil))) (.cons (.list (.cons (.idx (.var 0) (.int 2)) (.cons (.list (.cons (.var 3) (.cons (.var 4) (.cons (.var 6) (.cons (.var 7) (.cons (.var 5) .nil)))))) .nil))) .nil))))
 (.cons (.assign 8 (.ite (.var 2) (.list (.cons (.idx (.var 8) (.int 1)) (.cons (.idx (.var 8) (.int 0)) .nil))) (.var 8)))
 (.cons (.ret (.comp (.for (.one 9) (.over (.tup (.cons (.bool false) (.cons (.bool true) .nil)))) (.for (.tup [10,11]) (.over (.var 8)) (.for (.one 12) (.over (.call 14 (.cons (.var 10) (.cons (.var 11) (.cons (.var 9) .nil))))) (.elt (.var 12)))))))
 .nil)))))))
noncomputable def law_ask_ps:List Str:=["index", "patterns", "text", "asked"]
noncomputable def law_ask_ls:List Str:=[]
noncomputable def law_ask_nl:Nat:=0
noncomputable def law_ask:Ss:=(.cons (.append 3 (.var 0))
 (.cons (.ret (.call 0 (.cons (.idx (.var 1) (.var 0)) (.cons (.var 2) .nil))))
 .nil))
noncomputable def law_read_ps:List Str:=["tape", "patterns", "texts"]
noncomputable def law_read_ls:List Str:=["octets", "row", "parted", "moves", "turns", "asked", "report", "heads", "k", "behind", "head", "body", "number", "pair", "text", "told", "things", "index", "move"]
noncomputable def law_read_nl:Nat:=26
noncomputable def law_read:Ss:=(.cons (.multi (.iter 3 (.var 0) (.own 4 (.list .nil) (.own 5 (.list .nil) (.own 6 (.list .nil) (.own 7 (.list .nil) (.own 8 (.list .nil) (.own 9 (.list .nil) .nil))))))))
 (.cons (.while (.or (.cmp .eq (.var 4) (.list .nil)) (.not (.call 10 (.cons (.idx (.var 4) (.neg (.int 1))) .nil)))) (.cons (.append 4 (.call 8 (.cons (.var 3) .nil)))
 .nil))
 (.cons (.tryStop [4] 3 (.cons (.assign 10 (.comp (.forIf (.tup [22,23]) (.enum (.var 4)) (.call 9 (.cons (.var 23) .nil)) (.elt (.var 22)))))
 .nil))
 (.cons (.for (.tup [11,12]) (.zip (.var 10) (.bin .add (.sl (.var 10) (.some (.int 1)) .none) (.list (.cons (.bin .sub (.bi .len (.cons (.var 4) .nil)) (.int 1)) .nil)))) (.cons (.assignTup [13,14] (.tup (.cons (.bin .sub (.bin .sub (.idx (.var 4) (.var 11)) (.gint "NT_OFFSET" 256)) (.int 1)) (.cons (.sl (.var 4) (.some (.bin .add (.var 11) (.int 1))) (.some (.var 12))) .nil))))
 (.cons (.ifs (.cmp .ge (.var 13) (.int 0)) (.cons (.append 7 (.list (.cons (.bin .mod (.var 13) (.int 4)) (.cons (.bin .fdiv (.var 13) (.int 4)) .nil))))
 .nil) (.cons (.assign 15 (.call 4 (.cons (.comp (.for (.one 24) (.over (.sl (.var 14) (.some (.int 5)) .none)) (.elt (.bin .sub (.var 24) (.int 128))))) (.cons (.int 7) .nil))))
 (.cons (.for (.one 16) (.over (.list (.cons (.call 6 (.cons (.neg (.var 15)) (.cons (.int 5) .nil))) (.cons (.call 6 (.cons (.var 15) (.cons (.neg (.int 5)) .nil))) .nil)))) (.cons (.append 5 (.list (.cons (.var 16) (.cons (.cmp .is (.call 10 (.cons (.idx (.var 16) (.int 1)) .nil)) (.bool false)) .nil))))
 (.cons (.append 6 (.bin .add (.list (.cons (.int 0) .nil)) (.comp (.for (.one 25) (.over (.tup (.cons (.int 1) (.cons (.int 2) (.cons (.int 3) (.cons (.int 4) (.cons (.int 5) .nil))))))) (.elt (.idx (.var 14) (.bin .mod (.bin .add (.me .index (.var 14) (.cons (.var 25) .nil)) (.idx (.var 16) (.int 1))) (.int 5))))))))
 .nil)))
 .nil)))
 .nil)))
 (.cons (.for (.one 17) (.over (.var 2)) (.cons (.assign 18 (.comp (.for (.one 26) (.range (.int 4)) (.elt (.callKw 7 (.cons (.var 26) (.cons (.gfn 15) .nil)) ["patterns", "text", "asked"] (.cons (.var 1) (.cons (.var 17) (.cons (.var 8) .nil))))))))
 (.cons (.assign 19 (.list (.cons (.int 1) (.cons (.int 2) (.cons (.int 3) (.cons (.int 4) (.cons (.int 5) .nil)))))))
 (.cons (.for (.tup [20,21]) (.over (.var 7)) (.cons (.ifs (.idx (.idx (.var 18) (.var 20)) (.int 0)) (.cons (.assign 19 (.comp (.for (.one 27) (.over (.var 19)) (.elt (.idx (.idx (.var 6) (.var 21)) (.var 27))))))
 .nil) .nil)
 .nil))
 (.cons (.append 9 (.list (.cons (.var 17) (.cons (.comp (.for (.one 28) (.over (.var 18)) (.elt (.list (.cons (.cmp .is (.idx (.var 28) (.int 0)) (.bool true)) (.cons (.cmp .is (.idx (.var 28) (.int 0)) (.bool false)) (.cons (.cmp .is (.idx (.var 28) (.int 1)) (.idx (.var 28) (.int 0))) .nil))))))) (.cons (.var 19) .nil)))))
 .nil)))))
 (.cons (.ret (.list (.cons (.var 5) (.cons (.var 9) (.cons (.var 8) .nil)))))
 .nil))))))
noncomputable def law_ps:List Str:=["script"]
noncomputable def law_ls:List Str:=["numbers", "place", "x", "signs", "pool", "codes", "parts", "texts", "places", "ring", "formula", "turns", "rings", "index", "one", "back", "drawn", "tape", "octets", "due", "row", "text", "fits", "on", "names", "patterns", "report", "pairs"]
noncomputable def law_nl:Nat:=32
noncomputable def law:Ss:=(.cons (.assignOwn 1 (.list (.cons (.int 3) (.cons (.int 657) (.cons (.int 5848314) (.cons (.int 88) (.cons (.int 290) (.cons (.int 123456) (.cons (.int 7) .nil)))))))))
 (.cons (.for (.tup [2,3]) (.enum (.sl (.var 0) .none (.some (.int 60)))) (.cons (.augIdx 1 (.bin .mod (.var 2) (.int 7)) .add (.bin .mod (.var 3) (.bin .pow (.int 10) (.int 6))))
 .nil))
 (.cons (.assign 4 (.words "( ) [ ] : , ; + - * / | & < > = . % { } == != <= >= ~ ^ << >> ** += -= *= /= %= &= |= ^= <<= >>= **= // //= @ @= -> ... := !" (("(" : Str)::(")" : Str)::("[" : Str)::("]" : Str)::(":" : Str)::("," : Str)::(";" : Str)::("+" : Str)::("-" : Str)::("*" : Str)::("/" : Str)::("|" : Str)::("&" : Str)::("<" : Str)::(">" : Str)::("=" : Str)::("." : Str)::("%" : Str)::("{" : Str)::("}" : Str)::("==" : Str)::("!=" : Str)::("<=" : Str)::(">=" : Str)::("~" : Str)::("^" : Str)::("<<" : Str)::(">>" : Str)::("**" : Str)::("+=" : Str)::("-=" : Str)::("*=" : Str)::("/=" : Str)::("%=" : Str)::("&=" : Str)::("|=" : Str)::("^=" : Str)::("<<=" : Str)::(">>=" : Str)::("**=" : Str)::("//" : Str)::("//=" : Str)::("@" : Str)::("@=" : Str)::("->" : Str)::("..." : Str)::(":=" : Str)::("!" : Str)::[])))
 (.cons (.assignOwn 5 (.comp (.forIf (.one 29) (.range (.int 48)) (.cmp .notin (.idx (.var 4) (.var 29)) (.tup (.cons (.str ".") (.cons (.str "...") .nil)))) (.elt (.var 29)))))
 (.cons (.assign 6 (.list (.cons (.int 52) (.cons (.bin .add (.int 7) (.pop 5 (.bin .mod (.idx (.var 1) (.int 1)) (.int 46)))) (.cons (.bin .add (.int 7) (.pop 5 (.bin .mod (.bin .fdiv (.idx (.var 1) (.int 1)) (.int 46)) (.int 45)))) .nil)))))
 (.cons (.assign 7 (.bin .add (.comp (.for (.one 29) (.range (.int 3)) (.elt (.comp (.for (.one 30) (.range (.int 5)) (.elt (.idx (.var 6) (.bin .mod (.bin .fdiv (.idx (.var 1) (.int 2)) (.bin .pow (.int 3) (.bin .add (.bin .mul (.int 5) (.var 29)) (.var 30)))) (.int 3))))))))) (.list (.cons (.list (.cons (.int 52) .nil)) .nil))))
 (.cons (.assign 8 (.comp (.for (.one 29) (.range (.int 3)) (.elt (.comp (.for (.one 30) (.range (.bin .mod (.bin .fdiv (.idx (.var 1) (.int 3)) (.bin .pow (.int 5) (.var 29))) (.int 5))) (.elt (.idx (.var 6) (.bin .add (.int 1) (.bin .mod (.bin .fdiv (.bin .fdiv (.idx (.var 1) (.int 4)) (.bin .pow (.int 16) (.var 29))) (.bin .pow (.int 2) (.var 30))) (.int 2)))))))))))
 (.cons (.assignOwn 9 (.list (.cons (.int 2) (.cons (.int 3) (.cons (.int 4) (.cons (.int 5) .nil))))))
 (.cons (.assign 10 (.list (.cons (.int 1) (.cons (.pop 9 (.bin .mod (.idx (.var 1) (.int 6)) (.int 4))) (.cons (.pop 9 (.bin .mod (.bin .fdiv (.idx (.var 1) (.int 6)) (.int 4)) (.int 3))) (.cons (.pop 9 (.bin .mod (.bin .fdiv (.idx (.var 1) (.int 6)) (.int 12)) (.int 2))) (.cons (.pop0 9) .nil)))))))
 (.cons (.assign 11 (.call 12 (.cons (.idx (.var 1) (.int 0)) .nil)))
 (.cons (.assignTup [12,13] (.tup (.cons (.call 14 (.cons (.var 11) (.cons (.var 10) (.cons (.bool false) .nil)))) (.cons (.list .nil) .nil))))
 (.cons (.for (.tup [14,15,16]) (.over (.var 12)) (.cons (.assign 13 (.bin .add (.var 13) (.ite (.cmp .isin (.var 15) (.var 13)) (.list .nil) (.list (.cons (.var 15) .nil)))))
 .nil))
 (.cons (.assign 17 (.comp (.for (.one 29) (.range (.bi .len (.cons (.var 13) .nil))) (.elt (.bin .mod (.bin .add (.idx (.var 1) (.int 5)) (.bin .mul (.int 300008) (.var 29))) (.int 2000000))))))
 (.cons (.assign 17 (.comp (.for (.one 29) (.over (.var 17)) (.elt (.ite (.cmp .eq (.bin .mod (.var 29) (.int 5)) (.int 0)) (.bin .add (.var 29) (.int 1)) (.var 29))))))
 (.cons (.assign 18 (.comp (.for (.tup [29,30]) (.zip (.var 13) (.var 17)) (.for (.one 31) (.over (.bin .add (.bin .add (.list (.cons (.int 256) .nil)) (.comp (.for (.one 32) (.range (.int 5)) (.elt (.idx (.var 29) (.bin .mod (.bin .mul (.var 32) (.bin .pow (.bin .mod (.neg (.var 30)) (.int 5)) (.int 3))) (.int 5))))))) (.comp (.for (.one 32) (.range (.bin .fdiv (.bin .add (.me .bitlen (.var 30) .nil) (.int 6)) (.int 7))) (.elt (.bin .add (.int 128) (.bin .mod (.bin .fdiv (.var 30) (.bin .pow (.int 128) (.var 32))) (.int 128)))))))) (.elt (.var 31))))))
 (.cons (.assign 18 (.bin .add (.bin .add (.var 18) (.comp (.for (.tup [29,30,31]) (.over (.var 12)) (.elt (.bin .add (.bin .add (.bin .add (.int 257) (.var 29)) (.bin .mul (.int 8) (.me .index (.var 13) (.cons (.var 30) .nil)))) (.ite (.var 31) (.int 4) (.int 0))))))) (.list (.cons (.int 0) .nil))))
 (.cons (.assign 19 (.comp (.for (.one 29) (.over (.var 18)) (.for (.one 30) (.over (.ite (.cmp .gt (.var 29) (.int 63)) (.list (.cons (.bin .add (.int 64) (.bin .fdiv (.var 29) (.int 64))) (.cons (.bin .mod (.var 29) (.int 64)) .nil))) (.list (.cons (.var 29) .nil)))) (.elt (.var 30))))))
 (.cons (.assignOwn 20 (.list .nil))
 (.cons (.for (.one 21) (.over (.var 8)) (.cons (.assign 22 (.me .join (.str "") (.cons (.comp (.for (.one 29) (.over (.var 21)) (.elt (.idx (.var 4) (.bin .sub (.var 29) (.int 7)))))) .nil)))
 (.cons (.assign 23 (.comp (.for (.one 29) (.over (.var 7)) (.elt (.call 11 (.cons (.me .split (.me .join (.str "") (.cons (.comp (.for (.one 30) (.over (.var 29)) (.elt (.ite (.cmp .eq (.var 30) (.int 52)) (.str "\n") (.idx (.var 4) (.bin .sub (.var 30) (.int 7))))))) .nil)) (.cons (.str "\n") .nil)) (.cons (.var 22) .nil)))))))
 (.cons (.assign 24 (.ite (.call 13 (.cons (.var 11) (.cons (.var 23) .nil))) (.int 1) (.int 0)))
 (.cons (.append 20 (.list (.cons (.var 22) (.cons (.comp (.for (.one 29) (.over (.var 23)) (.elt (.list (.cons (.var 29) (.cons (.not (.var 29)) (.cons (.bool true) .nil))))))) (.cons (.comp (.for (.one 29) (.over (.tup (.cons (.int 1) (.cons (.int 2) (.cons (.int 3) (.cons (.int 4) (.cons (.int 5) .nil))))))) (.elt (.idx (.var 10) (.bin .mod (.bin .add (.me .index (.var 10) (.cons (.var 29) .nil)) (.var 24)) (.int 5)))))) .nil)))))
 .nil)))))
 (.cons (.toks 25)
 (.cons (.assignTup [26,8] (.comp (.for (.one 29) (.over (.tup (.cons (.var 7) (.cons (.var 8) .nil)))) (.elt (.comp (.for (.one 30) (.over (.var 29)) (.elt (.me .join (.str "") (.cons (.comp (.for (.one 31) (.over (.var 30)) (.elt (.idx (.var 25) (.var 31))))) .nil)))))))))
 (.cons (.assign 27 (.call 16 (.cons (.comp (.for (.tup [29,30]) (.enum (.var 19)) (.elt (.bin .add (.var 30) (.bin .mul (.int 128) (.cmp .eq (.bin .mod (.bin .add (.var 29) (.idx (.var 1) (.int 5))) (.int 3)) (.int 0))))))) (.cons (.var 26) (.cons (.var 8) .nil)))))
 (.cons (.assign 28 (.comp (.for (.one 29) (.over (.var 17)) (.for (.one 30) (.over (.list (.cons (.tup (.cons (.bin .fdiv (.neg (.var 29)) (.int 5)) (.cons (.bin .mod (.neg (.var 29)) (.int 5)) .nil))) (.cons (.tup (.cons (.bin .fdiv (.var 29) (.neg (.int 5))) (.cons (.bin .mod (.var 29) (.neg (.int 5))) .nil))) .nil)))) (.elt (.var 30))))))
 (.cons (.ret (.cmp .eq (.var 27) (.list (.cons (.comp (.for (.one 29) (.over (.var 28)) (.elt (.list (.cons (.var 29) (.cons (.bool true) .nil)))))) (.cons (.var 20) (.cons (.bin .mul (.list (.cons (.int 0) (.cons (.int 1) (.cons (.int 2) (.cons (.int 3) .nil))))) (.int 3)) .nil))))))
 .nil))))))))))))))))))))))))
end L2
end
section
set_option maxRecDepth 100000
noncomputable def kk2:Ck:=⟨fun f=>L2.fns[f]?,[("NT_OFFSET",256),("ENDMARKER",0),("_DIV_LIMIT",4000)],[("ELLIPSIS_MARKER", "...")],fun _=>false⟩
noncomputable def a0i:List (e1l×e1l):=[(.int 54,.str "!"),(.int 28,.str "!="),(.int 24,.str "%"),(.int 40,.str "%="),(.int 19,.str "&"),(.int 41,.str "&="),(.int 7,.str "("),(.int 8,.str ")"),(.int 16,.str "*"),(.int 35,.str "**"),(.int 46,.str "**="),(.int 38,.str "*="),(.int 14,.str "+"),(.int 36,.str "+="),(.int 12,.str ","),(.int 15,.str "-"),(.int 37,.str "-="),(.int 51,.str "->"),(.int 23,.str "."),(.int 52,.str "..."),(.int 17,.str "/"),(.int 47,.str "//"),(.int 48,.str "//="),(.int 39,.str "/="),(.int 11,.str ":"),(.int 53,.str ":="),(.int 13,.str ";"),(.int 20,.str "<"),(.int 33,.str "<<"),(.int 44,.str "<<="),(.int 29,.str "<="),(.int 22,.str "="),(.int 27,.str "=="),(.int 21,.str ">"),(.int 30,.str ">="),(.int 34,.str ">>"),(.int 45,.str ">>="),(.int 49,.str "@"),(.int 50,.str "@="),(.int 9,.str "["),(.int 10,.str "]"),(.int 32,.str "^"),(.int 43,.str "^="),(.int 25,.str "{"),(.int 18,.str "|"),(.int 42,.str "|="),(.int 26,.str "}"),(.int 31,.str "~")]
noncomputable def d5l:Nat→Option Def
 |0=>some (.ir L2.ellipsis_match_ps.length L2.ellipsis_match_nl L2.ellipsis_match true)
 |1=>some (.ir L2.div2n1n_ps.length L2.div2n1n_nl L2.div2n1n true)
 |2=>none
 |3=>some (.spec (e0s a0i))
 |4=>some (.spec (e0p a0i))
 |5=>some (.ir L2.divmod_pos_ps.length L2.divmod_pos_nl L2.divmod_pos true)
 |6=>some (.ir L2.int_divmod_ps.length L2.int_divmod_nl L2.int_divmod true)
 |7=>some (.spec fun _ Γ=>e0d kk2.fname Γ)
 |8=>some (.ir L2.parse_varint_ps.length L2.parse_varint_nl L2.parse_varint true)
 |9=>some (.ir L2.ISNONTERMINAL_ps.length L2.ISNONTERMINAL_nl L2.ISNONTERMINAL false)
 |10=>some (.ir L2.ISEOF_ps.length L2.ISEOF_nl L2.ISEOF false)
 |11=>some (.ir L2.law_fits_ps.length L2.law_fits_nl L2.law_fits true)
 |12=>some (.ir L2.law_shape_ps.length L2.law_shape_nl L2.law_shape true)
 |13=>some (.ir L2.law_true_ps.length L2.law_true_nl L2.law_true true)
 |14=>some (.ir L2.law_turns_ps.length L2.law_turns_nl L2.law_turns true)
 |15=>some (.spec fun _ Γ=>kwS a0i L2.law_ask_ps L2.law_ask_nl L2.law_ask true Γ)
 |16=>some (.ir L2.law_read_ps.length L2.law_read_nl L2.law_read true)
 |17=>some (.ir L2.law_ps.length L2.law_nl L2.law true)
 |_=>none
noncomputable abbrev a0y:Nat→Ctx:=lev a0i d5l
end
section
set_option maxRecDepth 100000
noncomputable def mkI2:Mk:=⟨41,37,⟨62,4,71,28⟩, "_int2digits.<locals>.inner"⟩
noncomputable def mkD2:Mk:=⟨48,44,⟨77,4,82,55⟩, "_digits2int.<locals>.inner"⟩
section
variable (P:Params)
theorem a5w:a7o (hk.heap_1 P) "_ellipsis_match" L2.ellipsis_match_ps L2.ellipsis_match_ls (b7e kk2 true (L2.ellipsis_match_ps++L2.ellipsis_match_ls) L2.ellipsis_match)=true:=by kernel_rfl
theorem a5u:a4q L2.ellipsis_match (a0k (hk.heap_1 P) "_ellipsis_match")=a0k (hk.heap_1 P) "_ellipsis_match" :=by kernel_rfl
theorem b9h:a7o (hk.heap_1 P) "_div2n1n" L2.div2n1n_ps L2.div2n1n_ls (b7e kk2 true (L2.div2n1n_ps++L2.div2n1n_ls) L2.div2n1n)=true:=by kernel_rfl
theorem b8v:a4q L2.div2n1n (a0k (hk.heap_1 P) "_div2n1n")=a0k (hk.heap_1 P) "_div2n1n" :=by kernel_rfl
theorem b0j:a7o (hk.heap_1 P) "_divmod_pos" L2.divmod_pos_ps L2.divmod_pos_ls (b7e kk2 true (L2.divmod_pos_ps++L2.divmod_pos_ls) L2.divmod_pos)=true:=by kernel_rfl
theorem b1v:a4q L2.divmod_pos (a0k (hk.heap_1 P) "_divmod_pos")=a0k (hk.heap_1 P) "_divmod_pos" :=by kernel_rfl
theorem b0i:a7o (hk.heap_1 P) "int_divmod" L2.int_divmod_ps L2.int_divmod_ls (b7e kk2 true (L2.int_divmod_ps++L2.int_divmod_ls) L2.int_divmod)=true:=by kernel_rfl
theorem b0s:a4q L2.int_divmod (a0k (hk.heap_1 P) "int_divmod")=a0k (hk.heap_1 P) "int_divmod" :=by kernel_rfl
theorem a7r:a7o (hk.heap_1 P) "_parse_varint" L2.parse_varint_ps L2.parse_varint_ls (b7e kk2 true (L2.parse_varint_ps++L2.parse_varint_ls) L2.parse_varint)=true:=by kernel_rfl
theorem a8c:a4q L2.parse_varint (a0k (hk.heap_1 P) "_parse_varint")=a0k (hk.heap_1 P) "_parse_varint" :=by kernel_rfl
theorem a6m:a7o (hk.heap_1 P) "ISNONTERMINAL" L2.ISNONTERMINAL_ps L2.ISNONTERMINAL_ls (b7e kk2 false (L2.ISNONTERMINAL_ps++L2.ISNONTERMINAL_ls) L2.ISNONTERMINAL)=true:=by kernel_rfl
theorem a6n:a4q L2.ISNONTERMINAL (a0k (hk.heap_1 P) "ISNONTERMINAL")=a0k (hk.heap_1 P) "ISNONTERMINAL" :=by kernel_rfl
theorem c4z:a7o (hk.heap_1 P) "ISEOF" L2.ISEOF_ps L2.ISEOF_ls (b7e kk2 false (L2.ISEOF_ps++L2.ISEOF_ls) L2.ISEOF)=true:=by kernel_rfl
theorem c5k:a4q L2.ISEOF (a0k (hk.heap_1 P) "ISEOF")=a0k (hk.heap_1 P) "ISEOF" :=by kernel_rfl
theorem b4q:a7o (hk.heap_1 P) "_law_fits" L2.law_fits_ps L2.law_fits_ls (b7e kk2 true (L2.law_fits_ps++L2.law_fits_ls) L2.law_fits)=true:=by kernel_rfl
theorem b5l:a4q L2.law_fits (a0k (hk.heap_1 P) "_law_fits")=a0k (hk.heap_1 P) "_law_fits" :=by kernel_rfl
theorem b4g:a7o (hk.heap_1 P) "_law_shape" L2.law_shape_ps L2.law_shape_ls (b7e kk2 true (L2.law_shape_ps++L2.law_shape_ls) L2.law_shape)=true:=by kernel_rfl
theorem b3b:a4q L2.law_shape (a0k (hk.heap_1 P) "_law_shape")=a0k (hk.heap_1 P) "_law_shape" :=by kernel_rfl
theorem b4z:a7o (hk.heap_1 P) "_law_true" L2.law_true_ps L2.law_true_ls (b7e kk2 true (L2.law_true_ps++L2.law_true_ls) L2.law_true)=true:=by kernel_rfl
theorem b4s:a4q L2.law_true (a0k (hk.heap_1 P) "_law_true")=a0k (hk.heap_1 P) "_law_true" :=by kernel_rfl
theorem b2v:a7o (hk.heap_1 P) "_law_turns" L2.law_turns_ps L2.law_turns_ls (b7e kk2 true (L2.law_turns_ps++L2.law_turns_ls) L2.law_turns)=true:=by kernel_rfl
theorem b3i:a4q L2.law_turns (a0k (hk.heap_1 P) "_law_turns")=a0k (hk.heap_1 P) "_law_turns" :=by kernel_rfl
theorem b9c:a7o (hk.heap_1 P) "_law_ask" L2.law_ask_ps L2.law_ask_ls (b7e kk2 true (L2.law_ask_ps++L2.law_ask_ls) L2.law_ask)=true:=by kernel_rfl
theorem b8l:a4q L2.law_ask (a0k (hk.heap_1 P) "_law_ask")=a0k (hk.heap_1 P) "_law_ask" :=by kernel_rfl
theorem b5d:a7o (hk.heap_1 P) "_law_read" L2.law_read_ps L2.law_read_ls (b7e kk2 true (L2.law_read_ps++L2.law_read_ls) L2.law_read)=true:=by kernel_rfl
theorem b5b:a4q L2.law_read (a0k (hk.heap_1 P) "_law_read")=a0k (hk.heap_1 P) "_law_read" :=by kernel_rfl
theorem d5e:a7o (hk.heap_1 P) "law" L2.law_ps L2.law_ls (b7e kk2 true (L2.law_ps++L2.law_ls) L2.law)=true:=by kernel_rfl
theorem d6l:a4q L2.law (a0k (hk.heap_1 P) "law")=a0k (hk.heap_1 P) "law" :=by kernel_rfl
theorem d4r:a7o (hk.heap_1 P) "_int2digits" ["a", "n"] ["a_digits", "inner"] (c8u kk2 mkI2)=true:=by kernel_rfl
theorem d3d:c6z c3a a8g a6g (a0k (hk.heap_1 P) "_int2digits")=a0k (hk.heap_1 P) "_int2digits" :=by kernel_rfl
theorem d6c:a7o (hk.heap_1 P) "_digits2int" ["digits", "n"] ["inner"] (c7y kk2 mkD2)=true:=by kernel_rfl
theorem d3z:c7l a8h a6e (a0k (hk.heap_1 P) "_digits2int")=a0k (hk.heap_1 P) "_digits2int" :=by kernel_rfl
theorem d8x:a7o (hk.heap_1 P) "_parse_varint" ["iterator"] ["b", "val"] d6j=true:=by kernel_rfl
theorem d7r:e0i (a0k (hk.heap_1 P) "_parse_varint")=a0k (hk.heap_1 P) "_parse_varint" :=by kernel_rfl
theorem d5h:d9y (hk.heap_1 P)=true:=by kernel_rfl
theorem d4h:c6i (a0k (hk.heap_1 P) "_get_name_info")=a0k (hk.heap_1 P) "_get_name_info" :=by kernel_rfl
theorem d1p:nsIn (hk.heap_1 P) e1v "EXACT_TOKEN_TYPES" = some (some (.ref (b0k (hk.heap_1 P) "EXACT_TOKEN_TYPES"))):=by kernel_rfl
theorem d1o:c8l (hk.heap_1 P) (b0k (hk.heap_1 P) "EXACT_TOKEN_TYPES")=true:=by kernel_rfl
theorem c9n:d9l (c4l (hk.heap_1 P) (b0k (hk.heap_1 P) "EXACT_TOKEN_TYPES"))=true:=by kernel_rfl
theorem c9m:((b0k (hk.heap_1 P) "EXACT_TOKEN_TYPES")==sysModules)=false:=by kernel_rfl
theorem d1b:(c4l (hk.heap_1 P) (b0k (hk.heap_1 P) "EXACT_TOKEN_TYPES")).map (·.hash)=(a2h (c4l (hk.heap_1 P) (b0k (hk.heap_1 P) "EXACT_TOKEN_TYPES"))).map (PyData.keyHash P):=by kernel_rfl
theorem d2a:a3j (b9s (c4l (hk.heap_1 P) (b0k (hk.heap_1 P) "EXACT_TOKEN_TYPES")))=a0i:=by kernel_rfl
theorem d9d:L2.fns.all (fun x=>(d0c (hk.heap_1 P) x).isSome)=true:=by kernel_rfl
theorem d8p:kk2.gi.all (fun p=>e0n (hk.heap_1 P) p.1 p.2)=true:=by kernel_rfl
theorem d9q:kk2.gs.all (fun p=>e0r (hk.heap_1 P) p.1 p.2)=true:=by kernel_rfl
theorem d9j:bnames.all (d3j (hk.heap_1 P))=true:=by kernel_rfl
theorem d7o:noTabs (hk.heap_1 P)=true:=by kernel_rfl
theorem d7u:a9b (hk.heap_1 P)=true:=by kernel_rfl
end
end
section
set_option maxRecDepth 100000
section
variable {C:Cfg} {P:Params}
theorem d0t(hP:C.w.params=P)(T:Tied C (hk.heap_1 P) L2.fns)(ht:C.toks=a0i)(NI:NestAt C mkI2.c mkI2.P mkI2.pos mkI2.qual)(ND:NestAt C mkD2.c mkD2.P mkD2.pos mkD2.qual)(n:Nat):a3q C (a0y n) n:=by
 have Gd:Good C kk2:=T.good (k:=kk2) (fun f x h=>h) (d9d P) (d8p P) (d9q P) (d9j P) fun _=>rfl;have PV:PvAt C kk2:=T.pv (f:=8) rfl (d8x P) (d7r P);have TK:TokAt C:=T.tok (d1p P) (d1o P) (c9n P) (c9m P) (by rw[hP]; exact d1b P) (by rw[ht]; exact d2a P)
 have GN:GniAt C 7:=T.gni rfl (d5h P) (d4h P);have key:a3q C (lev C.toks d5l n) n:=by
  refine c7s Gd (fun f=>?_) (fun m hm Γok=>a6p Gd PV TK hm) n
  match f with
  |0=>exact T.defAt rfl (a5w P) (a5u P)
  |1=>exact T.defAt rfl (b9h P) (b8v P)
  |2=>exact trivial
  |3=>intro m Γok hm; rw[←ht]; exact T.i2d Gd Γok (a6p Gd PV TK hm) PV TK NI rfl (d4r P) (d3d P)
  |4=>intro m Γok hm; rw[←ht]; exact T.d2i Gd Γok PV TK ND rfl (d6c P) (d3z P)
  |5=>exact T.defAt rfl (b0j P) (b1v P)
  |6=>exact T.defAt rfl (b0i P) (b0s P)
  |7=>intro m Γok hm; exact d5s GN Γok Gd
  |8=>exact T.defAt rfl (a7r P) (a8c P)
  |9=>exact T.defAt rfl (a6m P) (a6n P)
  |10=>exact T.defAt rfl (c4z P) (c5k P)
  |11=>exact T.defAt rfl (b4q P) (b5l P)
  |12=>exact T.defAt rfl (b4g P) (b3b P)
  |13=>exact T.defAt rfl (b4z P) (b4s P)
  |14=>exact T.defAt rfl (b2v P) (b3i P)
  |15=>intro m Γok hm; rw[←ht]; exact T.kw Gd Γok (a6p Gd PV TK hm) rfl (b9c P) (b8l P)
  |16=>exact T.defAt rfl (b5d P) (b5b P)
  |17=>exact T.defAt rfl (d5e P) (d6l P)
  |f+18=>exact trivial
 rw[ht]at key;exact key
end
noncomputable def c8s:Nat:=40
def c7w:Prop:=∀is:List Int,is.length≤63→a0y c8s 17 true [] [.dat (.list (is.map .int))] [] fun v _=>v=.dat (.bool true)
theorem law2_of(plain:c7w):PySem.Challenge.rw_kl0251_02.Holds:=hd (by
 intro w s₀ s₁ mg mb G Y fa o pm cd doc dV kV ho hd' hcd hD hmg hg args vals as hpre hlay hrd hwl hlo;have KX:=km_in_of Y;have hT8:=km_tabs_of Y;refine Ground.open G ?_;intro T B D TE TW;have hT9:TabsAt ([mkI2,mkD2].map fun t=>(t.c,t.P)) s₁.heap:=List.forall_mem_cons.mpr ⟨⟨codeHd_of_K (c:=41) (P:=37) KX (by kernel_rfl),hT8 37 (by k_mem)⟩,List.forall_mem_cons.mpr ⟨⟨codeHd_of_K (c:=48) (P:=44) KX (by kernel_rfl),hT8 44 (by k_mem)⟩,fun _ h=>nomatch h⟩⟩
 clear hd' ho
 wrow_args hpre hlay hrd hwl hlo
 rename_i is hs hlay0 hL1 hr1 hl2 as1 as2 sa vs as3 hL ra w1 r0 hI hr hc1 hc2;have hlen:is.length≤63:=by omega
 obtain⟨vs2,hpl⟩:∃vs2:List e1n,s₁.heap.get? sa=some { cls:=.type "list",data:=.seq vs2.toArray }:=by cases w1; exact⟨_,by assumption⟩
 have hvs:vs2=vs:=by
  obtain⟨oL,ho,_,n,hd⟩:=hL;rw[hpl]at ho; cases ho;have h2:=(Data.seq.inj hd).1;simpa using congrArg Array.toList h2
 subst hvs;obtain⟨bm,ob,b1,b2,b3,b4,b5,g,B0,rd,old⟩:=c5n (prog:=PySem.Challenge.rw_kl0251_02.row.prog) (w:=w) (names:=L2.fns) (toks:=a0i) KX (d7o w.params) (d7u w.params) hT9 T hpl hI;have TI:=(c5t (prog:=PySem.Challenge.rw_kl0251_02.row.prog) (w:=w) (K:=hk.heap_1 w.params) (mg:=mg) (mb:=mb) (p:=a3v) (loose:=looseW a3v a4g) (names:=L2.fns) (toks:=a0i) (TL:=[mkI2,mkD2]) (bm:=bm) (ob:=ob)).resolve_right fun h=>h g B0.amb;have NI:=b6k (prog:=PySem.Challenge.rw_kl0251_02.row.prog) (w:=w) (K:=hk.heap_1 w.params) (mb:=mb) (p:=a3v) (loose:=looseW a3v a4g) (names:=L2.fns) (toks:=a0i) (TL:=[mkI2,mkD2]) (t:=mkI2) (.head _) (fun t ht hP=>by simp at ht; rcases ht with rfl|rfl <;> first|rfl|exact absurd hP (by decide)) b1 b2 b3 b4 b5
 have ND:=b6k (prog:=PySem.Challenge.rw_kl0251_02.row.prog) (w:=w) (K:=hk.heap_1 w.params) (mb:=mb) (p:=a3v) (loose:=looseW a3v a4g) (names:=L2.fns) (toks:=a0i) (TL:=[mkI2,mkD2]) (t:=mkD2) (.tail _ (.head _)) (fun t ht hP=>by simp at ht; rcases ht with rfl|rfl <;> first|rfl|exact absurd hP (by decide)) b1 b2 b3 b4 b5
 have hl:=d0t (P:=w.params) rfl TI rfl NI ND c8s;have hlaw:nsIn (hk.heap_1 w.params) e1v "law" = some (some (.ref (b0k (hk.heap_1 w.params) "law"))):=by kernel_rfl
 have hfa:Value.ref fa=Value.ref (b0k (hk.heap_1 w.params) "law"):=by
  have h1:=TI.mg _ _ hlaw;have h2:mg "law" = some (.ref fa):=hmg;exact Option.some.inj (h2.symm.trans h1)
 have hf17:=TI.fnv 17 "law" _ rfl hlaw;show e1p _ _ (call (.ref fa) [.ref sa]) _ _ _;rw[hfa,←hf17];refine hl 17 callerA g s₁ [] [] true [.ref sa] [] [] [.dat (.list (is.map .int))] _ _ _ ⟨by decide +kernel,by decide +kernel,fun _=>rfl,.inl rfl⟩ B0 ⟨[],rfl,fun e he=>nomatch he⟩ rfl ⟨rd,trivial⟩ (plain is hlen) fun v u ow' s' g' B' x iv hq=>?_
 subst hq;obtain rfl:=RD.boolE iv;have how:ow'=[]:=List.length_eq_zero_iff.mp B'.olen.symm;subst how;obtain⟨h',tk',rfl⟩:=x.same;refine⟨.inl ⟨.bool true,.bool true,[],rfl,fun _=>rfl,.bool true,by kernel_rfl,fun _=>⟨List.nodup_nil,fun a ha=>nomatch ha⟩⟩,old _ _ B' x,rfl,.of_eq hg⟩)
end
theorem own_ix0(ow l:List OV):(ow++l)[ow.length]?=l[0]?:=by rw[List.getElem?_append_right (Nat.le_refl _),Nat.sub_self]
theorem own_ix(ow l:List OV)(k:Nat):(ow++l)[ow.length+k]?=l[k]?:=by rw[List.getElem?_append_right (Nat.le_add_right _ _),Nat.add_sub_cancel_left]
theorem own_set0(ow l:List OV)(x:OV):(ow++l).set ow.length x=ow++l.set 0 x:=by rw[List.set_append_right _ _ (Nat.le_refl _),Nat.sub_self]
theorem own_set(ow l:List OV)(k:Nat)(x:OV):(ow++l).set (ow.length+k) x=ow++l.set k x:=by rw[List.set_append_right _ _ (Nat.le_add_right _ _),Nat.add_sub_cancel_left]
local macro_rules (kind:=Lean.Parser.Tactic.simpAutoUnfold)|s=>return qx #[s[4][1]] ("%TtacticRepeat_ repeat { %Tfirst first %null %group | { %Tdsimp dsimp %ToptConfig %null / / %null / %null only / %null [ %null " ++ qxm "wpS wpE wpT wpEs wpAs wpRs wpI wpO wpMs keepV argV St.dat? St.datAll St.get St.set St.setOwn St.push b_add b_sub b_mul b_fdiv b_mod b_pow b_shl b_shr b_and b_or b_xor b_str b_list b_bool b_rep a_add a_sub a_shl a_or c_eqi c_eqs c_eql c_eqb c_lt c_le c_gt c_ge c_isb c_isn c_ins c_inl c_nis c_nit i_tab i_dl i_dt i_ol f_lenl f_lens f_min f_dm f_ii f_il m_bl m_jn m_st m_en m_fi m_sp m_ix g_bl g_jn g_st g_en g_fi g_sp g_ix sl_l sl_s truthV tw_n tw_b tw_i tw_s tw_l bindT seqD bdD St.clr Mw.Internal.G.ids Mw.Internal.T.ids gd0 gdS List.set_cons_zero List.set_cons_succ List.getElem?_cons_zero List.getElem?_cons_succ List.length_cons List.length_nil List.nil_append List.cons_append List.foldl_cons List.foldl_nil List.zip_cons_cons List.zip_nil_left List.replicate_zero Option.bind_some Option.bind_none" ++ " / ] / %null / / } / %group | { %Tsimp simp %ToptConfig %null / / %null / %null only / %null [ %null " ++ qxm "own_ix0 own_ix own_set0 own_set List.append_assoc List.length_append List.append_nil and_true true_and reduceIte Bool.false_eq_true Bool.true_eq_false Nat.zero_add List.replicate_succ" ++ " , @0 / ] / %null / / } / / / } /")
theorem d3i{n:Nat}{i:Int}{ow:List OV}{Q:V→List OV→Prop}(hn:2≤n)(h:Q (.dat (.bool (i==0))) ow):a0y n 10 hz [] [.dat (.int i)] ow Q:=by
 obtain⟨m,rfl⟩:∃m,n=m+2:=⟨n-2,by omega⟩
 refine⟨Nat.succ_pos _,fun q=>(nomatch q),rfl,rfl,?_⟩;dsimp only[L2.ISEOF,L2.ISEOF_nl];refine wq2 ?_;simp![];simpa using h
theorem e0v{n:Nat}{i:Int}{ow:List OV}{Q:V→List OV→Prop}(hn:2≤n)(h:Q (.dat (.bool (decide (256≤i)))) ow):a0y n 9 hz [] [.dat (.int i)] ow Q:=by
 obtain⟨m,rfl⟩:∃m,n=m+2:=⟨n-2,by omega⟩
 refine⟨Nat.succ_pos _,fun q=>(nomatch q),rfl,rfl,?_⟩;dsimp only[L2.ISNONTERMINAL,L2.ISNONTERMINAL_nl];refine wq2 ?_;simp![];simpa using h
theorem c2r{n:Nat}{a b m:Int}{ow:List OV}{Q:V→List OV→Prop}(hn:2≤n)(h1:Builtin.Int.intBits a-m≤4000)(hb:b≠0)(hb2:b.natAbs<2^4000)
 (h:Q (.dat (.tuple [.int (a.fdiv b),.int (a.fmod b)])) ow):a0y n 1 true [] [.dat (.int a),.dat (.int b),.dat (.int m)] ow Q:=by
 obtain⟨l,rfl⟩:∃m,n=m+2:=⟨n-2,by omega⟩
 refine⟨Nat.succ_pos _,fun _=>rfl,rfl,rfl,?_⟩;dsimp only[L2.div2n1n,L2.div2n1n_nl];refine wq2 ?_;simp![];refine ifp (by simpa using h1) ?_
 refine wq2 ?_;simp![];refine⟨⟨hb,hb2⟩,?_⟩;simpa using h
theorem b3o(x s:Nat):x &&& (x/2^s*2^s)=x/2^s*2^s:=by
 rw[←Nat.shiftRight_eq_div_pow,←Nat.shiftLeft_eq];apply Nat.eq_of_testBit_eq;intro i;simp only[Nat.testBit_and,Nat.testBit_shiftLeft,Nat.testBit_shiftRight]
 by_cases h:s≤i
 ·simp[h,Nat.add_sub_cancel' h]
 ·simp[h]
theorem b4u{a b s:Nat}(ha:a%2^s=0)(hb:b<2^s):a &&& b=0:=by
 have hb':b%2^s=b:=Nat.mod_eq_of_lt hb;rw[←hb',←Nat.and_two_pow_sub_one_eq_mod b s,Nat.and_comm b,←Nat.and_assoc,Nat.and_two_pow_sub_one_eq_mod,ha,Nat.zero_and]
theorem c5s(x s:Nat):Builtin.bitXor (x:Int) ((x/2^s*2^s:Nat):Int)=((x%2^s:Nat):Int):=by
 rw[PyProof.Rows.bitXor_and];have h:Builtin.bitAnd (x:Int) ((x/2^s*2^s:Nat):Int)=((x/2^s*2^s:Nat):Int):=by
  unfold Builtin.bitAnd;have h1:decide ((0:Int)≤(x:Int))=true:=by simp
  have h2:decide ((0:Int)≤((x/2^s*2^s:Nat):Int))=true:=decide_eq_true (Int.natCast_nonneg _);rw[h1,h2];simp only[Int.toNat_natCast];rw[b3o]
 rw[h];have h3:=Nat.div_add_mod x (2^s);rw[Nat.mul_comm]at h3;exact a2c (.e (.S (.P (.c N0) (.c N1)) (.n 0 2 (.c N1))) (.c N2)) (.e (.p N1 N2) N0) h3
theorem d3r{a b s:Nat}(ha:a%2^s=0)(hb:b<2^s):Builtin.bitOr (a:Int) (b:Int)=((a+b:Nat):Int):=by
 have h1:Builtin.bitOr (a:Int) (b:Int)=a+b-Builtin.bitAnd (a:Int) (b:Int):=by
  have:=PyProof.Rows.bitXor_and (a:Int) (b:Int)
  unfold Builtin.bitXor at this
  exact lc1 2 [_,_] [_,_] (.e Z0 (.S (.P (.c N0) (.c N1)) Z1)) (.e (.S Z0 Z1) (.S (.P (.c N0) (.c N1)) (.n 0 2 Z1))) this
 have h2:Builtin.bitAnd (a:Int) (b:Int)=0:=by
  unfold Builtin.bitAnd;have h1:decide ((0:Int)≤(a:Int))=true:=by simp
  have h2:decide ((0:Int)≤(b:Int))=true:=by simp
  rw[h1,h2];simp only[Int.toNat_natCast];rw[b4u ha hb]; rfl
 rw[h1,h2];exact b2b (.e (.S (.P (.c N0) (.c N1)) (.z 0)) (.c (.p N0 N1)))
theorem b6n(x:Nat):Builtin.Int.intBits (x:Int)=if x=0 then 0 else x.log2+1:=by
 unfold Builtin.Int.intBits
 by_cases h:x=0
 ·subst h; rfl
 ·have h1:((x:Int)==0)=false:=by simpa using h
  (rw[h1]; rw[if_neg h]); simp
theorem b1w(x:Nat):x<2^Builtin.Int.intBits (x:Int):=by
 rw[b6n];split
 ·subst_vars; decide
 ·rename_i h
  exact Nat.lt_log2_self
theorem b1o{x k:Nat}(h:x<2^k):Builtin.Int.intBits (x:Int)≤k:=by
 rw[b6n];split
 ·exact Nat.zero_le _
 ·rename_i h0
  have:=(Nat.log2_lt h0).mpr h
  exact a1b (.l (.p N0 O1) N1) (.t N0 N1) this
noncomputable def a5a(n:Nat)(x:Nat)(c:Nat):List e1l:=(List.range c).map fun i=>.int ((x/2^(n*i)%2^n:Nat):Int)
theorem a1k(n x c:Nat):(a5a n x c).length=c:=by simp[a5a]
theorem c4j(n x a b:Nat):a5a n x (a+b)=a5a n (x%2^(n*a)) a++a5a n (x/2^(n*a)) b:=by
 apply List.ext_getElem?;intro i
 by_cases h:i<a
 ·rw[List.getElem?_append_left (by rw[a1k]; exact h)]
  simp only[a5a,List.getElem?_map,List.getElem?_range h,List.getElem?_range (by exact a2c (.t N0 (.p N1 N2)) (.t N0 N1) h:i<a+b),Option.map_some]
  have hle:n*i+n≤n*a:=by
   have:n*(i+1)≤n*a:=Nat.mul_le_mul_left n h
   rw[Nat.mul_succ]at this; exact this
  congr 3
  rw[←Nat.mod_mod_of_dvd (x/2^(n*i)) (Nat.pow_dvd_pow 2 (by exact a2c (.l N0 (.s N1 N2)) (.l (.p N2 N0) N1) hle:n≤n*a-n*i)),←Nat.mod_mod_of_dvd (x%2^(n*a)/2^(n*i)) (Nat.pow_dvd_pow 2 (by exact a2c (.l N0 (.s N1 N2)) (.l (.p N2 N0) N1) hle:n≤n*a-n*i))]
  congr 1
  have e:2^(n*a)=2^(n*i)*2^(n*a-n*i):=by rw[←Nat.pow_add]; congr 1; exact a2c (.e N0 (.p N1 (.s N0 N1))) (.l (.p N1 N2) N0) hle
  rw[e,Nat.mod_mul_right_div_self,Nat.mod_mod]
 ·rw[List.getElem?_append_right (by rw[a1k]; omega),a1k]
  by_cases h2:i<a+b
  ·simp only[a5a,List.getElem?_map,List.getElem?_range h2,List.getElem?_range (by exact a2a (.t (.s N0 N1) N2) (.n (.t N0 N1)) (.t N0 (.p N1 N2)) h h2:i-a<b),Option.map_some]
   congr 3
   rw[Nat.div_div_eq_div_mul,←Nat.pow_add,←Nat.mul_add,Nat.add_sub_cancel' (by omega:a≤i)]
  ·rw[List.getElem?_eq_none (by rw[a1k]; omega),List.getElem?_eq_none (by rw[a1k]; exact a2c (.l N0 (.s N1 N2)) (.n (.t N1 (.p N2 N0))) h2)]
noncomputable def a8u(n:Nat):List Nat→Nat
 |[]=>0
 |d::r=>d+2^n*a8u n r
theorem b4x(n:Nat)(a b:List Nat):a8u n (a++b)=a8u n a+2^(n*a.length)*a8u n b:=by
 induction a with
 |nil=>(dsimp only[a8u]; simp)
 |cons d r ih=>
  dsimp only[a8u,List.cons_append,List.length_cons];rw[ih,Nat.mul_add,←Nat.mul_assoc,←Nat.pow_add,Nat.mul_succ,Nat.add_comm n];exact lc0 3 [_,_,_] [] (.e (.p N0 (.p N1 N2)) (.p (.p N0 N1) N2))
theorem b6p{n x:Nat}(hx:x<2^(n*1)):a5a n x 1=[.int (x:Int)]:=by
 have:x%2^n=x:=Nat.mod_eq_of_lt (by simpa using hx)
 simp only[a5a,List.range_one,List.map_cons,List.map_nil,Nat.mul_zero,Nat.pow_zero,Nat.div_one,this]
theorem d0b{j n:Nat}:∀(k x L c:Nat) (l:List e1l) (ow:List OV) (Q:V→List OV→Prop),1≤c→c≤2^k→x<2^(n*c)→L+c≤l.length→l.length≤1000→n*c≤900→ow[j]?=some (.lst l)→
  Q (.dat .none) (ow.set j (.lst (l.take L++a5a n x c++l.drop (L+c))))→
  inl nF tk 3 4 [.own j,.dat (.int n),.fn nF] a6g (k+2) nF hz [] [.dat (.int x),.dat (.int L),.dat (.int (L+c:Nat))] ow Q:=by
 intro k
 induction k with
 |zero=>
  intro x L c l ow Q h1 h2 hx hL hl hnc hj hQ;have hc:c=1:=by exact lc2 1 [_] [] (.e N0 O1) (.l O1 N0) (.l N0 (.k (Nat.pow 2 0))) h1 h2
  subst hc;refine⟨rfl,Nat.succ_pos _,rfl,rfl,?_⟩;simp only[a6g];refine wq2 ?_;simp![];refine ifp (by simp) ?_
  refine wq2 ?_;simp![hj];refine⟨⟨by exact a3f (.l (.z 0) (.c N0)),by exact a1m (.l (.c N0) (.z 1000000)) (.l N1 (.k 1000)) (.l (.p N0 O1) N1) hl hL⟩,by simp; omega,?_⟩
  refine wq2 ?_;simp![];have e:l.set (L:Int).toNat (.int x)=l.take L++a5a n x 1++l.drop (L+1):=by
   (rw[b6p hx,Int.toNat_natCast,List.set_eq_take_append_cons_drop]; rw[if_pos (by omega)])
   simp
  rw[e,List.take_of_length_le (by simp)]
  exact hQ
 |succ k ih=>
  intro x L c l ow Q h1 h2 hx hL hl hnc hj hQ;refine⟨rfl,Nat.succ_pos _,rfl,rfl,?_⟩;refine wq2 ?_;simp![]
  by_cases hc:c=1
  ·subst hc
   refine ifp (by simp) ?_
   refine wq2 ?_;simp![hj];refine⟨⟨by exact a3f (.l (.z 0) (.c N0)),by exact a1m (.l (.c N0) (.z 1000000)) (.l N1 (.k 1000)) (.l (.p N0 O1) N1) hl hL⟩,by simp; omega,?_⟩
   refine wq2 ?_;simp![];have e:l.set (L:Int).toNat (.int x)=l.take L++a5a n x 1++l.drop (L+1):=by
    (rw[b6p hx,Int.toNat_natCast,List.set_eq_take_append_cons_drop]; rw[if_pos (by omega)])
    simp
   rw[e,List.take_of_length_le (by simp)]
   exact hQ
  ·refine ifn (by simp; exact a0o (.n (.e (.z 1) (.c N0))) (.n (.e N0 O1)) hc) ?_
   refine wq1 ?_;refine wq2 ?_;simp![];refine⟨by omega,?_⟩
   obtain⟨a,b,rfl,hab,hba⟩:∃a b,c=a+b∧a≤b∧b≤a+1:=⟨c/2,c-c/2,by exact a2c (.e N0 (.p N1 (.s N0 N1))) (.e (.p (.m 0 2 N1) N2) N0) (Nat.div_add_mod _ 2),by exact a2c (.l N0 (.s N1 N0)) (.e (.p (.m 0 2 N0) N2) N1) (Nat.div_add_mod _ 2),by exact a2a (.l (.s N0 N1) (.p N1 O1)) (.e (.p (.m 0 2 N1) N2) N0) (.t N2 (.k 2)) (Nat.div_add_mod _ 2) (ml rfl)⟩
   have hap:1≤a:=by exact lc3 2 [_,_] [] (.l O1 N0) (.l O1 (.p N0 N1)) (.n (.e (.p N0 N1) O1)) (.l N1 (.p N0 O1)) h1 hc hba
   have e1:((L:Int)+((L+(a+b):Nat):Int)).fdiv (2^(1:Int).toNat)=((L+a:Nat):Int):=by
    have:(2:Int)^(1:Int).toNat=2:=by decide
    rw[this,Int.fdiv_eq_ediv_of_nonneg _ (by omega)]
    omega
   (rw[e1]; refine wq2 ?_)
   simp![];refine⟨.inl (by exact b2a (.t (.u 1 (.S (.c (.p N0 N1)) (.c N0))) (.k (Nat.pow 2 64))) (.l N2 (.k 1000)) (.l (.p N0 (.p N1 N3)) N2) hl hL),?_⟩
   have e2:(((L+a:Nat):Int)-(L:Int))*(n:Int)=((n*a:Nat):Int):=by
    have:((L+a:Nat):Int)-(L:Int)=(a:Int):=by exact b2b (.e (.S (.c (.p N0 N1)) (.c N0)) (.c N1))
    rw[this,Int.mul_comm]; simp
   (rw[e2]; refine wq2 ?_)
   simp![];refine⟨by exact a3f (.l (.z 0) (.c N0)),?_⟩
   have e3:(x:Int).fdiv (2^((n*a:Nat):Int).toNat)=((x/2^(n*a):Nat):Int):=by
    rw[Int.toNat_natCast,Int.fdiv_eq_ediv_of_nonneg _ (by exact Int.le_of_lt (Int.pow_pos (by decide)))]
    simp
   (rw[e3]; refine wq2 ?_)
   simp![];have big:(2:Nat)^900≤2^4000:=Nat.pow_le_pow_right (by decide) (by decide)
   have hac:a≤a+b:=Nat.le_add_right a b;have hna:n*a≤n*(a+b):=Nat.mul_le_mul_left n hac;have hx9:x<2^900:=Nat.lt_of_lt_of_le hx (Nat.pow_le_pow_right (by decide) hnc)
   refine⟨⟨by exact a3f (.l (.z 0) (.c N0)),by omega,?_⟩,?_⟩
   ·have:x/2^(n*a)≤x:=Nat.div_le_self _ _
    rw[Int.natAbs_natCast];exact Nat.lt_of_le_of_lt this (Nat.lt_of_lt_of_le hx9 big)
   have e4:Builtin.bitXor (x:Int) (((x/2^(n*a):Nat):Int)*2^((n*a:Nat):Int).toNat)=((x%2^(n*a):Nat):Int):=by
    rw[←c5s,Int.toNat_natCast];exact congrArg _ (by simp)
   (rw[e4]; refine wq2 ?_)
   have hlow:x%2^(n*a)<2^(n*a):=Nat.mod_lt _ (Nat.pow_pos (by decide))
   have hup:x/2^(n*a)<2^(n*b):=by
    rw[Nat.div_lt_iff_lt_mul (Nat.pow_pos (by decide)),←Nat.pow_add,←Nat.mul_add,Nat.add_comm b a]
    exact hx
   simp![];refine ih (x%2^(n*a)) L a l ow _ hap (by omega) hlow (by exact a9v (.l (.p N0 N1) N2) (.l (.p N0 (.p N1 N3)) N2) hL) hl (by omega) hj ?_
   refine⟨⟨_,rfl⟩,?_⟩;refine wq2 ?_;simp![];have e5:L+(a+b)=L+a+b:=(Nat.add_assoc L a b).symm;rw[e5];have hl2:(l.take L++a5a n (x%2^(n*a)) a++l.drop (L+a)).length=l.length:=by
    simp[a1k]; exact a9v (.e (.p (.b 2 N0 N1) (.p N2 (.s N1 (.p N0 N2)))) N1) (.l (.p N0 (.p N2 N3)) N1) hL
   have hjl:j<ow.length:=(List.getElem?_eq_some_iff.mp hj).1;refine ih (x/2^(n*a)) (L+a) b _ _ _ (by omega) (by omega) hup (by rw[hl2]; exact a9v (.l (.p (.p N0 N1) N2) N3) (.l (.p N0 (.p N1 N2)) N3) hL) (by rw[hl2]; exact hl) ?_ (by simp[hjl]) ?_
   ·have:n*b≤n*(a+b):=Nat.mul_le_mul_left n (Nat.le_add_left b a)
    omega
   refine⟨⟨_,rfl⟩,?_⟩;refine wq1 ?_;have e6:(List.take L l++a5a n (x%2^(n*a)) a++List.drop (L+a) l).take (L+a)++a5a n (x/2^(n*a)) b++(List.take L l++a5a n (x%2^(n*a)) a++List.drop (L+a) l).drop (L+a+b)=List.take L l++a5a n x (a+b)++List.drop (L+(a+b)) l:=by
    have hlen:(List.take L l++a5a n (x%2^(n*a)) a).length=L+a:=by simp[a1k]; exact a9v (.e (.b 2 N0 N1) N0) (.l (.p N0 (.p N2 N3)) N1) hL
    have hfig:a5a n x (a+b)=a5a n (x%2^(n*a)) a++a5a n (x/2^(n*a)) b:=by
     rw[←c4j]
    rw[List.take_append_of_le_length (by rw[hlen]; exact Nat.le_refl _),List.take_of_length_le (by rw[hlen]; exact Nat.le_refl _),List.drop_append,hlen,List.drop_eq_nil_of_le (by rw[hlen]; exact lc0 3 [_,_,_] [] (.l (.p N0 N1) (.p (.p N0 N1) N2))),List.nil_append,List.drop_drop,hfig,List.append_assoc,List.append_assoc,List.append_assoc]
    rw[show L+a+(L+a+b-(L+a))=L+(a+b) from by rw[Nat.add_sub_cancel_left,Nat.add_assoc],List.append_assoc]
   rw[e6,List.set_set,List.take_of_length_le (by simp)]
   exact hQ
noncomputable def a0c(l:List Nat):List e1l:=l.map fun(d:Nat)=>.int (d:Int)
theorem c0e(n:Nat):∀(l:List Nat),(∀d∈l,d<2^n)→a8u n l<2^(n*l.length)
 |[]=>fun _=>by(dsimp only[a8u]; simp)
 |d::r=>fun h=>by
  have h1:=h d (.head _);have h2:=c0e n r fun x hx=>h x (List.mem_cons_of_mem _ hx)
  (dsimp only[a8u,List.length_cons]; simp only[Nat.mul_succ])
  rw[Nat.pow_add,Nat.mul_comm (2^(n*r.length))];have h3:2^n*a8u n r+2^n≤2^n*2^(n*r.length):=by
   rw[←Nat.mul_succ]; exact Nat.mul_le_mul_left _ h2
  exact b2a (.t (.p N0 N1) N2) (.t N0 N3) (.l (.p N1 N3) N2) h1 h3
theorem d0h{n:Nat}{ds:List Nat}(hds:∀d∈ds,d<2^n)(hl:ds.length≤1000)(hnl:n*ds.length≤900):∀(k L c:Nat) (ow:List OV) (Q:V→List OV→Prop),1≤c→c≤2^k→L+c≤ds.length→
  Q (.dat (.int (a8u n ((ds.drop L).take c):Nat))) ow→
  inl nF tk 2 2 [.dat (.list (a0c ds)),.dat (.int n),.fn nF] a6e (k+2) nF hz [] [.dat (.int L),.dat (.int (L+c:Nat))] ow Q:=by
 have base:∀(L:Nat) (m:Nat) (ow:List OV) (Q:V→List OV→Prop),L+1≤ds.length→Q (.dat (.int (a8u n ((ds.drop L).take 1):Nat))) ow→
   inl nF tk 2 2 [.dat (.list (a0c ds)),.dat (.int n),.fn nF] a6e (m+2) nF hz [] [.dat (.int L),.dat (.int (L+1:Nat))] ow Q:=by
  intro L m ow Q hL hQ;refine⟨rfl,Nat.succ_pos _,rfl,rfl,?_⟩
  change a1f _ _ (.cons _ _) _ _
  refine wq2 ?_;simp![];refine ifp (by simp) ?_
  refine wq2 ?_;have hg:(a0c ds)[L]?=some (.int ((ds[L]'(by omega):Nat):Int)):=by
   simp[a0c,List.getElem?_map,List.getElem?_eq_getElem (by omega:L<ds.length)]
  have hix:a2r (a0c ds).length (L:Int)=some L:=by
   unfold a2r; (rw[if_pos (by exact a3f (.l (.z 0) (.c N0)))]; rw[if_pos (by simp[a0c]; omega)]); simp
  simp![hix,hg];refine⟨⟨by exact a3f (.l (.z (Int.neg 1000000)) (.c N0)),by exact a1m (.l (.c N0) (.z 1000000)) (.l N1 (.k 1000)) (.l (.p N0 O1) N1) hl hL⟩,?_⟩
  have e:(ds.drop L).take 1=[ds[L]'(by omega)]:=by
   rw[List.drop_eq_getElem_cons (by omega:L<ds.length)]; rfl
  rw[e]at hQ
  (dsimp only[a8u]at hQ; simpa using hQ)
 intro k
 induction k with
 |zero=>
  intro L c ow Q h1 h2 hL hQ;have hc:c=1:=by exact lc2 1 [_] [] (.e N0 O1) (.l O1 N0) (.l N0 (.k (Nat.pow 2 0))) h1 h2
  subst hc;exact base L 0 ow Q hL hQ
 |succ k ih=>
  intro L c ow Q h1 h2 hL hQ
  by_cases hc:c=1
  ·subst hc; exact base L (k+1) ow Q hL hQ
  refine⟨rfl,Nat.succ_pos _,rfl,rfl,?_⟩
  change a1f _ _ (.cons _ _) _ _
  refine wq2 ?_;simp![];refine ifn (by simp; exact a0o (.n (.e (.z 1) (.c N0))) (.n (.e N0 O1)) hc) ?_
  refine wq1 ?_;refine wq2 ?_;simp![];refine⟨by omega,?_⟩
  obtain⟨a,b,rfl,hab,hba⟩:∃a b,c=a+b∧a≤b∧b≤a+1:=⟨c/2,c-c/2,by exact a2c (.e N0 (.p N1 (.s N0 N1))) (.e (.p (.m 0 2 N1) N2) N0) (Nat.div_add_mod _ 2),by exact a2c (.l N0 (.s N1 N0)) (.e (.p (.m 0 2 N0) N2) N1) (Nat.div_add_mod _ 2),by exact a2a (.l (.s N0 N1) (.p N1 O1)) (.e (.p (.m 0 2 N1) N2) N0) (.t N2 (.k 2)) (Nat.div_add_mod _ 2) (ml rfl)⟩
  have hap:1≤a:=by exact lc3 2 [_,_] [] (.l O1 N0) (.l O1 (.p N0 N1)) (.n (.e (.p N0 N1) O1)) (.l N1 (.p N0 O1)) h1 hc hba
  have e1:((L:Int)+((L+(a+b):Nat):Int)).fdiv (2^(1:Int).toNat)=((L+a:Nat):Int):=by
   have:(2:Int)^(1:Int).toNat=2:=by decide
   rw[this,Int.fdiv_eq_ediv_of_nonneg _ (by omega)]
   omega
  (rw[e1]; refine wq2 ?_)
  have hn64:n≤900:=by
   have:n*1≤n*ds.length:=Nat.mul_le_mul_left n (by exact b2a (.l O1 N0) (.l (.p N1 (.p N2 N3)) N0) (.l O1 N2) hL hap)
   exact a1m (.l N0 (.k 900)) (.l N1 (.k 900)) (.l (.m 1 1 N0) N1) hnl this
  simp![];refine⟨.inr ?_,?_⟩
  ·rw[Int.natAbs_natCast]; omega
  have e2:(((L+a:Nat):Int)-(L:Int))*(n:Int)=((n*a:Nat):Int):=by
   have:((L+a:Nat):Int)-(L:Int)=(a:Int):=by exact b2b (.e (.S (.c (.p N0 N1)) (.c N0)) (.c N1))
   rw[this,Int.mul_comm]; simp
  (rw[e2]; refine wq2 ?_)
  simp![];have hna:n*a≤n*ds.length:=Nat.mul_le_mul_left n (by exact a9v (.l N0 N1) (.l (.p N2 (.p N0 N3)) N1) hL)
  have e5:L+(a+b)=L+a+b:=(Nat.add_assoc L a b).symm;rw[e5];refine ih (L+a) b ow _ (by omega) (by omega) (by exact a9v (.l (.p (.p N0 N1) N2) N3) (.l (.p N0 (.p N1 N2)) N3) hL) ?_
  refine⟨⟨_,rfl⟩,?_⟩;simp![];have hsub:∀x∈(ds.drop (L+a)).take b,x<2^n:=fun x hx=>hds x (List.mem_of_mem_drop (List.mem_of_mem_take hx));have hv:=c0e n _ hsub;have hlen:((ds.drop (L+a)).take b).length=b:=by rw[List.length_take,List.length_drop]; exact a9v (.e (.b 2 N0 (.s N1 (.p N2 N3))) N0) (.l (.p N2 (.p N3 N0)) N1) hL
  rw[hlen]at hv;have hle:n*b≤n*ds.length:=Nat.mul_le_mul_left n (by exact a9v (.l N0 N1) (.l (.p N2 (.p N3 N0)) N1) hL)
  have big:(2:Nat)^(n*b)≤2^4000:=Nat.pow_le_pow_right (by decide) (by exact a1m (.l N0 (.k 4000)) (.l N1 (.k 900)) (.l N0 N1) hnl hle)
  refine⟨⟨by exact a3f (.l (.z 0) (.c N0)),by exact a1m (.l (.c N0) (.z 1000)) (.l N1 (.k 900)) (.l N0 N1) hnl hna,by rw[Int.natAbs_natCast]; omega⟩,?_⟩
  refine ih L a ow _ hap (by omega) (by exact a9v (.l (.p N0 N1) N2) (.l (.p N0 (.p N1 N3)) N2) hL) ?_
  refine⟨⟨_,rfl⟩,?_⟩;simp![];have e7:((a8u n ((ds.drop (L+a)).take b):Nat):Int)*2^((n*a:Nat):Int).toNat+((a8u n ((ds.drop L).take a):Nat):Int)=((a8u n ((ds.drop L).take (a+b)):Nat):Int):=by
   have e8:(ds.drop L).take (a+b)=(ds.drop L).take a++(ds.drop (L+a)).take b:=by
    rw[show(ds.drop (L+a))=(ds.drop L).drop a from by rw[List.drop_drop],←List.take_add]
   have e9:((ds.drop L).take a).length=a:=by rw[List.length_take,List.length_drop]; exact a9v (.e (.b 2 N0 (.s N1 N2)) N0) (.l (.p N2 (.p N0 N3)) N1) hL
   rw[e8,b4x,e9,Int.toNat_natCast];rw[Int.add_comm,Int.mul_comm]; rfl
  rw[e7];simpa using hQ
theorem c6o(c:Nat):(List.replicate c [PyData.int 0]).flatten=List.replicate c (.int 0):=by
 induction c with
 |zero=>rfl
 |succ c ih=>rw[List.replicate_succ,List.flatten_cons,ih,List.replicate_succ]; rfl
theorem b9f{m:Nat}(h:m≤900):m<2^4000:=Nat.lt_of_lt_of_le (Nat.lt_two_pow_self (n:=m)) (Nat.pow_le_pow_right (by decide) (by omega))
theorem d7s{n a m c:Nat}{ow:List OV}{Q:V→List OV→Prop}(hn:14≤n)(hm:1≤m)(hc:c=(Builtin.Int.intBits (a:Int)+m-1)/m)(hmc:m*c≤900)(hm9:m≤900)(h:Q (.dat (.list (a5a m a c))) ow) :
  a0y n 3 true [] [.dat (.int a),.dat (.int m)] ow Q:=by
 obtain⟨l,rfl⟩:∃l,n=l+13:=⟨n-13,by exact a0o (.e N0 (.p (.s N0 (.k 13)) (.k 13))) (.l (.k 14) N0) hn⟩
 refine⟨Nat.succ_pos _,rfl,rfl,rfl,rfl,?_⟩;have hc9:c≤900:=Nat.le_trans (by have:=Nat.mul_le_mul_right c hm; exact a1b (.l N0 N1) (.l (.m 0 1 N0) N1) this) hmc
 simp only[c3a];have e1:((Builtin.Int.intBits (a:Int):Int)+(m:Int)-1).fdiv (m:Int)=(c:Int):=by
  rw[Int.fdiv_eq_ediv_of_nonneg _ (by exact a3f (.l (.z 0) (.c N0))),hc]
  have:(Builtin.Int.intBits (a:Int):Int)+(m:Int)-1=((Builtin.Int.intBits (a:Int)+m-1:Nat):Int):=by exact a1b (.e (.S (.P (.c N0) (.c N1)) (.z 1)) (.c (.s (.p N0 N1) O1))) (.l O1 N1) hm
  rw[this]; rfl
 have hw:a<2^(m*c):=by
  refine Nat.lt_of_lt_of_le (b1w a) (Nat.pow_le_pow_right (by decide) ?_)
  have h1:=Nat.div_add_mod (Builtin.Int.intBits (a:Int)+m-1) m;have h2:=Nat.mod_lt (Builtin.Int.intBits (a:Int)+m-1) hm;rw[←hc]at h1;exact b2a (.l N0 N1) (.e (.p N1 N2) (.s (.p N0 N3) O1)) (.t N2 N3) h1 h2
 simp![];refine⟨⟨by exact a0o (.n (.e (.c N0) (.z 0))) (.l O1 N0) hm,by rw[Int.natAbs_natCast]; exact b9f hm9⟩,?_⟩
 rw[e1];refine⟨⟨by exact a3f (.l (.z 0) (.c N0)),by exact a0o (.l (.c N0) (.z 1000000)) (.l N0 (.k 900)) hc9,by simp; omega⟩,?_⟩
 rw[Int.toNat_natCast,c6o];refine⟨ow.length,m,?_⟩;simp![]
 by_cases ha:a=0
 ·subst ha
  have hc0:c=0:=by
   rw[hc]
   have:Builtin.Int.intBits ((0:Nat):Int)=0:=by decide
   rw[this];exact Nat.div_eq_of_lt (by exact a0o (.t (.s (.p (.k 0) N0) O1) N0) (.l O1 N0) hm)
  subst hc0;refine ifn (by decide) ?_
  refine⟨[],by simp,?_⟩
  simpa[a5a]using h
 ·refine ifp (by simpa using ha) ?_
  simp only[a8g];simp![List.getElem?_append_right (Nat.le_refl ow.length),Nat.sub_self];refine⟨by simp; omega,fun u hu=>?_,?_⟩
  ·simp at hu; rcases hu with rfl|rfl|rfl <;> exact⟨_,rfl⟩
  have hlen:(List.replicate c (PyData.int 0)).length=c:=by simp
  have hcp:1≤c:=by
   rcases Nat.eq_zero_or_pos c with h0|h0
   ·subst h0; simp at hw; exact lc2 1 [_] [] (.l O1 (.k 0)) (.n (.e N0 (.k 0))) (.e N0 (.k 0)) ha hw
   ·exact h0
  have h10:(2:Nat)^10≤2^(l+10):=Nat.pow_le_pow_right (by decide) (by omega)
  have:=d0b (tk:=a0i) (hz:=true) (j:=ow.length) (n:=m) (l+10) a 0 c (List.replicate c (.int 0)) (ow++[.lst (List.replicate c (.int 0))]) (fun _ ow'=>∃l',ow'[ow.length]?=some (.lst l')∧Q (.dat (.list l')) (List.take ow.length (ow'.set ow.length (.froz l')))) hcp (by exact a1m (.l N0 N1) (.l N0 (.k 900)) (.l (.k (Nat.pow 2 10)) N1) hc9 h10) hw (by simp) (by simp; omega) hmc (by simp) ⟨a5a m a c,by simp,by simpa using h⟩
  have e4:i2dLs.length=4:=rfl;rw[e4];simpa using this
theorem b2p{body:e1l→St→(Fl→St→Prop)→Prop}(I:List e1l→St→Prop)(hs:∀d r st K,I (d::r) st→(∀st',I r st'→K .next st')→body d st K):∀(ds:List e1l) (st:St) (K:Fl→St→Prop),I ds st→(∀st',I [] st'→K .next st')→a6f body ds st K
 |[]=>fun st K h hk=>hk st h
 |d::ds=>fun st K h hk=>hs d ds st _ h fun st' h'=>b2p I hs ds st' K h' hk
theorem d6g{n m:Nat}{ds:List Nat}{ow:List OV}{Q:V→List OV→Prop}(hn:14≤n)(hds:∀d∈ds,d<2^m)(hl:ds.length≤900)(hml:m*ds.length≤900)(h:Q (.dat (.int (a8u m ds:Nat))) ow) :
  a0y n 4 true [] [.dat (.list (a0c ds)),.dat (.int m)] ow Q:=by
 obtain⟨l,rfl⟩:∃l,n=l+13:=⟨n-13,by exact a0o (.e N0 (.p (.s N0 (.k 13)) (.k 13))) (.l (.k 14) N0) hn⟩
 refine⟨Nat.succ_pos _,rfl,rfl,rfl,rfl,?_⟩;refine⟨a0c ds,m,?_⟩;have hle:(a0c ds).length=ds.length:=by simp[a0c]
 simp![];refine⟨by exact a1m (.l N0 (.k 1000000)) (.l N1 (.k 900)) (.e N0 N1) hl hle,?_⟩
 by_cases h0:ds=[]
 ·subst h0
  refine ifn (by simp[a0c]) ?_
  (dsimp only[a8u]at h; simpa using h)
 ·have hp:0<ds.length:=List.length_pos_iff.mpr h0
  refine ifp (by simp[a0c,h0]) ?_
  simp only[a8h];simp![];refine⟨by exact a1m (.l N0 (.k 1000000)) (.l N1 (.k 900)) (.e N0 N1) hl hle,fun u hu=>?_,?_⟩
  ·simp at hu; rcases hu with rfl|rfl <;> exact⟨_,rfl⟩
  have h10:(2:Nat)^10≤2^(l+10):=Nat.pow_le_pow_right (by decide) (by omega)
  have:=d0h (tk:=a0i) (hz:=true) (n:=m) hds (by omega) hml (l+10) 0 ds.length ow (fun v ow'=>∃d,v=.dat d∧Q (.dat d) (List.take ow.length ow')) hp (by exact a1m (.l N0 N1) (.l N0 (.k 900)) (.l (.k (Nat.pow 2 10)) N1) hl h10) (by exact a3f (.l (.p (.k 0) N0) N0)) ⟨_,rfl,by simpa using h⟩
  rw[hle];have e4:d2iLs.length=2:=rfl;rw[e4];simpa using this
theorem c2g(m a k:Nat):(a5a m a (k+1)).reverse=.int ((a/2^(m*k)%2^m:Nat):Int)::(a5a m a k).reverse:=by
 simp[a5a,List.range_succ]
theorem a0w(a b:List Nat):a0c (a++b)=a0c a++a0c b:=by simp[a0c]
theorem b1x(a:List Nat):(a0c a).reverse=a0c a.reverse:=by simp[a0c]
theorem intsL_length(a:List Nat):(a0c a).length=a.length:=by simp[a0c]
theorem a0u(a b:Nat):Int.fdiv (a:Int) (b:Int)=((a/b:Nat):Int):=by
 rw[Int.fdiv_eq_ediv_of_nonneg _ (Int.natCast_nonneg b)]; rfl
theorem a0p(a b:Nat):Int.fmod (a:Int) (b:Int)=((a%b:Nat):Int):=by
 rw[Int.fmod_eq_emod_of_nonneg _ (Int.natCast_nonneg b)]; rfl
inductive DI(m a b c:Nat)(ow:List OV):List e1l→St→Prop
 |mk {rest} (k r:Nat) (qs:List Nat) (v1 v2:V):k≤c→rest=(a5a m a k).reverse→r=a/2^(m*k)%b→a8u m qs.reverse=a/2^(m*k)/b→(∀d∈qs,d<2^m)→qs.length+k=c→DI m a b c ow rest ⟨[.dat (.int a),.dat (.int b),.dat (.int m),.dat (.list (a5a m a c)),.dat (.int (r:Int)),.own ow.length,v1,v2,.undef],ow++[.lst (a0c qs)],true⟩
theorem b3y{n a b:Nat}{ow:List OV}{Q:V→List OV→Prop}(hn:15≤n)(ha:a<2^400)(hb:b<2^400)(hb0:0<b)
 (h:Q (.dat (.tuple [.int (a/b:Nat),.int (a%b:Nat)])) ow):a0y n 5 true [] [.dat (.int a),.dat (.int b)] ow Q:=by
 obtain⟨l,rfl⟩:∃l,n=l+15:=⟨n-15,by omega⟩
 refine⟨Nat.succ_pos _,fun _=>rfl,rfl,rfl,?_⟩
 replace ha:=b1o ha
 replace hb:=b1o hb
 generalize hm:Builtin.Int.intBits (b:Int)=m at hb;have hbm:b<2^m:=by rw[←hm]; exact b1w b
 have hm1:1≤m:=by
  rcases Nat.eq_zero_or_pos m with h0|h0
  ·subst h0; simp at hbm; exact lc2 1 [_] [] (.l O1 (.k 0)) (.t (.k 0) N0) (.e N0 (.k 0)) hb0 hbm
  ·exact h0
 generalize hc:(Builtin.Int.intBits (a:Int)+m-1)/m=c;have hmc:m*c≤800:=by
  have:=Nat.mul_div_le (Builtin.Int.intBits (a:Int)+m-1) m
  rw[hc]at this; exact lc3 3 [_,_,_] [] (.l N0 (.k 800)) (.l N1 (.k 400)) (.l N2 (.k 400)) (.l N0 (.s (.p N1 N2) O1)) ha hb this
 have hw:a<2^(m*c):=by
  refine Nat.lt_of_lt_of_le (b1w a) (Nat.pow_le_pow_right (by decide) ?_)
  have h1:=Nat.div_add_mod (Builtin.Int.intBits (a:Int)+m-1) m;have h2:=Nat.mod_lt (Builtin.Int.intBits (a:Int)+m-1) hm1;rw[hc]at h1;exact b2a (.l N0 N1) (.e (.p N1 N2) (.s (.p N0 N3) O1)) (.t N2 N3) h1 h2
 refine wq2 ?_;simp![]
 (rw[hm]; refine wq2 ?_)
 simp![];refine d7s (by omega) hm1 (by rw[hc]) (by omega) (by omega) ⟨⟨_,rfl⟩,?_⟩
 refine wq2 ?_;simp![];refine wq2 ?_;simp![];refine wq2 ?_;simp![];have hc9:c≤800:=Nat.le_trans (by have:=Nat.mul_le_mul_right c hm1; exact a1b (.l N0 N1) (.l (.m 0 1 N0) N1) this) hmc
 refine b2p (DI m a b c ow) ?_ _ _ _ ⟨c,0,[],.undef,.undef,Nat.le_refl _,rfl,?_,?_,by simp,by simp⟩ ?_
 ·rintro d rest st K ⟨k,r,qs,v1,v2,hk,hr,hrr,hv,hq,hql⟩ hK
  obtain⟨k,rfl⟩:∃k',k=k'+1:=by
   cases k with
   |zero=>simp[a5a]at hr
   |succ k=>exact⟨k,rfl⟩
  rw[c2g]at hr;obtain⟨rfl,rfl⟩:=List.cons.inj hr;generalize hf:a/2^(m*k)%2^m=f;have hf2:f<2^m:=by rw[←hf]; exact Nat.mod_lt _ (Nat.pow_pos (by decide))
  have hstep:a/2^(m*k)=a/2^(m*(k+1))*2^m+f:=by
   rw[←hf,Nat.mul_succ,Nat.pow_add,←Nat.div_div_eq_div_mul]
   have:=Nat.div_add_mod (a/2^(m*k)) (2^m)
   rw[Nat.mul_comm]at this; exact this.symm
  have hrb:r<b:=by rw[hrr]; exact Nat.mod_lt _ hb0
  have hnum:r*2^m+f<b*2^m:=by
   have:r*2^m+2^m≤b*2^m:=by rw[←Nat.succ_mul]; exact Nat.mul_le_mul_right _ hrb
   exact b2a (.t (.p N0 N1) N2) (.t N1 N3) (.l (.p N0 N3) N2) hf2 this
  have hbig:(2:Nat)^400≤2^4000:=Nat.pow_le_pow_right (by decide) (by decide)
  have hb4:b<2^400:=Nat.lt_of_lt_of_le hbm (Nat.pow_le_pow_right (by decide) hb)
  refine wq2 ?_;simp![];refine⟨⟨by exact a3f (.l (.z 0) (.c N0)),by exact a0o (.l (.c N0) (.z 1000)) (.l N0 (.k 400)) hb,by rw[Int.natAbs_natCast]; exact a1m (.t N0 (.k (Nat.pow 2 4000))) (.t N0 N1) (.t N1 (.k (Nat.pow 2 400))) hrb hb4⟩,?_⟩
  have e1:(r:Int)*2^((m:Nat):Int).toNat+(f:Int)=((r*2^m+f:Nat):Int):=by simp
  rw[e1];refine c2r (by omega) ?_ (by exact a0o (.n (.e (.c N0) (.z 0))) (.t (.k 0) N0) hb0) (by rw[Int.natAbs_natCast]; omega) ⟨⟨_,rfl⟩,?_⟩
  ·have:Builtin.Int.intBits ((r*2^m+f:Nat):Int)≤800:=b1o (by
    refine Nat.lt_of_lt_of_le hnum ?_
    have:(2:Nat)^800=2^400*2^400:=by rw[←Nat.pow_add]
    rw[this];exact Nat.mul_le_mul (by omega) (Nat.pow_le_pow_right (by decide) hb))
   exact a1b (.l (.S (.c N0) (.c N1)) (.z 4000)) (.l N0 (.k 800)) this
  simp![];refine wq2 ?_;simp![];simp only[a0u,a0p];refine⟨⟨_,rfl⟩,by rw[intsL_length]; exact a2a (.t N0 (.k 1000000)) (.l N1 (.k 800)) (.e (.p N0 (.p N2 O1)) N1) hc9 hql,?_⟩
  refine hK _ (Eq.mpr (congrArg (DI m a b c ow _) ?_) (.mk k ((r*2^m+f)%b) (qs++[(r*2^m+f)/b]) (.dat (.int (f:Int))) (.dat (.int (((r*2^m+f)/b:Nat):Int))) (by omega) rfl ?_ ?_ ?_ (by simp; exact a2c (.e (.p (.p N0 O1) N1) N2) (.e (.p N0 (.p N1 O1)) N2) hql)))
  ·rw[a0w]; simp[a0c]
  ·rw[hstep,hrr,Nat.add_mod,Nat.mul_mod,Nat.mod_mod,←Nat.mul_mod,←Nat.add_mod]
  ·rw[List.reverse_append]
   (simp only[List.reverse_singleton,List.singleton_append]; dsimp only[a8u])
   rw[hv,hstep,hrr];generalize a/2^(m*(k+1))=A;have e2:A*2^m+f=b*(2^m*(A/b))+(A%b*2^m+f):=by
    have h1:=Nat.div_add_mod A b;generalize A/b=q at *;generalize A%b=r at *;rw[←h1,Nat.add_mul,Nat.add_assoc,Nat.mul_assoc,Nat.mul_comm q]
   rw[e2,Nat.mul_add_div hb0,Nat.add_comm]
  ·intro d hd
   rcases List.mem_append.mp hd with hd|hd
   ·exact hq d hd
   ·rw[List.mem_singleton.mp hd,Nat.div_lt_iff_lt_mul hb0,Nat.mul_comm (2^m) b]; exact hnum
 ·rw[Nat.div_eq_of_lt hw]; simp
 ·rw[Nat.div_eq_of_lt hw]; (simp only[List.reverse_nil,Nat.zero_div]; rfl)
 ·rintro st ⟨k,r,qs,v1,v2,hk,hr,hrr,hv,hq,hql⟩
  have hk0:k=0:=by
   have:=congrArg List.length hr; simpa[a1k]using this.symm
  subst hk0;simp only[Nat.mul_zero,Nat.pow_zero,Nat.div_one]at hrr hv;refine wq2 ?_;simp![];refine⟨by rw[intsL_length]; exact a1m (.l N0 (.k 1000000)) (.l N1 (.k 800)) (.e (.p N0 (.k 0)) N1) hc9 hql,?_⟩
  refine wq2 ?_;simp![];simp only[b1x];have hle2:m*qs.length≤m*c:=Nat.mul_le_mul_left _ (by exact a1b (.l N0 N1) (.e (.p N0 (.k 0)) N1) hql)
  refine d6g (by omega) (fun d hd=>hq d (List.mem_reverse.mp hd)) (by simp; exact a1m (.l N0 (.k 900)) (.l N1 (.k 800)) (.e (.p N0 (.k 0)) N1) hc9 hql) (by simp; omega) ⟨⟨_,rfl⟩,?_⟩
  refine wq2 ?_;simp![];rw[hv,hrr];simpa using h
theorem d1s(a b:Int)(hb:0<b):((-a-1).fdiv b=-(a.fdiv b)-1)∧((-a-1).fmod b=b-a.fmod b-1):=by
 rw[Int.fdiv_eq_ediv_of_nonneg _ (by exact a6c (.l (.z 0) Z0) (.t (.z 0) Z0) hb),Int.fdiv_eq_ediv_of_nonneg _ (by exact a6c (.l (.z 0) Z0) (.t (.z 0) Z0) hb),Int.fmod_eq_emod_of_nonneg _ (by exact a6c (.l (.z 0) Z0) (.t (.z 0) Z0) hb),Int.fmod_eq_emod_of_nonneg _ (by exact a6c (.l (.z 0) Z0) (.t (.z 0) Z0) hb)]
 have h1:=Int.emod_nonneg a (by exact a6c (.n (.e Z0 (.z 0))) (.t (.z 0) Z0) hb:b≠0)
 have h2:=Int.emod_lt_of_pos a hb;have h3:=Int.mul_ediv_add_emod a b;refine(Int.ediv_emod_unique hb).mpr ⟨?_,by exact d7f (.l (.z 0) (.S (.S Z0 Z1) (.z 1))) (.t Z1 Z0) h2,by exact d7f (.t (.S (.S Z0 Z1) (.z 1)) Z0) (.l (.z 0) Z1) h1⟩
 have:b*(-(a/b)-1)=-(b*(a/b))-b:=by rw[Int.mul_sub,Int.mul_neg,Int.mul_one]
 omega
theorem c7p{n:Nat}{a:Int}{b:Nat}{ow:List OV}{Q:V→List OV→Prop}(hn:18≤n)(ha:a.natAbs<2^400)(hb:b<2^400)(hb0:0<b)
 (h:Q (.dat (.tuple [.int (a.fdiv b),.int (a.fmod b)])) ow):a0y n 6 true [] [.dat (.int a),.dat (.int b)] ow Q:=by
 obtain⟨l,rfl⟩:∃l,n=l+18:=⟨n-18,by omega⟩
 have key:∀(k:Nat),16≤k→∀(a:Nat) (Q:V→List OV→Prop),a<2^400→Q (.dat (.tuple [.int (a/b:Nat),.int (a%b:Nat)])) ow→a0y k 6 true [] [.dat (.int a),.dat (.int b)] ow Q:=by
  intro k hk a Q ha h;obtain⟨k,rfl⟩:∃l,k=l+16:=⟨k-16,by omega⟩
  refine⟨Nat.succ_pos _,fun _=>rfl,rfl,rfl,?_⟩;refine wq2 ?_;simp![]
  (refine ifn (by simp; exact a0o (.n (.e N0 (.k 0))) (.t (.k 0) N0) hb0) ?_; refine wq2 ?_)
  simp![]
  (refine ifn (by simp) ?_; refine wq2 ?_)
  simp![]
  (refine ifn (by simp) ?_; refine wq2 ?_)
  simp![];refine b3y (by omega) ha hb hb0 ⟨⟨_,rfl⟩,?_⟩
  simp![];simpa using h
 by_cases hneg:a<0
 ·refine⟨Nat.succ_pos _,fun _=>rfl,rfl,rfl,?_⟩
  dsimp only[L2.int_divmod,L2.int_divmod_nl];refine wq2 ?_;simp![]
  (refine ifn (by simp; exact a0o (.n (.e N0 (.k 0))) (.t (.k 0) N0) hb0) ?_; refine wq2 ?_)
  simp![]
  (refine ifn (by simp) ?_; refine wq2 ?_)
  simp![]
  (refine ifp (by simpa using hneg) ?_; refine wq2 ?_)
  simp![];obtain⟨a',rfl⟩:∃a':Nat,a=-(a':Int)-1:=let⟨m,e⟩:=Int.eq_negSucc_of_lt_zero hneg; ⟨m,e.trans (by rw[Int.negSucc_eq,Int.neg_add]; rfl)⟩
  have e1:Builtin.bitNot (-(a':Int)-1)=(a':Int):=by unfold Builtin.bitNot; omega
  rw[e1];refine key _ (by omega) a' _ (by exact a0o (.t N0 (.k (Nat.pow 2 400))) (.t (.u 1 (.S (.N (.c N0)) (.z 1))) (.k (Nat.pow 2 400))) ha) ⟨⟨_,rfl⟩,?_⟩
  simp![];refine wq2 ?_;simp![];have hd:=d1s (a':Int) b (by exact a0o (.t (.z 0) (.c N0)) (.t (.k 0) N0) hb0)
  have e2:Builtin.bitNot ((a'/b:Nat):Int)=(-(a':Int)-1).fdiv b:=by rw[hd.1,a0u]; unfold Builtin.bitNot; exact a3f (.e (.S (.N (.c N0)) (.z 1)) (.S (.N (.c N0)) (.z 1)))
  have e3:(b:Int)+Builtin.bitNot ((a'%b:Nat):Int)=(-(a':Int)-1).fmod b:=by rw[hd.2,a0p]; unfold Builtin.bitNot; exact b2b (.e (.P (.c N0) (.S (.N (.c N1)) (.z 1))) (.S (.S (.c N0) (.c N1)) (.z 1)))
  rw[e2,e3];simpa using h
 ·obtain⟨a',rfl⟩:=Int.eq_ofNat_of_zero_le (Int.not_lt.mp hneg)
  rw[a0u,a0p]at h;rw[Int.natAbs_natCast]at ha;exact key _ (by omega) a' Q ha h
theorem d5r{n:Nat}{a b:Int}{ow:List OV}{Q:V→List OV→Prop}(hn:19≤n)(ha:a.natAbs<2^400)(hb:b.natAbs<2^400)(hb0:b≠0)
 (h:Q (.dat (.tuple [.int (a.fdiv b),.int (a.fmod b)])) ow):a0y n 6 true [] [.dat (.int a),.dat (.int b)] ow Q:=by
 by_cases hneg:b<0
 ·obtain⟨b',rfl⟩:∃b':Nat,b=-(b':Int):=⟨b.natAbs,by rw[Int.ofNat_natAbs_of_nonpos (Int.le_of_lt hneg),Int.neg_neg]⟩
  obtain⟨l,rfl⟩:∃l,n=l+19:=⟨n-19,by omega⟩
  refine⟨Nat.succ_pos _,fun _=>rfl,rfl,rfl,?_⟩;dsimp only[L2.int_divmod,L2.int_divmod_nl];refine wq2 ?_;simp![]
  (refine ifn (by simp; exact a0o (.n (.e N0 (.k 0))) (.n (.e (.N (.c N0)) (.z 0))) hb0) ?_; refine wq2 ?_)
  simp![]
  (refine ifp (by simpa using hneg) ?_; refine wq2 ?_)
  simp![];rw[Int.neg_neg];refine c7p (by omega) (by rw[Int.natAbs_neg]; exact ha) (by rwa[Int.natAbs_neg,Int.natAbs_natCast]at hb) (by exact a0o (.t (.k 0) N0) (.n (.e (.N (.c N0)) (.z 0))) hb0) ⟨⟨_,rfl⟩,?_⟩
  simp![];refine wq2 ?_;simp![];have e2:a.fdiv (-(b':Int))=(-a).fdiv b':=by rw[←Int.neg_fdiv_neg,Int.neg_neg]
  have e3:a.fmod (-(b':Int))=-((-a).fmod b'):=by
   have h1:=Int.fmod_def a (-(b':Int));have h2:=Int.fmod_def (-a) (b':Int);rw[e2]at h1;rw[h1,h2,Int.neg_mul]; exact lc0 2 [] [_,_] (.e (.S Z0 (.N Z1)) (.N (.S (.N Z0) Z1)))
  rw[e2,e3]at h;simpa using h
 ·obtain⟨b',rfl⟩:=Int.eq_ofNat_of_zero_le (Int.not_lt.mp hneg)
  exact c7p (by omega) ha (by rwa[Int.natAbs_natCast]at hb) (Nat.pos_of_ne_zero fun e=>hb0 (by rw[e]; rfl)) h
theorem c6e{ow:List OV}{k:Nat}{x:OV}(h:ow[k]?=some x):ow.set k x=ow:=by
 obtain⟨h1,h2⟩:=List.getElem?_eq_some_iff.mp h;rw[←h2]; exact List.set_getElem_self _
noncomputable def vi:Nat→List Nat→Nat→Prop
 |_,[],_=>False
 |acc,o::r,v=>o<256∧if o/64%2=1 then vi (acc*64+o%64) r v else r=[]∧acc*64+o%64=v
theorem d6h:∀{os:List Nat} {acc v:Nat},vi acc os v→acc≤v
 |[],_,_,h=>h.elim
 |o::r,acc,v,h=>by
  obtain⟨_,h⟩:=h
  split at h
  ·have:=d6h h; exact a2c (.l N0 N1) (.l (.p (.m 1 64 N0) N2) N1) this
  ·exact a2c (.l N0 N1) (.e (.p (.m 1 64 N0) N2) N1) h.2
theorem c8g(b:Nat):Builtin.bitAnd (b:Int) 63=((b%64:Nat):Int):=by
 unfold Builtin.bitAnd;have h1:decide ((0:Int)≤(b:Int))=true:=by simp
 rw[h1]
 have:b &&& 63=b%64:=Nat.and_two_pow_sub_one_eq_mod b 6
 simp[this]
theorem d9a:∀b<256,b &&& 64=64*(b/64%2):=by decide +kernel
theorem c7z{b:Nat}(h:b<256):Builtin.bitAnd (b:Int) 64=((64*(b/64%2):Nat):Int):=by
 unfold Builtin.bitAnd;have h1:decide ((0:Int)≤(b:Int))=true:=by simp
 rw[h1];simp[d9a b h]
theorem d3k{a b:Nat}:Builtin.bitOr ((a:Int)*2^(6:Int).toNat) ((b%64:Nat):Int)=((a*64+b%64:Nat):Int):=by
 have:(a:Int)*2^(6:Int).toNat=((a*64:Nat):Int):=by simp
 rw[this];exact d3r (s:=6) (by omega) (by omega)
theorem whs{c:St→(Bool→St→Prop)→Prop}{b:St→(Fl→St→Prop)→Prop}{n:Nat}{st:St}{K:Fl→St→Prop}:a4h c b (n+1) st K=c st fun t st=>if t=true then b st (fun f st=>match f with
   |.next=>a4h c b n st K
   |.ret r=>K (.ret r) st)else K .next st:=rfl
theorem wqw{c:St→(Bool→St→Prop)→Prop}{b:St→(Fl→St→Prop)→Prop}{n:Nat}{st:St}{K:Fl→St→Prop}(h:c st fun t st=>if t=true then b st (fun f st=>match f with
 |.next=>a4h c b n st K
 |.ret r=>K (.ret r) st)else K .next st):a4h c b (n+1) st K:=h
theorem c4i{n k v:Nat}{C:St→(Bool→St→Prop)→Prop}{B:St→(Fl→St→Prop)→Prop}(hC:∀st K,C st K=wpT (a0y n) (.bin .band (.var 1) (.int 64)) st K)(hB:∀st K,B st K=a1f (a0y n) a0i (.cons (.aug 2 .shl (.int 6)) (.cons (.assign 1 (.next 0)) (.cons (.aug 2 .bor (.bin .band (.var 1) (.int 63))) .nil))) st K)(hv:v<2^400){rest:List e1l}{K:Fl→St→Prop}:∀(r:List Nat) (ow:List OV) (b acc fuel:Nat),r.length<fuel→(if b/64%2=1 then vi acc r v else r=[]∧acc=v)→b<256→
  ow[k]?=some (.iter (a0c r++rest))→(∀b',K .next ⟨[.own k,.dat (.int b'),.dat (.int v)],ow.set k (.iter rest),true⟩)→
  a4h C B fuel ⟨[.own k,.dat (.int b),.dat (.int acc)],ow,true⟩ K:=by
 intro r
 induction r with
 |nil=>
  intro ow b acc fuel hf hvi hb hk hK;obtain⟨fuel,rfl⟩:∃f,fuel=f+1:=⟨fuel-1,by simp at hf; exact a0o (.e N0 (.p (.s N0 O1) O1)) (.t (.k 0) N0) hf⟩
  split at hvi
  ·exact hvi.elim
  ·rename_i h1
   (refine wqw ?_; rw[hC])
   simp![]
   (rw[c7z hb]; refine ifn (by simp; omega) ?_)
   rw[hvi.2]
   have:=hK b
   rwa[c6e (by simpa[a0c]using hk)]at this
 |cons o r ih=>
  intro ow b acc fuel hf hvi hb hk hK;obtain⟨fuel,rfl⟩:∃f,fuel=f+1:=⟨fuel-1,by simp at hf; exact a1b (.e N0 (.p (.s N0 O1) O1)) (.t (.p N1 O1) N0) hf⟩
  rw[List.length_cons]at hf
  split at hvi
  ·rename_i h1
   (refine wqw ?_; rw[hC])
   simp![]
   (rw[c7z hb]; refine ifp (by simp; omega) ?_; rw[hB])
   have hav:acc≤v:=d6h hvi;have hbig:(2:Nat)^400≤2^4000:=Nat.pow_le_pow_right (by decide) (by decide)
   refine wq2 ?_;simp![];refine⟨⟨by omega,by omega,by rw[Int.natAbs_natCast]; exact Nat.lt_of_lt_of_le (Nat.lt_of_le_of_lt hav hv) hbig⟩,?_⟩
   have hk':ow[k]?=some (.iter (.int (o:Int)::(a0c r++rest))):=hk;refine wq2 ?_;simp![hk'];refine wq2 ?_;simp![];refine wq1 ?_;obtain⟨ho,hvi⟩:=hvi;rw[c8g,d3k];have hkl:k<ow.length:=(List.getElem?_eq_some_iff.mp hk).1;refine ih (ow.set k (.iter (a0c r++rest))) o (acc*64+o%64) fuel (by exact a1b (.t N0 N1) (.t (.p N0 O1) (.p N1 O1)) hf) ?_ ho (by simp[hkl]) fun b'=>?_
   ·exact hvi
   ·have:=hK b'
    rwa[List.set_set]
  ·exact absurd hvi.1 (by simp)
theorem b7n{n k v:Nat}{os:List Nat}{ow:List OV}{rest:List e1l}{Q:V→List OV→Prop}(hn:2≤n)(hv:v<2^400)(ho:vi 0 os v)(hk:ow[k]?=some (.iter (a0c os++rest)))(h:Q (.dat (.int v)) (ow.set k (.iter rest))) :
  a0y n 8 true [] [.own k] ow Q:=by
 obtain⟨l,rfl⟩:∃m,n=m+2:=⟨n-2,by omega⟩
 refine⟨Nat.succ_pos _,fun _=>rfl,rfl,rfl,?_⟩
 match os,ho with
 |o::r,ho=>
  obtain⟨h1,h2⟩:=ho;have hk':ow[k]?=some (.iter (.int (o:Int)::(a0c r++rest))):=hk;have hkl:k<ow.length:=(List.getElem?_eq_some_iff.mp hk).1;refine wq2 ?_;simp![hk'];refine wq2 ?_;simp![];refine wq2 ?_;refine Exists.intro (r.length+1) ?_;rw[c8g];refine c4i (rest:=rest) (fun _ _=>rfl) (fun _ _=>rfl) hv r _ o (o%64) _ (Nat.lt_succ_self _) ?_ h1 (by simp[hkl]) fun b'=>?_
  ·simpa only[Nat.zero_mul,Nat.zero_add]using h2
  ·refine wq2 ?_
   simp![];have e:(List.take ow.length ((ow.set k (.iter (a0c r++rest))).set k (.iter rest)))=ow.set k (.iter rest):=by
    rw[List.set_set,List.take_of_length_le (by simp)]
   rw[e];exact h
noncomputable def mk(l:List Nat):Str:=⟨l.toArray⟩
theorem mk_length(l:List Nat):(mk l).length=l.length:=by simp[mk,Str.length]
theorem a1i(l:List Nat):(mk l).cps.toList=l:=by simp[mk]
theorem d3e{a b:List Nat}(h:mk a=mk b):a=b:=by rw[←a1i a,h,a1i]
theorem mk_append(a b:List Nat):mk a++mk b=mk (a++b):=by
 apply Str.ext';apply Array.toList_inj.mp;simp[mk,Str.cps_append]
theorem mk_beq(a b:List Nat):(mk a==mk b)=(a==b):=by
 rw[Bool.eq_iff_iff,beq_iff_eq,beq_iff_eq];exact⟨d3e,fun h=>by rw[h]⟩
noncomputable def a8i(t p:List Nat)(hi i:Nat):Bool:=decide (i+p.length≤hi)&&((t.drop i).take p.length==p)
theorem at_iff{t p:List Nat}{hi i:Nat}:StrLaws.At (mk t) (mk p) hi i ↔ a8i t p hi i=true:=by
 unfold StrLaws.At a8i;rw[StrLaws.subAt_eq,a1i,a1i,mk_length,Bool.and_eq_true,decide_eq_true_eq]
theorem c4s(t p:List Nat)(a b:Nat):b8g (mk t) (mk p) (a:Int) (b:Int)=match (List.range' a (b+1-a)).find? (a8i t p b)with|some i=>(i:Int)|none=>-1:=by
 unfold b8g;rw[Int.toNat_natCast,Int.toNat_natCast,StrLaws.occ_eq]
 rcases StrLaws.occ_first (mk t) (mk p) b 1 (Nat.le_refl 1) (List.range' a (b+1-a)) a (fun i hi=>by simp[List.mem_range']at hi; omega)with⟨h0,hn⟩|⟨pre,i,post,e,h0,ha,hn⟩
 ·rw[h0]
  have:(List.range' a (b+1-a)).find? (a8i t p b)=none:=by
   rw[List.find?_eq_none];intro i hi h;exact hn i hi (at_iff.mpr h)
  rw[this]
 ·have:(List.range' a (b+1-a)).find? (a8i t p b)=some i:=by
   rw[e,List.find?_append,List.find?_eq_none.mpr (fun j hj h=>hn j hj (at_iff.mpr h)),List.find?_cons_of_pos (at_iff.mp ha)]
   rfl
  rw[this];rw[←Array.getElem?_toList]at h0;split
  ·rename_i j r ej
   rw[ej]at h0;simp at h0;rw[h0]
  ·rename_i ej
   rw[ej]at h0;simp at h0
theorem c1j(t p:List Nat):Txt.startswith (mk t) (mk p)=(t.take p.length==p):=by
 unfold Txt.startswith;rw[StrLaws.subAt_eq,a1i,a1i,mk_length,mk_length,List.drop_zero]
 by_cases h:p.length≤t.length
 ·rw[decide_eq_true (by exact a1b (.l (.p (.k 0) N0) N1) (.l N0 N1) h),Bool.true_and]
 ·rw[decide_eq_false (by exact a1b (.n (.l (.p (.k 0) N0) N1)) (.n (.l N0 N1)) h),Bool.false_and]
  symm
  rw[beq_eq_false_iff_ne];intro e
  have:=congrArg List.length e
  rw[List.length_take]at this; exact a1m .f (.n (.l N0 N1)) (.e (.b 2 N0 N1) N0) h this
theorem c9i(t p:List Nat):Txt.endswith (mk t) (mk p)=(decide (p.length≤t.length)&&(t.drop (t.length-p.length)==p)):=by
 unfold Txt.endswith;rw[StrLaws.subAt_eq,a1i,a1i,mk_length,mk_length,Nat.zero_add]
 by_cases h:p.length≤t.length
 ·rw[List.take_of_length_le (by simp; exact b2b (.l N0 (.p N1 (.s N0 N1))))]
 ·rw[decide_eq_false h,Bool.false_and,Bool.false_and]
theorem a3z(t p:List Nat):Txt.contains (mk t) (mk p)=true ↔ ∃i,a8i t p t.length i=true:=by
 unfold Txt.contains;rw[StrLaws.found_iff]
 have:(mk t).length=t.length:=mk_length t
 rw[this];exact⟨fun⟨i,h⟩=>⟨i,at_iff.mp h⟩,fun⟨i,h⟩=>⟨i,at_iff.mpr h⟩⟩
noncomputable def jn(sep:List Nat):List (List Nat)→List Nat
 |[]=>[]
 |[p]=>p
 |p::q::r=>p++(sep++jn sep (q::r))
theorem a7v(l:List Nat)(a b:Nat):Builtin.Str.strSub (mk l) a b=mk ((l.drop a).take (b-a)):=by
 apply Str.ext';apply Array.toList_inj.mp;rw[StrLaws.strSub_toList,a1i];simp[mk]
theorem b7u{L:List Nat}{c k:Nat}(hk:1≤k):∀(ps:List (List Nat)) (a f:Nat) (cuts:List Nat),a≤L.length→L.drop a=jn (List.replicate k c) ps→ps≠[]→(∀p∈ps,c∉p)→StrLaws.ChainG (mk L) (mk (List.replicate k c)) L.length a cuts f→
  (∀i,f≤i→¬StrLaws.At (mk L) (mk (List.replicate k c)) L.length i)→StrLaws.partsFrom (mk L) k a cuts=ps.map mk
 |[]=>fun _ _ _ _ _ h _ _ _=>absurd rfl h
 |[p]=>fun a f cuts hal hd _ hp hch hno=>by
  have hpc:=hp p (.head _)
  match cuts,hch with
  |[],hch=>
   simp only[StrLaws.partsFrom,List.map_cons,List.map_nil,a7v,mk_length,hd,jn];rw[List.take_of_length_le]
   have:=congrArg List.length hd
   simp[jn]at this; exact a2c (.l N0 (.s N1 N2)) (.e (.s N1 N2) N0) this
  |i::r,hch=>
   exfalso;obtain⟨h1,h2,_⟩:=hch;rw[at_iff,a8i,Bool.and_eq_true,decide_eq_true_eq,beq_iff_eq,List.length_replicate]at h2
   have:(L.drop i).take k=(p.drop (i-a)).take k:=by
    rw[show i=a+(i-a) from by exact a1b (.e N0 (.p N1 (.s N0 N1))) (.l N1 N0) h1,←List.drop_drop,hd]; simp[jn]
   rw[this]at h2;have hm:c∈(p.drop (i-a)).take k:=by rw[h2.2]; simp; exact a0o (.n (.e N0 (.k 0))) (.l O1 N0) hk
   exact hpc (List.mem_of_mem_drop (List.mem_of_mem_take hm))
 |p::q::r=>fun a f cuts hal hd _ hp hch hno=>by
  have hpc:=hp p (.head _);have hat:StrLaws.At (mk L) (mk (List.replicate k c)) L.length (a+p.length):=by
   have hlen:=congrArg List.length hd;simp only[jn,List.length_append,List.length_drop,List.length_replicate]at hlen;rw[at_iff,a8i,Bool.and_eq_true,decide_eq_true_eq,beq_iff_eq,List.length_replicate,←List.drop_drop,hd];refine⟨by exact lc2 5 [_,_,_,_,_] [] (.l (.p (.p N0 N1) N2) N3) (.l O1 N2) (.e (.s N3 N0) (.p N1 (.p N2 N4))) hk hlen,?_⟩
   simp only[jn];rw[List.drop_append_of_le_length (Nat.le_refl _),List.drop_length,List.nil_append,List.take_append_of_le_length (by simp),List.take_of_length_le (by simp)]
  match cuts,hch with
  |[],hch=>
   have e:f=a:=hch;exact absurd hat (hno _ (by exact a2c (.l N0 (.p N1 N2)) (.e N0 N1) e))
  |i::cs,hch=>
   obtain⟨h1,h2,h3,h4⟩:=hch;have hi:i=a+p.length:=by
    rcases Nat.lt_trichotomy i (a+p.length)with h|h|h
    ·exfalso
     rw[at_iff,a8i,Bool.and_eq_true,decide_eq_true_eq,beq_iff_eq,List.length_replicate]at h2;have e1:(L.drop i)[0]?=some c:=by
      have:((L.drop i).take k)[0]?=some c:=by rw[h2.2,List.getElem?_replicate,if_pos (by omega)]
      rwa[List.getElem?_take_of_lt (by omega)]at this
     rw[show i=a+(i-a) from by exact a1b (.e N0 (.p N1 (.s N0 N1))) (.l N1 N0) h1,←List.drop_drop,hd,List.getElem?_drop]at e1
     simp only[jn,Nat.add_zero]at e1;rw[List.getElem?_append_left (by exact a2a (.t (.s N0 N1) N2) (.l N1 N0) (.t N0 (.p N1 N2)) h1 h)]at e1
     exact hpc (List.mem_of_getElem? e1)
    ·exact h
    ·exact absurd hat (h3 _ (by exact b2b (.l N0 (.p N0 N1))) h)
   subst hi;rw[mk_length,List.length_replicate]at h4;have hd2:L.drop (a+p.length+k)=jn (List.replicate k c) (q::r):=by
    rw[Nat.add_assoc,←List.drop_drop,hd];simp only[jn];rw[←List.drop_drop,List.drop_append_of_le_length (Nat.le_refl _),List.drop_length,List.nil_append,List.drop_append_of_le_length (by simp)]
    simp
   rw[at_iff,a8i,Bool.and_eq_true,decide_eq_true_eq,List.length_replicate]at h2;have ih:=b7u hk (q::r) (a+p.length+k) f cs (by omega) hd2 (by simp) (fun x hx=>hp x (.tail _ hx)) h4 hno
   simp only[StrLaws.partsFrom,ih,List.map_cons,a7v,hd,jn];rw[Nat.add_sub_cancel_left,List.take_append_of_le_length (Nat.le_refl _),List.take_length]
theorem b7o{c k:Nat}(hk:1≤k)(hc:c<256){ps:List (List Nat)}(h0:ps≠[])(hp:∀p∈ps,c∉p):Txt.split (mk (jn (List.replicate k c) ps)) (mk (List.replicate k c))=ps.map mk:=by
 generalize hL:jn (List.replicate k c) ps=L;obtain⟨f,hG,hn⟩:=StrLaws.occ_tight (mk L) (mk (List.replicate k c)) (by rw[mk_length]; simpa using hk)
 rw[mk_length]at hG hn;have key:=b7u hk ps 0 f _ (Nat.zero_le _) (by rw[List.drop_zero,hL]) h0 hp hG hn
 have hkind:Builtin.Str.strKind (mk (List.replicate k c))=1:=by
  unfold Builtin.Str.strKind;rw[if_pos];rw[←Array.all_toList,a1i,List.all_eq_true];intro x hx;rw[List.eq_of_mem_replicate hx]; exact decide_eq_true hc
 have hkind2:1≤Builtin.Str.strKind (mk L):=by
  unfold Builtin.Str.strKind;split
  ·omega
  ·split <;> (first|exact c5u (.l O1 (.k 2))|exact c5u (.l O1 (.k 4))|omega)
 have none:Builtin.Str.occurrences (mk L) (mk (List.replicate k c)) 0 L.length (L.length+1)=[]→[mk L]=ps.map mk:=fun h=>by
  rw[h]at key;rw[←key];simp only[StrLaws.partsFrom,a7v,mk_length];simp
 unfold Txt.split;rw[mk_length];split
 ·rename_i h1
  rw[hkind]at h1;refine none ?_;cases ho:Builtin.Str.occurrences (mk L) (mk (List.replicate k c)) 0 L.length (L.length+1)with
  |nil=>rfl
  |cons i r=>
   rw[ho]at hG
   have:=hG.2.1.1
   simp only[Bool.or_eq_true,decide_eq_true_eq]at h1;omega
 ·split
  ·rename_i h2
   exact none (List.isEmpty_iff.mp h2)
  ·rw[StrLaws.partsBetween_eq,mk_length,List.length_replicate]
   exact key
theorem b5k{c k:Nat}(hk:1≤k):∀{ps:List (List Nat)},(∀p∈ps,c∉p)→Txt.contains (mk (jn (List.replicate k c) ps)) (mk (List.replicate k c))=decide (2≤ps.length)
 |[]=>fun _=>by
  rw[Bool.eq_iff_iff,a3z,decide_eq_true_eq];refine⟨fun⟨i,h⟩=>?_,fun h=>by simp at h⟩
  simp[a8i,jn]at h; exact a2a (.l (.k 2) N0) (.l O1 N1) (.a (.e N2 (.k 0)) (.e N1 (.k 0))) hk h
 |[p]=>fun hp=>by
  rw[Bool.eq_iff_iff,a3z,decide_eq_true_eq];refine⟨fun⟨i,h⟩=>?_,fun h=>by simp at h⟩
  exfalso;rw[a8i,Bool.and_eq_true,decide_eq_true_eq,beq_iff_eq,List.length_replicate]at h;have hm:c∈(p.drop i).take k:=by
   have:=h.2; simp only[jn]at this; rw[this]; simp; exact a0o (.n (.e N0 (.k 0))) (.l O1 N0) hk
  exact hp p (.head _) (List.mem_of_mem_drop (List.mem_of_mem_take hm))
 |p::q::r=>fun hp=>by
  rw[Bool.eq_iff_iff,a3z,decide_eq_true_eq];refine⟨fun _=>by simp,fun _=>⟨p.length,?_⟩⟩
  rw[a8i,Bool.and_eq_true,decide_eq_true_eq,beq_iff_eq,List.length_replicate];simp only[jn,List.length_append,List.length_replicate];refine⟨by exact lc0 3 [_,_,_] [] (.l (.p N0 N1) (.p N0 (.p N1 N2))),?_⟩
  rw[List.drop_append_of_le_length (Nat.le_refl _),List.drop_length,List.nil_append,List.take_append_of_le_length (by simp),List.take_of_length_le (by simp)]
noncomputable def hdE(t E:List Nat):Nat:=E.headD (t.length+1)
noncomputable def a3a(t E p:List Nat):List Nat:=(List.range' (hdE t E+p.length) (t.length+1-(hdE t E+p.length))).filter fun e=>(t.take e).drop (e-p.length)==p
noncomputable def a4z(ps:List (List Nat))(t:List Nat):Bool:=match ps with
 |[]=>false
 |p::r=>(r.foldl (a3a t) (if t.take p.length==p then[p.length]else[])).contains t.length
noncomputable def a3u(t:List Nat)(e:Nat):Nat→List (List Nat)→Bool
 |_,[]=>true
 |s,w::ws=>match (List.range' s (e+1-s)).find? (a8i t w e)with
  |some i=>a3u t e (i+w.length) ws
  |none=>false
theorem mat{t p:List Nat}{e:Nat}(he:e≤t.length)(hp:p.length≤e):((t.take e).drop (e-p.length)==p)=((t.drop (e-p.length)).take p.length==p):=by
 rw[List.drop_take,show e-(e-p.length)=p.length from by exact a1b (.e (.s N0 (.s N0 N1)) N1) (.l N1 N0) hp]
theorem rng{s e T:Nat}(h:s≤e∧e<s+(T+1-s)):s≤e∧e≤T:=by exact a2c (.a (.l N0 N1) (.l N1 N2)) (.a (.l N0 N1) (.t N1 (.p N0 (.s (.p N2 O1) N0)))) h
theorem e1h{s e T:Nat}(h:s≤e)(h2:e≤T):s≤e∧e<s+(T+1-s):=by exact a2a (.a (.l N0 N1) (.t N1 (.p N0 (.s (.p N2 O1) N0)))) (.l N0 N1) (.l N1 N2) h h2
theorem a6b(t E p:List Nat):(∃j,hdE t E≤j∧j+p.length≤t.length∧hdE t (a3a t E p)=j+p.length∧(t.drop j).take p.length=p∧∀i,hdE t E≤i→i<j→¬(t.drop i).take p.length=p) ∨
  (hdE t (a3a t E p)=t.length+1∧∀i,hdE t E≤i→i+p.length≤t.length→¬(t.drop i).take p.length=p):=by
 generalize hs:hdE t E=s;have hh:hdE t (a3a t E p)=((List.range' (s+p.length) (t.length+1-(s+p.length))).find? fun e=>(t.take e).drop (e-p.length)==p).getD (t.length+1):=by
  conv=>lhs; unfold hdE
  rw[a3a,hs,List.headD_eq_head?_getD,List.head?_filter]
 rw[hh];cases hf:(List.range' (s+p.length) (t.length+1-(s+p.length))).find? fun e=>(t.take e).drop (e-p.length)==p with
 |none=>
  refine .inr ⟨rfl,fun i h1 h2 h3=>?_⟩;rw[List.find?_eq_none]at hf;refine hf (i+p.length) (List.mem_range'_1.mpr (e1h (Nat.add_le_add_right h1 _) h2)) ?_;rw[mat h2 (by exact b2b (.l N0 (.p N1 N0))),Nat.add_sub_cancel,h3,beq_self_eq_true]
 |some e=>
  rw[List.find?_range'_eq_some]at hf;obtain⟨h1,h2,h3⟩:=hf;rw[List.mem_range'_1]at h2
  replace h2:=rng h2
  refine .inl ⟨e-p.length,by exact a9v (.l N0 (.s N1 N2)) (.a (.l (.p N0 N2) N1) (.l N1 N3)) h2,by exact a9v (.l (.p (.s N0 N1) N1) N2) (.a (.l (.p N3 N1) N0) (.l N0 N2)) h2,by simp; exact a9v (.e N0 (.p (.s N0 N1) N1)) (.a (.l (.p N2 N1) N0) (.l N0 N3)) h2,?_,fun i hi1 hi2 hi3=>?_⟩
  ·rw[mat (by omega) (by exact a9v (.l N0 N1) (.a (.l (.p N2 N0) N1) (.l N1 N3)) h2),beq_iff_eq]at h1; exact h1
  ·have:=h3 (i+p.length) (by exact a2c (.l (.p N0 N1) (.p N2 N1)) (.l N0 N2) hi1) (by exact a2c (.t (.p N0 N1) N2) (.t N0 (.s N2 N1)) hi2)
   rw[mat (by exact lc2 5 [_,_,_,_,_] [] (.l (.p N0 N1) N2) (.a (.l (.p N3 N1) N4) (.l N4 N2)) (.t N0 (.s N4 N1)) h2 hi2) (by exact b2b (.l N0 (.p N1 N0))),Nat.add_sub_cancel,hi3,beq_self_eq_true]at this
   cases this
theorem d8s(t E p:List Nat):hdE t E≤t.length+1→hdE t E≤hdE t (a3a t E p):=fun h=>by
 rcases a6b t E p with⟨j,h1,_,h3,_⟩|⟨h1,_⟩ <;> (first|exact b2a (.l N0 N1) (.l N0 N2) (.e N1 (.p N2 N3)) h1 h3|exact a2a (.l N0 N1) (.l N0 (.p N2 O1)) (.e N1 (.p N2 O1)) h h1|omega)
theorem last_mem{t E q:List Nat}:(a3a t E q).contains t.length=true ↔ hdE t E+q.length≤t.length∧t.drop (t.length-q.length)=q:=by
 rw[List.contains_iff_mem,a3a,List.mem_filter,List.mem_range'_1,beq_iff_eq,List.take_of_length_le (Nat.le_refl _)];constructor
 ·rintro⟨⟨h1,h2⟩,h3⟩; exact⟨by omega,h3⟩
 ·rintro⟨h1,h3⟩; exact⟨⟨by omega,by exact lc0 3 [_,_,_] [] (.t N0 (.p (.p N1 N2) (.s (.p N0 O1) (.p N1 N2))))⟩,h3⟩
theorem a5n{t q:List Nat}:∀(ms:List (List Nat)) (E:List Nat),t.length<hdE t E+q.length→hdE t E≤t.length+1→((ms++[q]).foldl (a3a t) E).contains t.length=false
 |[]=>fun E h _=>by
  rw[←Bool.not_eq_true,List.nil_append,List.foldl_cons,List.foldl_nil,last_mem]; omega
 |m::ms=>fun E h h2=>by
  rw[List.cons_append,List.foldl_cons]
  have:=d8s t E m h2
  refine a5n ms _ (by exact b2a (.t N0 (.p N1 N2)) (.t N0 (.p N3 N2)) (.l N3 N1) h this) ?_
  rcases a6b t E m with⟨j,h1,_,h3,_⟩|⟨h1,_⟩ <;> (first|exact b2a (.l N0 (.p N1 O1)) (.l (.p N2 N3) N1) (.e N0 (.p N2 N3)) ‹_› h3|exact a1b (.l N0 (.p N1 O1)) (.e N0 (.p N1 O1)) h1|omega)
theorem c1o{t q:List Nat}(ms:List (List Nat))(E:List Nat)(h:((ms++[q]).foldl (a3a t) E).contains t.length=true):q.length≤t.length∧t.drop (t.length-q.length)=q:=by
 rw[List.foldl_append,List.foldl_cons,List.foldl_nil,last_mem]at h;exact⟨by exact a2c (.l N0 N1) (.l (.p N2 N0) N1) h.1,h.2⟩
theorem b0d{t q:List Nat}{e:Nat}(hq:q.length≤t.length)(he:e=t.length-q.length)(hd:t.drop e=q):∀(ms:List (List Nat)) (E:List Nat),hdE t E≤e→a3u t e (hdE t E) ms=((ms++[q]).foldl (a3a t) E).contains t.length
 |[]=>fun E h=>by
  rw[List.nil_append,List.foldl_cons,List.foldl_nil,last_mem.mpr ⟨by exact d2y (.l (.p N0 N1) N2) (.l N1 N2) (.e N3 (.s N2 N1)) (.l N0 N3) hq he h,by rw[←he]; exact hd⟩]; rfl
 |m::ms=>fun E h=>by
  (rw[List.cons_append,List.foldl_cons]; dsimp only[a3u])
  split
  ·rename_i i hf
   rw[List.find?_range'_eq_some]at hf;obtain⟨h1,h2,h3⟩:=hf;rw[List.mem_range'_1]at h2;rw[a8i,Bool.and_eq_true,decide_eq_true_eq,beq_iff_eq]at h1;have hh:hdE t (a3a t E m)=i+m.length:=by
    rcases a6b t E m with⟨j,g1,g2,g3,g4,g5⟩|⟨g1,g2⟩
    ·rcases Nat.lt_trichotomy i j with h|h|h
     ·exact absurd h1.2 (g5 i h2.1 h)
     ·rw[g3,h]
     ·have:=h3 j g1 h
      rw[a8i,decide_eq_true (by exact b2a (.l (.p N0 N1) N2) (.l (.p N3 N1) N2) (.t N0 N3) h1.1 h),g4,beq_self_eq_true]at this
      cases this
    ·exact absurd h1.2 (g2 i h2.1 (by exact lc2 5 [_,_,_,_,_] [] (.l (.p N0 N1) N2) (.e N3 (.s N2 N4)) (.l (.p N0 N1) N3) he h1.1))
   rw[←hh];exact b0d hq he hd ms _ (by exact b2a (.l N0 N1) (.l (.p N2 N3) N1) (.e N0 (.p N2 N3)) h1.1 hh)
  ·rename_i hf
   rw[List.find?_eq_none]at hf
   symm
   refine a5n ms _ ?_ ?_
   ·rcases a6b t E m with⟨j,g1,g2,g3,g4,g5⟩|⟨g1,g2⟩
    ·rcases Nat.lt_or_ge e (j+m.length)with h|h
     ·exact lc3 6 [_,_,_,_,_,_] [] (.t N0 (.p N1 N2)) (.e N3 (.s N0 N2)) (.e N1 (.p N4 N5)) (.t N3 (.p N4 N5)) he g3 h
     ·exact absurd (show a8i t m e j=true from by rw[a8i,decide_eq_true h,g4,beq_self_eq_true]; rfl) (hf j (by rw[List.mem_range'_1]; exact b2a (.a (.l N0 N1) (.t N1 (.p N0 (.s (.p N2 O1) N0)))) (.l N0 N1) (.l (.p N1 N3) N2) g1 h))
    ·exact a2c (.t N0 (.p N1 N2)) (.e N1 (.p N0 O1)) g1
   ·rcases a6b t E m with⟨j,g1,g2,g3,g4,g5⟩|⟨g1,g2⟩ <;> (first|exact b2a (.l N0 (.p N1 O1)) (.l (.p N2 N3) N1) (.e N0 (.p N2 N3)) g2 g3|exact a1b (.l N0 (.p N1 O1)) (.e N0 (.p N1 O1)) g1|omega)
theorem b3f{t:List Nat}{e s:Nat}(h:s≤e)(ws:List (List Nat)):a3u t e s ([]::ws)=a3u t e s ws:=by
 dsimp only[a3u]
 have:(List.range' s (e+1-s)).find? (a8i t [] e)=some s:=by
  rw[List.find?_range'_eq_some];refine⟨by simp[a8i,h],by rw[List.mem_range'_1]; exact a1b (.a (.l N0 N0) (.t N0 (.p N0 (.s (.p N1 O1) N0)))) (.l N0 N1) h,fun j h1 h2=>by omega⟩
 rw[this]; rfl
theorem a9e{t:List Nat}{e:Nat}:∀(ws:List (List Nat)) (s:Nat),s≤e→a3u t e s (ws++[[]])=a3u t e s ws
 |[]=>fun s h=>by rw[List.nil_append,b3f h]
 |w::ws=>fun s h=>by
  (rw[List.cons_append]; dsimp only[a3u])
  split
  ·rename_i i hf
   rw[List.find?_range'_eq_some]at hf;have h1:=hf.1;rw[a8i,Bool.and_eq_true,decide_eq_true_eq]at h1;exact a9e ws _ h1.1
  ·rfl
noncomputable def d2z(t p:List Nat)(ms:List (List Nat))(q:List Nat):Bool:=
 if t.take p.length=p then
  if q.length≤t.length∧t.drop (t.length-q.length)=q then
   if t.length-q.length<p.length then false
   else a3u t (t.length-q.length) p.length ((if p=[]then[[]]else[])++ms++(if q=[]then[[]]else[]))
  else false
 else false
theorem c4k(t p:List Nat)(ms:List (List Nat))(q:List Nat):d2z t p ms q=a4z (p::(ms++[q])) t:=by
 unfold d2z a4z
 by_cases h1:t.take p.length=p
 ·have h1':(t.take p.length==p)=true:=by rw[h1,beq_self_eq_true]
  simp only[if_pos h1,if_pos h1'];have hpl:p.length≤t.length:=by
   have:=congrArg List.length h1; rw[List.length_take]at this; exact a1b (.l N0 N1) (.e (.b 2 N0 N1) N0) this
  by_cases h2:q.length≤t.length∧t.drop (t.length-q.length)=q
  ·rw[if_pos h2]
   by_cases h3:t.length-q.length<p.length
   ·rw[if_pos h3]
    symm
    exact a5n ms _ (by simp[hdE]; exact a2c (.t N0 (.p N1 N2)) (.t (.s N0 N2) N1) h3) (by simp[hdE]; exact a1b (.l N0 (.p N1 O1)) (.l N0 N1) hpl)
   ·rw[if_neg h3]
    have e1:a3u t (t.length-q.length) p.length ((if p=[]then[[]]else[])++ms++(if q=[]then[[]]else[]))=a3u t (t.length-q.length) p.length ms:=by
     have e2:a3u t (t.length-q.length) p.length ((if p=[]then[[]]else[])++ms++(if q=[]then[[]]else[]))=a3u t (t.length-q.length) p.length ((if p=[]then[[]]else[])++ms):=by
      by_cases hq0:q=[]
      ·(rw[if_pos hq0]; rw[a9e _ _ (by omega)])
      ·(rw[if_neg hq0]; rw[List.append_nil])
     rw[e2]
     by_cases hp0:p=[]
     ·rw[if_pos hp0]; exact b3f (by omega) ms
     ·(rw[if_neg hp0]; rw[List.nil_append])
    rw[e1];exact b0d (E:=[p.length]) h2.1 rfl h2.2 ms (by simp[hdE]; omega)
  ·rw[if_neg h2]
   symm
   rw[←Bool.not_eq_true];exact fun h=>h2 (c1o ms _ h)
 ·rw[if_neg h1]
  symm
  have h1':¬(t.take p.length==p)=true:=by rw[beq_iff_eq]; exact h1
  simp only[if_neg h1'];exact a5n ms _ (by simp[hdE]; exact b2b (.t N0 (.p (.p N0 O1) N1))) (by simp[hdE])
theorem c7k(t p:List Nat):(p==t)=a4z [p] t:=by
 show(p==t)=(if (t.take p.length==p)=true then[p.length]else[]).contains t.length
 rw[Bool.eq_iff_iff,beq_iff_eq];constructor
 ·rintro rfl; simp
 ·intro h
  split at h
  ·rename_i h1
   rw[beq_iff_eq]at h1;have h2:t.length=p.length:=by simpa using h
   rw[←h1,←h2,List.take_length]
  ·simp at h
theorem a3o{α:Type}{g:α→e1l}{body:e1l→St→(Fl→St→Prop)→Prop}{K:Fl→St→Prop}(I:List α→St→Prop)(hs:∀a r st (K':Fl→St→Prop),I (a::r) st→(∀st',I r st'→K' .next st')→(∀d st',K (.ret d) st'→K' (.ret d) st')→body (g a) st K'):∀(l:List α) (st:St),I l st→(∀st',I [] st'→K .next st')→a6f body (l.map g) st K
 |[]=>fun st h hk=>hk st h
 |a::l=>fun st h hk=>hs a l st _ h (fun st' h'=>a3o I hs l st' h' hk) fun _ _ h=>h
theorem a5z{α:Type}{g:α→e1l}{body:e1l→St→List e1l→(List e1l→St→Prop)→Prop}{K:List e1l→St→Prop}(f:α→e1l)(I:St→Prop):∀(l:List α) (hs:∀a∈l,∀st acc K,I st→acc.length<1000000→(∀st',I st'→K (acc++[f a]) st')→body (g a) st acc K) (st:St) (acc:List e1l),I st→acc.length+l.length≤1000000→(∀st',I st'→K (acc++l.map f) st')→a1n body (l.map g) st acc K
 |[]=>fun hs st acc h hl hk=>by have:=hk st h; simp at this; exact this
 |d::ds=>fun hs st acc h hl hk=>by
  rw[List.length_cons]at hl;refine hs d (.head _) st acc _ h (by exact a1b (.t N0 (.k 1000000)) (.l (.p N0 (.p N1 O1)) (.k 1000000)) hl) fun st' h'=>?_
  refine a5z f I ds (fun d hd=>hs d (.tail _ hd)) st' (acc++[f d]) h' (by simp; exact a1b (.l (.p (.p N0 O1) N1) (.k 1000000)) (.l (.p N0 (.p N1 O1)) (.k 1000000)) hl) fun st2 h2=>?_
  have:=hk st2 h2
  simpa using this
theorem a6a{α:Type}{g:α→e1l}{body:e1l→St→List e1l→(List e1l→St→Prop)→Prop}{K:List e1l→St→Prop}(p:α→Bool)(f:α→e1l)(I:St→Prop):∀(l:List α) (hs:∀a∈l,∀st acc K,I st→acc.length<1000000→(∀st',I st'→K (if p a then acc++[f a]else acc) st')→body (g a) st acc K) (st:St) (acc:List e1l),I st→acc.length+l.length≤1000000→(∀st',I st'→K (acc++(l.filter p).map f) st')→a1n body (l.map g) st acc K
 |[]=>fun hs st acc h hl hk=>by have:=hk st h; simp at this; exact this
 |d::ds=>fun hs st acc h hl hk=>by
  rw[List.length_cons]at hl;refine hs d (.head _) st acc _ h (by exact a1b (.t N0 (.k 1000000)) (.l (.p N0 (.p N1 O1)) (.k 1000000)) hl) fun st' h'=>?_
  refine a6a p f I ds (fun d hd=>hs d (.tail _ hd)) st' (if p d then acc++[f d]else acc) h' (by cases p d <;> simp <;> (first|exact a1b (.l (.p N0 N1) (.k 1000000)) (.l (.p N0 (.p N1 O1)) (.k 1000000)) hl|exact a1b (.l (.p (.p N0 O1) N1) (.k 1000000)) (.l (.p N0 (.p N1 O1)) (.k 1000000)) hl|omega)) fun st2 h2=>?_
  have:=hk st2 h2
  cases hp:p d <;> simp[hp]at this ⊢ <;> exact this
theorem a3l{α:Type}{g:α→e1l}{body:e1l→St→List e1l→(List e1l→St→Prop)→Prop}{K:List e1l→St→Prop}(f:α→List e1l)(I:St→Prop):∀(l:List α) (hs:∀a∈l,∀st acc K,I st→acc.length+(f a).length≤1000000→(∀st',I st'→K (acc++f a) st')→body (g a) st acc K) (st:St) (acc:List e1l),I st→acc.length+(l.flatMap f).length≤1000000→(∀st',I st'→K (acc++l.flatMap f) st')→a1n body (l.map g) st acc K
 |[]=>fun hs st acc h hl hk=>by have:=hk st h; simp at this; exact this
 |d::ds=>fun hs st acc h hl hk=>by
  rw[List.flatMap_cons,List.length_append]at hl;refine hs d (.head _) st acc _ h (by exact a2c (.l (.p N0 N1) (.k 1000000)) (.l (.p N0 (.p N1 N2)) (.k 1000000)) hl) fun st' h'=>?_
  refine a3l f I ds (fun d hd=>hs d (.tail _ hd)) st' (acc++f d) h' (by rw[List.length_append]; exact a2c (.l (.p (.p N0 N1) N2) (.k 1000000)) (.l (.p N0 (.p N1 N2)) (.k 1000000)) hl) fun st2 h2=>?_
  have:=hk st2 h2
  simpa[List.flatMap_cons]using this
def lpF(Γ:Ctx)(t:T)(g:G):e1l→St→List e1l→(List e1l→St→Prop)→Prop:=fun d st acc K=>bindT t d st fun st=>wpG Γ g st acc K
def d3x(Γ:Ctx)(t:T)(c:E)(g:G):e1l→St→List e1l→(List e1l→St→Prop)→Prop:=fun d st acc K=>bindT t d st fun st=>wpT Γ c st fun b st=>if b=true then wpG Γ g st acc K else K acc st
def lpS(Γ:Ctx)(tk:List (e1l×e1l))(t:T)(b:Ss):e1l→St→(Fl→St→Prop)→Prop:=fun d st K=>bindT t d st fun st=>a1f Γ tk b st K
def lpC(Γ:Ctx)(c:E):St→(Bool→St→Prop)→Prop:=fun st K=>wpT Γ c st K
def lpW(Γ:Ctx)(tk:List (e1l×e1l))(b:Ss):St→(Fl→St→Prop)→Prop:=fun st K=>a1f Γ tk b st K
section
variable {Γ:Ctx} {tk:List (e1l×e1l)}
theorem wpG_elt'{e:E}{st:St}{K:List e1l→St→Prop}:wpG Γ (.elt e) st acc K=wpE Γ e st fun v st=>keepV st v fun d st=>acc.length<1000000∧K (acc++[d]) st:=rfl
theorem wpG_for'{t:T}{it:I}{g:G}{st:St}{K:List e1l→St→Prop}:wpG Γ (.for t it g) st acc K=wpI Γ it st fun ds st=>a1n (lpF Γ t g) ds st acc K:=rfl
theorem wpG_forIf'{t:T}{it:I}{c:E}{g:G}{st:St}{K:List e1l→St→Prop}:wpG Γ (.forIf t it c g) st acc K=wpI Γ it st fun ds st=>a1n (d3x Γ t c g) ds st acc K:=rfl
theorem d7g{t:T}{it:I}{b:Ss}{st:St}{Q:Fl→St→Prop}:wpS Γ tk (.for t it b) st Q=wpI Γ it st fun ds st=>a6f (lpS Γ tk t b) ds st Q:=rfl
theorem wqf{t:T}{it:I}{b:Ss}{st:St}{Q:Fl→St→Prop}(h:wpI Γ it st fun ds st=>a6f (lpS Γ tk t b) ds st Q):wpS Γ tk (.for t it b) st Q:=h
theorem lqF{t:T}{g:G}{st:St}{K:List e1l→St→Prop}(h:bindT t d st fun st=>wpG Γ g st acc K):lpF Γ t g d st acc K:=h
theorem lqS{t:T}{b:Ss}{st:St}{K:Fl→St→Prop}(h:bindT t d st fun st=>a1f Γ tk b st K):lpS Γ tk t b d st K:=h
theorem b8c{c:E}{b:Ss}{st:St}{Q:Fl→St→Prop}:wpS Γ tk (.while c b) st Q=∃n,a4h (lpC Γ c) (lpW Γ tk b) n st Q:=rfl
end
noncomputable def a0m(ps:List (List Nat)):List e1l:=ps.map fun p=>.str (mk p)
theorem strsL_length(ps:List (List Nat)):(a0m ps).length=ps.length:=by simp[a0m]
theorem b7s(a n:Nat):b9w (a:Int) n=a0c (List.range' a n):=by
 unfold b9w a0c;rw[List.range'_eq_map_range,List.map_map];apply List.map_congr_left;intro k _;show PyData.int _=PyData.int _
 congr 1
theorem a1d{n k:Nat}(h:k<n):a2r n (k:Int)=some k:=by unfold a2r; (rw[if_pos (by exact a3f (.l (.z 0) (.c N0)))]; rw[if_pos (by simpa using h)]); simp
theorem c4f{n:Nat}(h:0<n):a2r n 0=some 0:=a1d (k:=0) h
theorem c9x{n:Nat}(h:0<n):a2r n (-1)=some (n-1):=by unfold a2r; (rw[if_neg (by omega)]; rw[if_pos (by exact a0o (.l (.N (.c N0)) (.z (Int.neg 1))) (.t (.k 0) N0) h)]); congr 1; exact a3f (.e (.u 0 (.P (.z (Int.neg 1)) (.c N0))) (.s N0 O1))
theorem cut_to{α:Type}(l:List α)(k:Nat):cut l none (some (k:Int))=l.take k:=by
 unfold cut c4g;simp only[List.drop_zero]
 (rw[if_pos (by exact a3f (.l (.z 0) (.c N0)))]; rw[Int.toNat_natCast])
 rcases Nat.le_total k l.length with h|h
 ·rw[Nat.min_eq_left h]
 ·rw[Nat.min_eq_right h,List.take_of_length_le h,List.take_of_length_le (Nat.le_refl _)]
theorem a6w{α:Type}(l:List α)(k:Nat):cut l (some (k:Int)) none=l.drop k:=by
 unfold cut c4g;simp only[List.take_length]
 (rw[if_pos (by exact a3f (.l (.z 0) (.c N0)))]; rw[Int.toNat_natCast])
 rcases Nat.le_total k l.length with h|h
 ·rw[Nat.min_eq_left h]
 ·rw[Nat.min_eq_right h,List.drop_of_length_le h,List.drop_of_length_le (Nat.le_refl _)]
theorem b7f{α:Type}(l:List α){a b:Nat}(ha:a≤l.length)(hb:b≤l.length):cut l (some (a:Int)) (some (b:Int))=(l.take b).drop a:=by
 unfold cut c4g;simp only
 (rw[if_pos (by exact a3f (.l (.z 0) (.c N0)))]; rw[if_pos (by exact a3f (.l (.z 0) (.c N0)))]; rw[Int.toNat_natCast,Int.toNat_natCast,Nat.min_eq_left ha,Nat.min_eq_left hb])
theorem sl_mk(t:List Nat)(lo hi:Option Int):(⟨(cut (mk t).cps.toList lo hi).toArray⟩:Str)=mk (cut t lo hi):=by rw[a1i]; rfl
def shp(k:Nat)(d:e1l):Prop:=d.canLay0=true∧d.depth≤k
theorem b1r(k:Nat)(i:Int):shp k (.int i):=⟨rfl,Nat.zero_le _⟩
theorem a6u(k:Nat)(b:Bool):shp k (.bool b):=⟨rfl,Nat.zero_le _⟩
theorem d0a(k:Nat){t:List Nat}(h:∀c∈t,c<256):shp k (.str (mk t)):=⟨by
 show PyData.strOk (mk t)=true;unfold PyData.strOk;rw[←Array.all_toList,a1i,List.all_eq_true];intro c hc
 have:=h c hc
 exact decide_eq_true (by exact a0o (.t N0 (.k 1114112)) (.t N0 (.k 256)) this),Nat.zero_le _⟩
theorem a8k{k:Nat}:∀{l:List e1l},(∀d∈l,shp k d)→PyData.canLayAll0 l=true∧PyData.depthAll l≤k
 |[]=>fun _=>⟨rfl,Nat.zero_le _⟩
 |d::r=>fun h=>by
  have h1:=h d (.head _);have h2:=a8k fun x hx=>h x (.tail _ hx);refine⟨?_,?_⟩
  ·show(d.canLay0&&PyData.canLayAll0 r)=true
   rw[h1.1,h2.1]; rfl
  ·exact Nat.max_le.mpr ⟨h1.2,h2.2⟩
theorem a2s{k:Nat}{l:List e1l}(h:∀d∈l,shp k d):shp (k+1) (.list l):=⟨(a8k h).1,Nat.succ_le_succ (a8k h).2⟩
theorem c2s{k:Nat}{l:List e1l}(h:∀d∈l,shp k d):shp (k+1) (.tuple l):=⟨(a8k h).1,Nat.succ_le_succ (a8k h).2⟩
theorem a6o{k m:Nat}(h:shp k d)(hk:k≤m):shp m d:=⟨h.1,Nat.le_trans h.2 hk⟩
theorem b0w(k:Nat):shp (k+1) (.list []):=a2s (by simp)
theorem a1u{k:Nat}{l:List e1l}(h:shp k d)(hr:shp (k+1) (.list l)):shp (k+1) (.list (d::l)):=by
 obtain⟨h1,h2⟩:=hr;have h2':PyData.depthAll l+1≤k+1:=h2;refine⟨?_,?_⟩
 ·show(d.canLay0&&PyData.canLayAll0 l)=true
  rw[h.1,show PyData.canLayAll0 l=true from h1]; rfl
 ·exact Nat.succ_le_succ (Nat.max_le.mpr ⟨h.2,by exact a1b (.l N0 N1) (.l (.p N0 O1) (.p N1 O1)) h2'⟩)
theorem a5c{k:Nat}(h:shp k d)(hk:k≤64):SeqAt.shaped d=true:=by
 unfold SeqAt.shaped;rw[h.1,decide_eq_true (Nat.le_trans h.2 hk)]; rfl
theorem a1x(l:List Nat):SeqAt.shaped (.list (a0c l))=true:=a5c (k:=1) (a2s fun d hd=>by
 obtain⟨i,_,rfl⟩:=List.mem_map.mp hd; exact b1r 0 _) (by omega)
local macro_rules (kind:=Lean.Parser.Tactic.dsimpAutoUnfold)|s=>return qx #[s[4][1]] ("%TsimpAutoUnfold simp! %ToptConfig %null / / %null / %null / %null [ %null " ++ qxm "wpG_elt' wpG_for' wpG_forIf' mk_length sl_mk cut_to mk_beq mk_append strsL_length intsL_length" ++ " , @0 / ] / %null / /")
noncomputable def Ss.tl:Ss→Ss
 |.cons _ r=>r
 |.nil=>.nil
def c6k(t E:List Nat):Prop:=∀e∈E,hdE t E≤e∧e≤t.length
theorem c1g(t E p:List Nat):c6k t (a3a t E p):=fun e he=>by
 rw[a3a,List.mem_filter,List.mem_range'_1]at he;obtain⟨h1,h2⟩:=he
 replace h1:=rng h1
 rw[mat (by omega) (by exact a9v (.l N0 N1) (.a (.l (.p N2 N0) N1) (.l N1 N3)) h1),beq_iff_eq]at h2
 refine⟨?_,by omega⟩
 rcases a6b t E p with⟨j,g1,g2,g3,g4,g5⟩|⟨g1,g2⟩
 ·rcases Nat.lt_or_ge (e-p.length) j with h|h
  ·exact absurd h2 (g5 _ (by exact a9v (.l N0 (.s N1 N2)) (.a (.l (.p N0 N2) N1) (.l N1 N3)) h1) h)
  ·exact lc3 6 [_,_,_,_,_,_] [] (.l N0 N1) (.a (.l (.p N2 N3) N1) (.l N1 N4)) (.e N0 (.p N5 N3)) (.l N5 (.s N1 N3)) h1 g3 h
 ·exact absurd h2 (g2 _ (by exact a9v (.l N0 (.s N1 N2)) (.a (.l (.p N0 N2) N1) (.l N1 N3)) h1) (by exact a9v (.l (.p (.s N0 N1) N1) N2) (.a (.l (.p N3 N1) N0) (.l N0 N2)) h1))
theorem b2g(N:Nat):∀(E:List Nat),b8h (a0c E++[.int (N:Int)])=some ((E.foldr min N:Nat):Int)
 |[]=>rfl
 |e::r=>by
  have ih:=b2g N r
  have:∀(l:List e1l) (m:Int),l≠[]→b8h l=some m→b8h (.int (e:Int)::l)=some (min (e:Int) m):=fun l m hl hm=>by
   cases l with
   |nil=>exact absurd rfl hl
   |cons a r=>exact congrArg (Option.map (min (e:Int) ·)) hm
  have h2:=this (a0c r++[.int (N:Int)]) _ (by simp) ih
  show b8h (.int (e:Int)::(a0c r++[.int (N:Int)]))=_;rw[h2,List.foldr_cons]
  congr 1
  exact b2b (.e (.d 2 (.c N0) (.c N1)) (.c (.b 2 N0 N1)))
theorem c6l{t E:List Nat}(h:c6k t E):E.foldr min (t.length+1)=hdE t E:=by
 cases E with
 |nil=>rfl
 |cons e r=>
  have key:∀(l:List Nat),(∀x∈l,e≤x)→e≤l.foldr min (t.length+1):=by
   intro l
   induction l with
   |nil=>intro _; have:=h e (.head _); show e≤t.length+1; exact a2c (.l N0 (.p N1 O1)) (.a (.l N2 N0) (.l N0 N1)) this
   |cons x l ih=>
    intro hl;rw[List.foldr_cons]
    have:=ih fun y hy=>hl y (.tail _ hy)
    have:=hl x (.head _)
    exact a2a (.l N0 (.b 2 N1 N2)) (.l N0 N2) (.l N0 N1) ‹_› this
  have h2:=key r fun x hx=>(h x (.tail _ hx)).1;rw[List.foldr_cons];show min e _=e;exact a1b (.e (.b 2 N0 N1) N0) (.l N0 N1) h2
inductive PI(p t:List Nat)(r:List (List Nat))(ow:List OV):List (List Nat)→St→Prop
 |mk {rest} (E:List Nat) (v3 v4 v5:V):(∀x∈rest,x.length≤1000)→c6k t E→E.length≤1001→(rest.foldl (a3a t) E).contains t.length=a4z (p::r) t→PI p t r ow rest ⟨[.dat (.list (.str (mk p)::a0m r)),.dat (.str (mk t)),.dat (.list (a0c E)),v3,v4,v5],ow,true⟩
theorem d5c{n:Nat}{p t:List Nat}{r:List (List Nat)}{ow:List OV}{Q:V→List OV→Prop}(hn:2≤n)(ht:t.length≤1000)(hp:p.length≤1000)(hr:∀x∈r,x.length≤1000)(hr2:r.length≤1000)
 (h:Q (.dat (.bool (a4z (p::r) t))) ow):a0y n 11 true [] [.dat (.list (a0m (p::r))),.dat (.str (mk t))] ow Q:=by
 obtain⟨l,rfl⟩:∃m,n=m+2:=⟨n-2,by omega⟩
 refine⟨Nat.succ_pos _,fun _=>rfl,rfl,rfl,?_⟩;have e0:a0m (p::r)=.str (mk p)::a0m r:=rfl;have hlr:(a0m (p::r)).length=r.length+1:=by simp[a0m]
 refine wq2 ?_;dsimp![];simp only[hlr,c4f (Nat.succ_pos _),Option.bind_some,e0,List.getElem?_cons_zero,mk_length,c_eqs,f_lens,f_lenl,i_dl,i_dt,b_add,b_str,b_list,cut_to,mk_beq];refine⟨⟨by omega,by omega⟩,by omega,by omega,⟨by omega,by omega⟩,?_⟩
 have key:∀E:List Nat,c6k t E→E.length≤1001→(r.foldl (a3a t) E).contains t.length=a4z (p::r) t→a1f (a0y (l+1)) a0i L2.law_fits.tl ⟨[.dat (.list (.str (mk p)::a0m r)),.dat (.str (mk t)),.dat (.list (a0c E)),.undef,.undef,.undef],ow,true⟩ fun fl st=>Q (.dat (match fl with|.ret d=>d|.next=>.none)) (st.own.take ow.length):=by
  intro E0 hE0 hl0 hres
  (refine wq2 ?_; refine wqf ?_)
  dsimp![];have e1:cut (PyData.str (mk p)::a0m r) (some 1) none=a0m r:=a6w _ 1;rw[e1];refine⟨by exact a0o (.l (.p N0 O1) (.k 1000000)) (.l N0 (.k 1000)) hr2,?_⟩
  refine a3o (g:=fun p=>PyData.str (mk p)) (PI p t r ow) ?_ r _ ⟨E0,.undef,.undef,.undef,hr,hE0,hl0,hres⟩ ?_
  ·rintro q rest st K' ⟨E,v3,v4,v5,hx,hE,hEl,hf⟩ hK hRt
   refine lqS ?_;have hq:=hx q (.head _);have hh:hdE t E≤t.length+1:=by
    cases E with
    |nil=>exact Nat.le_refl _
    |cons e r=>have:=hE e (.head _); simp[hdE]; exact a2c (.l N0 (.p N1 O1)) (.a (.l N2 N0) (.l N0 N1)) this
   dsimp![];refine wq2 ?_;dsimp![];have em:b8h (a0c E++[PyData.int ((t.length:Int)+1)])=some ((hdE t E:Nat):Int):=by
    have:=b2g (t.length+1) E
    rw[c6l hE]at this
    exact this
   simp only[em]
   repeat (refine⟨by(first|exact a0o (.l (.p N0 O1) (.k 1000000)) (.l N0 (.k 1001)) hEl|omega),?_⟩)
   refine wq2 ?_;dsimp![]
   repeat (refine⟨by(first|exact lc3 3 [_,_,_] [] (.a (.l (.z (Int.neg 1000000)) (.P (.c N0) (.c N1))) (.a (.l (.P (.c N0) (.c N1)) (.z 1000000)) (.a (.l (.z (Int.neg 1000000)) (.P (.c N2) (.z 1))) (.l (.P (.c N2) (.z 1)) (.z 1000000))))) (.l N2 (.k 1000)) (.l N1 (.k 1000)) (.l N0 (.p N2 O1)) ht hq hh|omega),?_⟩)
   have eu:b9w (((hdE t E:Nat):Int)+(q.length:Int)) ((t.length:Int)+1-(((hdE t E:Nat):Int)+(q.length:Int))).toNat=a0c (List.range' (hdE t E+q.length) (t.length+1-(hdE t E+q.length))):=by
    rw[←b7s]; exact congrArg (b9w (((hdE t E:Nat):Int)+(q.length:Int))) (Int.toNat_sub (t.length+1) (hdE t E+q.length))
   rw[eu];refine a6a (g:=fun(e:Nat)=>PyData.int (e:Int)) (fun e=>(t.take e).drop (e-q.length)==q) (fun(e:Nat)=>PyData.int (e:Int)) (fun st=>∃v5,st=⟨[.dat (.list (.str (mk p)::a0m r)),.dat (.str (mk t)),.dat (.list (a0c E)),.dat (.str (mk q)),.dat (.int (((hdE t E:Nat):Int)+(q.length:Int))),v5],ow,true⟩) _ ?_ _ _ ⟨_,rfl⟩ ?_ ?_
   ·rintro e he st acc K ⟨v5,rfl⟩ hacc hK2
    rw[List.mem_range'_1]at he
    replace he:=rng he
    rw[d3x];dsimp![];have ec:cut t (some ((e:Int)-(q.length:Int))) (some (e:Int))=(t.take e).drop (e-q.length):=by
     have:=b7f t (a:=e-q.length) (b:=e) (by exact a9v (.l (.s N0 N1) N2) (.a (.l (.p N3 N1) N0) (.l N0 N2)) he) (by omega)
     rw[←this]; congr 2; exact a9v (.e (.S (.c N0) (.c N1)) (.c (.s N0 N1))) (.a (.l (.p N2 N1) N0) (.l N0 N3)) he
    rw[ec]
    repeat (refine⟨by omega,?_⟩)
    have:=hK2 _ ⟨.dat (.int (e:Int)),rfl⟩
    by_cases hm:((t.take e).drop (e-q.length)==q)=true
    ·rw[if_pos hm]at this ⊢
     exact⟨hacc,this⟩
    ·rw[if_neg hm]at this ⊢
     exact this
   ·simp; exact a2c (.l (.p N0 O1) (.p (.k 1000000) (.p N1 N2))) (.l N0 (.k 1000)) ht
   ·rintro st ⟨v5,rfl⟩
    refine wq1 ?_;exact hK _ ⟨a3a t E q,_,_,_,fun x h=>hx x (.tail _ h),c1g t E q,by
     refine Nat.le_trans (List.length_filter_le _ _) ?_;rw[List.length_range']; exact a2c (.l (.s (.p N0 O1) (.p N1 N2)) (.k 1001)) (.l N0 (.k 1000)) ht,hf⟩
  ·rintro st ⟨E,v3,v4,v5,hx,hE,hEl,hf⟩
   refine wq2 ?_;dsimp![];refine⟨by omega,⟨rfl,a1x E⟩,?_⟩
   have e2:((a0c E).any fun y=>y.eqv (PyData.int (t.length:Int)))=E.contains t.length:=by
    rw[Bool.eq_iff_iff,List.any_eq_true,List.contains_iff_mem];constructor
    ·rintro⟨d,hd,he⟩
     obtain⟨i,hi,rfl⟩:=List.mem_map.mp hd
     have:((i:Int)==(t.length:Int))=true:=he
     rw[beq_iff_eq]at this
     have e:i=t.length:=by exact a1b (.e N0 N1) (.e (.c N0) (.c N1)) this
     rwa[←e]
    ·intro hm
     exact⟨_,List.mem_map.mpr ⟨_,hm,rfl⟩,by show((t.length:Int)==(t.length:Int))=true; rw[beq_self_eq_true]⟩
   rw[e2,List.take_length,show E.contains t.length=a4z (p::r) t from hf]
   exact h
 by_cases hm:(t.take p.length==p)=true
 ·refine ifp hm ?_
  iterate 2 (refine⟨by(first|exact c5u (.a (.l (.z (Int.neg 1000000)) (.z 0)) (.l (.z 0) (.z 1000000)))|omega),?_⟩)
  refine key [p.length] (fun e he=>?_) (by simp) ?_
  ·rw[List.mem_singleton.mp he]
   rw[beq_iff_eq]at hm
   have:=congrArg List.length hm
   rw[List.length_take]at this
   exact⟨Nat.le_refl _,by exact a1b (.l N0 N1) (.e (.b 2 N0 N1) N0) this⟩
  ·show _=(r.foldl (a3a t) (if (t.take p.length==p)=true then[p.length]else[])).contains t.length
   rw[if_pos hm]
 ·refine ifn hm ?_
  refine key [] (fun e he=>nomatch he) (by simp) ?_
  show _=(r.foldl (a3a t) (if (t.take p.length==p)=true then[p.length]else[])).contains t.length
  rw[if_neg hm]
noncomputable def a5q:List Nat:=[46,46,46]
theorem d0y:(Str.ofString "...")=mk a5q:=by decide +kernel
theorem b1u{ps:List (List Nat)}(h:∀p∈ps,46∉p):Txt.contains (mk (jn a5q ps)) (mk a5q)=decide (2≤ps.length):=b5k (c:=46) (k:=3) (by decide) h
theorem b8m{ps:List (List Nat)}(h0:ps≠[])(h:∀p∈ps,46∉p):Txt.split (mk (jn a5q ps)) (mk a5q)=ps.map mk:=b7o (c:=46) (k:=3) (by decide) (by decide) h0 h
theorem a8o(ps:List (List Nat)):((ps.map mk).map PyData.str)=a0m ps:=by simp[a0m]
theorem a6j(a b:List (List Nat)):a0m (a++b)=a0m a++a0m b:=by simp[a0m]
theorem a9u(a:List Nat)(b:List (List Nat)):a0m (a::b)=.str (mk a)::a0m b:=rfl
theorem a8e(n:Nat):a2r (n+1) (-1)=some n:=by rw[c9x (Nat.succ_pos n)]; rfl
theorem d3l{l:Nat}{t:List Nat}{W:List (List Nat)}{a e:Nat}{d0 d5:V}{ow:List OV}{K:Fl→St→Prop}(ht:t.length≤1000)(hW:W.length≤1002)(he:e≤t.length)(hWl:∀w∈W,w.length≤1000)(hQ:∀st',List.take ow.length st'.own=ow→K (.ret (.bool (if e<a then false else a3u t e a W))) st') :
  a1f (a0y l) a0i L2.ellipsis_match.tl.tl.tl.tl.tl.tl.tl.tl ⟨[d0,.dat (.str (mk t)),.own ow.length,.dat (.int (a:Int)),.dat (.int (e:Int)),d5],ow++[.lst (a0m W)],true⟩ K:=by
 refine wq2 ?_;dsimp![]
 by_cases hlt:e<a
 ·(refine ifp (by simp; omega) ?_; refine wq2 ?_)
  dsimp![];rw[if_pos hlt]at hQ;exact hQ _ (by simp)
 ·rw[if_neg hlt]at hQ
  (refine ifn (by simp; omega) ?_; refine wq1 ?_; refine wq2 ?_; refine wqf ?_)
  dsimp![];refine a3o (g:=fun p=>PyData.str (mk p)) (fun rest st=>∃(s:Nat) (v5:V),s≤e∧(∀w∈rest,w.length≤1000)∧a3u t e s rest=a3u t e a W ∧
   st=⟨[d0,.dat (.str (mk t)),.own ow.length,.dat (.int (s:Int)),.dat (.int (e:Int)),v5],ow++[.froz (a0m W)],true⟩) ?_ W _ ⟨a,d5,by omega,hWl,rfl,rfl⟩ ?_
  ·rintro w rest st K' ⟨s,v5,hs,hw,hR,rfl⟩ hK hRt
   have hwl:=hw w (.head _);refine lqS ?_;dsimp![];refine wq2 ?_;dsimp![c4s];dsimp only[a3u]at hR;refine⟨⟨by exact a3f (.l (.z 0) (.c N0)),by exact a1b (.l (.c N0) (.c N1)) (.l N0 N1) hs,by exact a1b (.l (.c N0) (.c N1)) (.l N0 N1) he⟩,?_⟩
   refine wq2 ?_;dsimp![];cases hf:(List.range' s (e+1-s)).find? (a8i t w e)with
   |none=>
    (refine ifp (by simp) ?_; refine wq2 ?_)
    dsimp![];rw[hf]at hR;simp only at hR;rw[←hR]at hQ;exact hRt _ _ (hQ _ (by simp))
   |some i=>
    (refine ifn (by simp) ?_; refine wq1 ?_; refine wq2 ?_)
    dsimp![];refine⟨by omega,?_⟩
    rw[hf]at hR;refine wq1 ?_;refine hK _ ⟨i+w.length,.dat (.str (mk w)),?_,fun x hx=>hw x (.tail _ hx),hR,rfl⟩;rw[List.find?_range'_eq_some]at hf;have h1:=hf.1;rw[a8i,Bool.and_eq_true,decide_eq_true_eq]at h1;exact h1.1
  ·rintro st ⟨s,v5,hs,hw,hR,rfl⟩
   refine wq2 ?_;dsimp![];rw[←hR]at hQ;exact hQ _ (by simp)
theorem d9v{l:Nat}{t p q:List Nat}{ms:List (List Nat)}{d0:V}{ow:List OV}{K:Fl→St→Prop}(ht:t.length≤1000)(hpl1:p.length≤1000)(hpl2:q.length≤1000)(hlms:ms.length≤1000)(hms1:∀w∈ms,w.length≤1000)(hpre:t.take p.length=p)(h:∀st',List.take ow.length st'.own=ow→K (.ret (.bool (d2z t p ms q))) st') :
  a1f (a0y l) a0i L2.ellipsis_match.tl.tl.tl.tl.tl.tl ⟨[d0,.dat (.str (mk t)),.own ow.length,.dat (.int (p.length:Int)),.dat (.int (t.length:Int)),.dat (.str (mk p))],ow++[.lst (a0m ((if p=[]then[[]]else[])++ms++[q]))],true⟩ K:=by
 rw[d2z,if_pos hpre]at h;generalize hW0:(if p=[]then[[]]else[]:List (List Nat))=W0 at h ⊢
 have hW0l:W0.length≤1:=by rw[←hW0]; split <;> simp
 have hW0m:∀w∈W0,w.length≤1000:=fun w hw=>by rw[←hW0]at hw; split at hw <;> simp at hw; rw[hw]; simp
 have hll:(a0m (W0++ms++[q])).length=W0.length+ms.length+1:=by simp[a0m]; exact b2b (.e (.p N0 (.p N1 O1)) (.p (.p N0 N1) O1))
 have hlast:(a0m (W0++ms++[q]))[W0.length+ms.length]?=some (.str (mk q)):=by
  rw[a6j,List.getElem?_append_right (by simp[a0m])]; simp[a0m]
 have hdrop:(a0m (W0++ms++[q])).eraseIdx (W0.length+ms.length)=a0m (W0++ms):=by
  rw[a6j,List.eraseIdx_append_of_length_le (by simp[a0m])]; simp[a0m]
 refine wq2 ?_;generalize hSW:a0m (W0++ms++[q])=SW at hll hlast hdrop ⊢;dsimp![hll,a8e,hlast];refine⟨by exact c5u (.a (.l (.z (Int.neg 1000000)) (.z (Int.neg 1))) (.l (.z (Int.neg 1)) (.z 1000000))),?_⟩
 refine wq2 ?_;dsimp![];refine⟨by omega,?_⟩
 by_cases hq0:q=[]
 ·subst hq0
  (refine ifn (by simp) ?_; refine wq1 ?_)
  rw[if_pos (by simp)]at h
  subst hSW;refine d3l ht (by simp; exact a1m (.l (.p N0 (.p N1 O1)) (.k 1002)) (.l N1 (.k 1000)) (.l N0 O1) hlms hW0l) (Nat.le_refl _) (fun w hw=>?_) h
  rcases List.mem_append.mp hw with hw|hw
  ·rcases List.mem_append.mp hw with hw|hw
   ·exact hW0m w hw
   ·exact hms1 w hw
  ·rw[List.mem_singleton.mp hw]; simp
 ·have hqp:=List.length_pos_iff.mpr hq0
  (refine ifp (by simp; omega) ?_; refine wq2 ?_)
  dsimp![];rw[c9i]
  by_cases he:q.length≤t.length∧t.drop (t.length-q.length)=q
  ·rw[if_pos he,if_neg hq0,List.append_nil]at h
   (refine ifp (by simp[he]) ?_; refine wq2 ?_)
   dsimp![];refine⟨by omega,?_⟩
   refine wq2 ?_;dsimp![hll,a8e,hdrop];refine⟨by exact a1m (.a (.l (.p (.p N0 N1) O1) (.k 1000000)) (.a (.l (.z (Int.neg 1000000)) (.z (Int.neg 1))) (.l (.z (Int.neg 1)) (.z 1000000)))) (.l N1 (.k 1000)) (.l N0 O1) hlms hW0l,?_⟩
   (refine wq1 ?_; refine wq1 ?_)
   have e1:(t.length:Int)-(q.length:Int)=((t.length-q.length:Nat):Int):=by exact a1b (.e (.S (.c N0) (.c N1)) (.c (.s N0 N1))) (.l N1 N0) he.1
   rw[e1];refine d3l ht (by simp; exact a1m (.l (.p N0 N1) (.k 1002)) (.l N1 (.k 1000)) (.l N0 O1) hlms hW0l) (by exact b2b (.l (.s N0 N1) N0)) (fun w hw=>?_) h
   rcases List.mem_append.mp hw with hw|hw
   ·exact hW0m w hw
   ·exact hms1 w hw
  ·rw[if_neg he]at h
   (refine ifn (by simpa using he) ?_; refine wq2 ?_)
   dsimp![];exact h _ (by simp)
theorem d8q{n:Nat}{t:List Nat}{ps:List (List Nat)}{ow:List OV}{Q:V→List OV→Prop}(hn:2≤n)(ht:t.length≤1000)(h0:ps≠[])(hdot:∀p∈ps,46∉p)(hlen:(jn a5q ps).length≤1000)(hps:ps.length≤1000)(hpl:∀p∈ps,p.length≤1000)
 (h:Q (.dat (.bool (a4z ps t))) ow):a0y n 0 true [] [.dat (.str (mk (jn a5q ps))),.dat (.str (mk t))] ow Q:=by
 obtain⟨l,rfl⟩:∃m,n=m+2:=⟨n-2,by omega⟩
 refine⟨Nat.succ_pos _,fun _=>rfl,rfl,rfl,?_⟩;dsimp only[L2.ellipsis_match,L2.ellipsis_match_nl];refine wq2 ?_;dsimp![];rw[d0y,b1u hdot]
 match ps,h0 with
 |[p],_=>
  (refine ifp (by simp) ?_; refine wq2 ?_)
  dsimp![];rw[show jn a5q [p]=p from rfl,c7k,List.take_length]
  exact h
 |p::q0::r0,_=>
  obtain⟨ms,q,hms⟩:∃ms q,q0::r0=ms++[q]:=⟨(q0::r0).dropLast,(q0::r0).getLast (by simp),(List.dropLast_concat_getLast _).symm⟩
  rw[hms]at hdot hlen hps hpl h ⊢;rw[←c4k]at h
  (refine ifn (by simp) ?_; refine wq1 ?_; refine wq2 ?_)
  have hpl1:=hpl p (.head _);have hpl2:=hpl q (by simp)
  have hlms:ms.length≤1000:=by simp at hps; omega
  dsimp![];rw[b8m (by simp) hdot,a8o]
  refine⟨⟨by decide,by omega,by simp; omega⟩,?_⟩
  refine wq2 ?_;dsimp![];refine⟨by simp; omega,by simp; exact a3f (.l (.z 2) (.P (.P (.c N0) (.z 1)) (.z 1))),?_⟩
  refine wq2 ?_;dsimp![];refine⟨by omega,?_⟩
  refine wq2 ?_;have hql:(a0m (p::(ms++[q]))).length=ms.length+2:=by simp[a0m]
  dsimp![c4f (Nat.succ_pos _),a9u];refine⟨by exact c5u (.a (.l (.z (Int.neg 1000000)) (.z 0)) (.l (.z 0) (.z 1000000))),?_⟩
  have keyA:=@d9v (l+1) t p q ms (.dat (.str (mk (jn a5q (p::(ms++[q])))))) ow (fun fl st=>Q (.dat (match fl with|.ret d=>d|.next=>.none)) (st.own.take ow.length)) ht hpl1 hpl2 hlms fun w hw=>hpl w (by simp[hw])
  have hA:∀st':St,List.take ow.length st'.own=ow→Q (.dat (.bool (d2z t p ms q))) (List.take ow.length st'.own):=fun st' e=>e.symm▸h;refine wq2 ?_;dsimp![];refine⟨by omega,?_⟩
  by_cases hp0:p=[]
  ·subst hp0
   (refine ifn (by simp) ?_; refine wq1 ?_)
   exact keyA rfl hA
  ·have hpp:=List.length_pos_iff.mpr hp0
   (refine ifp (by simp; omega) ?_; refine wq2 ?_)
   dsimp![];rw[c1j]
   by_cases he:t.take p.length=p
   ·(refine ifp (by rw[he,beq_self_eq_true]) ?_; refine wq2 ?_)
    dsimp![];refine⟨by omega,?_⟩
    refine wq2 ?_;dsimp![hql,c4f (Nat.succ_pos _),a9u];refine⟨by exact a0o (.a (.l (.p (.p N0 O1) O1) (.k 1000000)) (.a (.l (.z (Int.neg 1000000)) (.z 0)) (.l (.z 0) (.z 1000000)))) (.l N0 (.k 1000)) hlms,?_⟩
    (refine wq1 ?_; refine wq1 ?_)
    have:=keyA he hA
    rw[if_neg hp0]at this
    exact this
   ·rw[d2z,if_neg he]at h
    (refine ifn (by rw[beq_iff_eq]; exact he) ?_; refine wq2 ?_)
    dsimp![];simpa using h
theorem ix2_0:a2r (1+1) 0=some 0:=by decide
theorem ix2_1:a2r (1+1) 1=some 1:=by decide
theorem ix3_0:a2r (1+1+1) 0=some 0:=by decide
theorem ix3_1:a2r (1+1+1) 1=some 1:=by decide
theorem ix3_2:a2r (1+1+1) 2=some 2:=by decide
theorem ix7_0:a2r (1+1+1+1+1+1+1) 0=some 0:=by decide
theorem ix7_1:a2r (1+1+1+1+1+1+1) 1=some 1:=by decide
theorem ix7_2:a2r (1+1+1+1+1+1+1) 2=some 2:=by decide
theorem ix7_3:a2r (1+1+1+1+1+1+1) 3=some 3:=by decide
theorem ix7_4:a2r (1+1+1+1+1+1+1) 4=some 4:=by decide
theorem ix7_5:a2r (1+1+1+1+1+1+1) 5=some 5:=by decide
theorem ix7_6:a2r (1+1+1+1+1+1+1) 6=some 6:=by decide
local macro_rules (kind:=Lean.Parser.Tactic.simpAllAutoUnfold)|s=>return qx #[s[4][1]] ("%TdsimpAutoUnfold dsimp! %ToptConfig %null / / %null / %null / %null [ %null " ++ qxm "ix2_0 ix2_1 ix3_0 ix3_1 ix3_2 ix7_0 ix7_1 ix7_2 ix7_3 ix7_4 ix7_5 ix7_6" ++ " , @0 / ] / %null / /")
theorem b1h(st:St)(i:Nat)(v w:V):(st.set i v).set i w=st.set i w:=by
 show St.mk ((st.vars.set i v).set i w) st.own st.hz=St.mk (st.vars.set i w) st.own st.hz;rw[List.set_set]
section
variable {Γ:Ctx} {α:Type} {g:α→e1l} {i:Nat} {G:G} {c:E} {st0:St} {K:List e1l→St→Prop}
theorem b3k(f:α→e1l):∀(l:List α) (acc:List e1l) (v:V),(∀a∈l,∀acc K,acc.length<1000000→K (acc++[f a]) (st0.set i (.dat (g a)))→wpG Γ G (st0.set i (.dat (g a))) acc K)→acc.length+l.length≤1000000→
  (∀st',st'.own=st0.own→st'.hz=st0.hz→K (acc++l.map f) st')→a1n (lpF Γ (.one i) G) (l.map g) (st0.set i v) acc K
 |[]=>fun acc v hs hl hk=>by have:=hk (st0.set i v) rfl rfl; simp at this; exact this
 |a::l=>fun acc v hs hl hk=>by
  rw[List.length_cons]at hl;show wpG Γ G ((st0.set i v).set i (.dat (g a))) acc _;rw[b1h];refine hs a (.head _) acc _ (by exact a1b (.t N0 (.k 1000000)) (.l (.p N0 (.p N1 O1)) (.k 1000000)) hl) ?_
  refine b3k f l (acc++[f a]) _ (fun b hb=>hs b (.tail _ hb)) (by simp; exact a1b (.l (.p (.p N0 O1) N1) (.k 1000000)) (.l (.p N0 (.p N1 O1)) (.k 1000000)) hl) fun st' h1 h2=>?_
  have:=hk st' h1 h2
  simpa using this
theorem a9p(p:α→Bool)(f:α→e1l):∀(l:List α) (acc:List e1l) (v:V),(∀a∈l,∀acc K,acc.length<1000000→K (if p a then acc++[f a]else acc) (st0.set i (.dat (g a)))→wpT Γ c (st0.set i (.dat (g a))) fun b st=>if b=true then wpG Γ G st acc K else K acc st)→acc.length+l.length≤1000000→
  (∀st',st'.own=st0.own→st'.hz=st0.hz→K (acc++(l.filter p).map f) st')→a1n (d3x Γ (.one i) c G) (l.map g) (st0.set i v) acc K
 |[]=>fun acc v hs hl hk=>by have:=hk (st0.set i v) rfl rfl; simp at this; exact this
 |a::l=>fun acc v hs hl hk=>by
  rw[List.length_cons]at hl;show wpT Γ c ((st0.set i v).set i (.dat (g a))) _;rw[b1h];refine hs a (.head _) acc _ (by exact a1b (.t N0 (.k 1000000)) (.l (.p N0 (.p N1 O1)) (.k 1000000)) hl) ?_
  refine a9p p f l (if p a then acc++[f a]else acc) _ (fun b hb=>hs b (.tail _ hb)) (by cases p a <;> simp <;> (first|exact a1b (.l (.p N0 N1) (.k 1000000)) (.l (.p N0 (.p N1 O1)) (.k 1000000)) hl|exact a1b (.l (.p (.p N0 O1) N1) (.k 1000000)) (.l (.p N0 (.p N1 O1)) (.k 1000000)) hl|omega)) fun st' h1 h2=>?_
  have:=hk st' h1 h2
  cases hp:p a <;> simp[hp]at this ⊢ <;> exact this
end
theorem a7y{st:St}{v:V}(h:st.vars[i]?=some v):st=st.set i v:=by
 show St.mk st.vars st.own st.hz=St.mk (st.vars.set i v) st.own st.hz;obtain⟨h1,h2⟩:=List.getElem?_eq_some_iff.mp h;rw[←h2,List.set_getElem_self]
theorem a0r{Γ:Ctx}{α:Type}{g:α→e1l}{G:G}{st0:St}{K:List e1l→St→Prop}(f:α→e1l)(l:List α)(hv:st0.vars[i]?=some .undef)(hs:∀a∈l,∀acc K,acc.length<1000000→K (acc++[f a]) (st0.set i (.dat (g a)))→wpG Γ G (st0.set i (.dat (g a))) acc K)(hl:l.length≤1000000)
 (hk:∀st',st'.own=st0.own→st'.hz=st0.hz→K (l.map f) st'):a1n (lpF Γ (.one i) G) (l.map g) st0 [] K:=by
 rw[a7y hv];exact b3k f l [] _ hs (by simpa using hl) (by simpa using hk)
theorem c3z{Γ:Ctx}{α:Type}{g:α→e1l}{c:E}{G:G}{st0:St}{K:List e1l→St→Prop}(p:α→Bool)(f:α→e1l)(l:List α)(hv:st0.vars[i]?=some .undef)(hs:∀a∈l,∀acc K,acc.length<1000000→K (if p a then acc++[f a]else acc) (st0.set i (.dat (g a)))→wpT Γ c (st0.set i (.dat (g a))) fun b st=>if b=true then wpG Γ G st acc K else K acc st)(hl:l.length≤1000000)
 (hk:∀st',st'.own=st0.own→st'.hz=st0.hz→K ((l.filter p).map f) st'):a1n (d3x Γ (.one i) c G) (l.map g) st0 [] K:=by
 rw[a7y hv];exact a9p p f l [] _ hs (by simpa using hl) (by simpa using hk)
theorem b8f(l:List Nat)(k:Nat):(a0c l).take k=a0c (l.take k):=by simp[a0c]
theorem a9d(l:List Nat)(k:Nat):(a0c l).drop k=a0c (l.drop k):=by simp[a0c]
theorem a2j{l:List Nat}{k:Nat}(h:k<l.length):(a0c l)[k]?=some (.int ((l.getD k 0:Nat):Int)):=by
 simp[a0c,List.getElem?_eq_getElem h]
theorem b2x{l:List (List Nat)}{k:Nat}(h:k<l.length):(a0m l)[k]?=some (.str (mk (l.getD k []))):=by
 simp[a0m,List.getElem?_eq_getElem h]
theorem b0f:∀(l:List (List Nat)),b2t (a0m l)=some (l.map mk)
 |[]=>rfl
 |a::r=>by
  show(b2t (a0m r)).map (mk a :: ·)=_;rw[b0f r]; rfl
theorem b6r:(Str.ofString "")=mk []:=by decide +kernel
theorem c3c:∀(l:List (List Nat)),Str.join (mk []) (l.map mk)=mk l.flatten
 |[]=>rfl
 |[a]=>by simp[Str.join]
 |a::b::r=>by
  have:=c3c (b::r)
  show mk a++mk []++Str.join (mk []) ((b::r).map mk)=_;rw[this,mk_append,mk_append]; simp
theorem d2p(l:List (List Nat)):Txt.join (mk []) (l.map mk)=mk l.flatten:=by
 show Builtin.Str.glued (mk []) (l.map mk)=_;rw[StrLaws.glued_eq_join,c3c]
theorem c2j{l:List (List Nat)}(h:l.flatten.length≤1000000):JoinOk (mk []) (l.map mk)=true:=by
 unfold JoinOk;rw[StrLaws.joinTotal];have e:((l.map mk).map (·.length)).sum=l.flatten.length:=by
  rw[List.map_map,List.length_flatten];exact congrArg List.sum (List.map_congr_left fun x _=>mk_length x)
 rw[e,mk_length];have h2:¬2^24<l.flatten.length+(l.map mk).length*([]:List Nat).length:=by
  rw[List.length_nil,Nat.mul_zero,show(2:Nat)^24=16777216 from by decide]; omega
 rw[Bool.not_eq_true'];exact decide_eq_false h2
noncomputable def Ss.hd:Ss→S
 |.cons s _=>s
 |_=>.stuck
set_option backward.match.sparseCases false in
noncomputable def S.body:S→Ss
 |.for _ _ b=>b
 |.while _ b=>b
 |_=>.nil
theorem a4c{m:Nat}:∀{R:List Nat},(∀x∈R,x≤m)→R.sum≤m*R.length
 |[]=>fun _=>by simp
 |a::r=>fun h=>by
  have h1:=h a (.head _);have h2:=a4c fun x hx=>h x (.tail _ hx);simp only[List.sum_cons,List.length_cons,Nat.mul_succ]; exact b2a (.l (.p N0 N1) (.p N2 N3)) (.l N0 N3) (.l N1 N2) h1 h2
theorem c2v (l:List (List Nat)):Txt.join (Str.ofString "") (l.map mk)=mk l.flatten:=by rw[b6r,d2p]
theorem b1e {l:List (List Nat)} (h:l.flatten.length≤1000000):JoinOk (Str.ofString "") (l.map mk)=true:=by rw[b6r]; exact c2j h
noncomputable def Enc:List Nat→List Nat→Prop
 |os,[]=>os=[]
 |os,v::vs=>∃o1 r,os=o1++r∧vi 0 o1 v∧v<2^400∧Enc r vs
theorem d1n(l:List e1l):PyData.eqv (.list l) (.list [])=l.isEmpty:=by
 cases l <;> rfl
theorem b4d{α:Type}{l:List α}(h:l≠[]):∃m x,l=m++[x]:=⟨l.dropLast,l.getLast h,(List.dropLast_concat_getLast h).symm⟩
theorem b8k{n j i rv:Nat}{C:St→(Bool→St→Prop)→Prop}{B:St→(Fl→St→Prop)→Prop}(hn:3≤n){vs:List V}(h1:vs.getD i .undef=.own j)(h2:vs.getD rv .undef=.own (j+1))
 (hC:∀st K,C st K=wpT (a0y n) (.or (.cmp .eq (.var rv) (.list .nil)) (.not (.call 10 (.cons (.idx (.var rv) (.neg (.int 1))) .nil)))) st K)
 (hB:∀st K,B st K=a1f (a0y n) a0i (.cons (.append rv (.call 8 (.cons (.var i) .nil))) .nil) st K) {tl:List Nat} {K:Fl→St→Prop} :
  ∀(todo done os:List Nat) (ow:List OV) (fuel:Nat),todo.length+1<fuel→(∀v∈todo,v≠0)→(∀v∈done,v≠0)→done.length+todo.length<10000→Enc os (todo++0::tl)→ow[j]?=some (.iter (a0c os))→ow[j+1]?=some (.lst (a0c done))→
  (∀os',Enc os' tl→K .next ⟨vs,(ow.set j (.iter (a0c os'))).set (j+1) (.lst (a0c (done++todo++[0]))),true⟩)→
  a4h C B fuel ⟨vs,ow,true⟩ K:=by
 have cond:∀(done:List Nat) (ow:List OV) (Kb:Bool→St→Prop) (b:Bool),done.length<20000→ow[j+1]?=some (.lst (a0c done))→(done≠[]→done.getLast?=some 0→b=false)→(done.getLast? ≠ some 0→b=true)→Kb b ⟨vs,ow,true⟩→C ⟨vs,ow,true⟩ Kb:=by
  intro done ow Kb b hl hj hb1 hb2 hK;rw[hC];simp_all![h2,hj,d1n];refine⟨⟨a1x done,rfl⟩,?_⟩
  by_cases hd:done=[]
  ·subst hd
   refine ifp (by rfl) ?_
   rw[hb2 (by simp)]at hK
   exact hK
  ·refine ifn (by simp[a0c,hd]) ?_
   obtain⟨m,x,rfl⟩:=b4d hd;have hx:(a0c (m++[x]))[m.length]?=some (.int (x:Int)):=by rw[a0w,List.getElem?_append_right (by simp[a0c])]; simp[a0c]
   have hpx:a2r (m++[x]).length (-1)=some m.length:=by rw[List.length_append]; exact a8e _
   rw[hpx];simp only[Option.bind_some,hx];refine⟨by exact c5u (.a (.l (.z (Int.neg 1000000)) (.z (Int.neg 1))) (.l (.z (Int.neg 1)) (.z 1000000))),d3i (by omega) ⟨⟨_,rfl⟩,?_⟩⟩
   simp_all![];have hlast:(m++[x]).getLast?=some x:=by simp
   rw[hlast]at hb1 hb2
   by_cases hx0:x=0
   ·subst hx0
    rw[hb1 (by simp) rfl]at hK
    exact hK
   ·rw[hb2 (by simpa using hx0)]at hK
    have:(!((x:Int)==0))=true:=by simp; omega
    rw[this];exact hK
 intro todo
 induction todo with
 |nil=>
  intro done os ow fuel hf h0 hd hl he hi hr hK;obtain⟨fuel,rfl⟩:∃f,fuel=f+2:=⟨fuel-2,by simp at hf; exact a0o (.e N0 (.p (.s N0 (.k 2)) (.k 2))) (.t O1 N0) hf⟩
  obtain⟨o1,r,rfl,hvi,hv,he⟩:=he;refine wqw ?_;have hjl:j+1<ow.length:=(List.getElem?_eq_some_iff.mp hr).1;refine cond done ow _ true (by simp at hl; exact a0o (.t N0 (.k 20000)) (.t N0 (.k 10000)) hl) hr (fun hne h=>?_) (fun _=>rfl) ?_
  ·exact absurd rfl (hd 0 (List.mem_of_getLast? h))
  (refine ifp rfl ?_; rw[hB]; refine wq2 ?_)
  simp_all![h2,h1,hi,hr];refine⟨⟨_,rfl⟩,?_⟩;refine b7n (by omega) hv hvi (by rw[hi,a0w]) ⟨⟨_,rfl⟩,?_⟩
  simp_all![h2];rw[List.getElem?_set_ne (by omega),hr]
  simp only[intsL_length];refine⟨by simp at hl; exact a0o (.t N0 (.k 1000000)) (.t N0 (.k 10000)) hl,?_⟩
  refine wq1 ?_;show a4h C B (fuel+1) _ K;refine wqw ?_;have e0:a0c done++[PyData.int ((0:Nat):Int)]=a0c (done++[0]):=by rw[a0w]; rfl
  rw[e0];refine cond (done++[0]) _ _ false (by simp at hl ⊢; exact a0o (.t (.p N0 O1) (.k 20000)) (.t N0 (.k 10000)) hl) (by simp[hjl]) (fun _ _=>rfl) (fun h=>absurd (by simp) h) ?_
  refine ifn (by simp) ?_
  have:=hK r he
  simpa using this
 |cons v todo ih=>
  intro done os ow fuel hf h0 hd hl he hi hr hK;obtain⟨fuel,rfl⟩:∃f,fuel=f+1:=⟨fuel-1,by simp at hf; exact a1b (.e N0 (.p (.s N0 O1) O1)) (.t (.p (.p N1 O1) O1) N0) hf⟩
  obtain⟨o1,r,rfl,hvi,hv,he⟩:=he;refine wqw ?_;have hjl:j+1<ow.length:=(List.getElem?_eq_some_iff.mp hr).1;rw[List.length_cons]at hl hf;refine cond done ow _ true (by exact a1b (.t N0 (.k 20000)) (.t (.p N0 (.p N1 O1)) (.k 10000)) hl) hr (fun hne h=>?_) (fun _=>rfl) ?_
  ·exact absurd rfl (hd 0 (List.mem_of_getLast? h))
  (refine ifp rfl ?_; rw[hB]; refine wq2 ?_)
  simp_all![h2,h1,hi,hr];refine⟨⟨_,rfl⟩,?_⟩;refine b7n (by omega) hv hvi (by rw[hi,a0w]) ⟨⟨_,rfl⟩,?_⟩
  simp_all![h2];rw[List.getElem?_set_ne (by omega),hr]
  simp only[intsL_length];refine⟨by exact a1b (.t N0 (.k 1000000)) (.t (.p N0 (.p N1 O1)) (.k 10000)) hl,?_⟩
  refine wq1 ?_;have e0:a0c done++[PyData.int ((v:Nat):Int)]=a0c (done++[v]):=by rw[a0w]; rfl
  rw[e0];refine ih (done++[v]) r _ fuel (by exact a1b (.t (.p N0 O1) N1) (.t (.p (.p N0 O1) O1) (.p N1 O1)) hf) (fun y hy=>h0 y (.tail _ hy)) (fun y hy=>?_) (by simp; exact a1b (.t (.p (.p N0 O1) N1) (.k 10000)) (.t (.p N0 (.p N1 O1)) (.k 10000)) hl) he ?_ ?_ fun os' ho'=>?_
  ·rcases List.mem_append.mp hy with hy|hy
   ·exact hd y hy
   ·rw[List.mem_singleton.mp hy]; exact h0 v (.head _)
  ·rw[List.getElem?_set_ne (by omega)]; simp[show j<ow.length by exact a1b (.t N0 N1) (.t (.p N0 O1) N1) hjl]
  ·simp[hjl]
  ·have:=hK os' ho'
   have e1:(((ow.set j (.iter (a0c r))).set (j+1) (.lst (a0c (done++[v])))).set j (.iter (a0c os'))).set (j+1) (.lst (a0c (done++[v]++todo++[0])))=(ow.set j (.iter (a0c os'))).set (j+1) (.lst (a0c (done++v::todo++[0]))):=by
    have e2:((ow.set j (.iter (a0c r))).set (j+1) (.lst (a0c (done++[v])))).set j (.iter (a0c os'))=((ow.set j (.iter (a0c r))).set j (.iter (a0c os'))).set (j+1) (.lst (a0c (done++[v]))):=List.set_comm _ _ (by omega)
    rw[e2,List.set_set,List.set_set];simp
   rw[e1];exact this
noncomputable def tx(c:Nat):List Nat:=match Spec.lookup (.int (c:Int)) a0i with
 |some (.str s)=>s.cps.toList
 |_=>[]
theorem d5o:(List.range 48).all (fun c=>match Spec.lookup (.int ((c+7:Nat):Int)) a0i with|some (.str _)=>true|_=>false)=true:=by decide +kernel
theorem d6q(c:Nat)(h:c<48):Spec.lookup (.int ((c+7:Nat):Int)) a0i=some (.str (mk (tx (c+7)))):=by
 have:=List.all_eq_true.mp d5o c (List.mem_range.mpr h)
 unfold tx
 split at this
 ·rename_i s e
  rw[e];simp[mk]
 ·cases this
theorem d4k{c:Nat}(h1:7≤c)(h2:c≤54):Spec.lookup (.int (c:Int)) a0i=some (.str (mk (tx c))):=by
 have:=d6q (c-7) (by exact a0o (.t (.s N0 (.k 7)) (.k 48)) (.l N0 (.k 54)) h2)
 rwa[show c-7+7=c from by omega]at this
theorem a7m{α:Type}(f:α→e1l)(l:List α):a8v (l.map f)=((List.range l.length).zip l).map fun p=>.tuple [.int (p.1:Int),f p.2]:=by
 show List.zipWith _ (List.range (l.map f).length) (l.map f)=List.map _ (List.zipWith Prod.mk _ l);rw[List.length_map,List.zipWith_map_right,List.map_zipWith]
theorem c6g{l:List Int}(h:j<l.length):((List.range l.length).zip l).drop j=(j,l[j])::((List.range l.length).zip l).drop (j+1):=by
 rw[List.drop_eq_getElem_cons (by simp; exact h)]; simp
noncomputable abbrev a2l(vs:List V)(k:Nat)(ow:List OV):St:=⟨vs++List.replicate k .undef,ow,true⟩
theorem a0x{m:Nat}(h:m<2^64):m<2^4000:=Nat.lt_of_lt_of_le h (Nat.pow_le_pow_right (by decide) (by decide))
noncomputable def signsL:List (List Nat):=(List.range 48).map fun i=>tx (i+7)
theorem b0a(h:i<48):(a0m signsL)[i]?=some (.str (mk (tx (i+7)))):=by
 have hl:i<signsL.length:=by simp[signsL]; exact h
 rw[b2x hl];simp[signsL,List.getElem?_range h]
theorem a6d:signsL.length=48:=by simp[signsL]
noncomputable def poolL:List Nat:=(List.range 48).filter fun i=>i != 16&&i != 45
theorem b2y:∀i∈poolL,i<48∧i≠16∧i≠45:=fun i h=>by
 simp[poolL,List.mem_filter]at h; exact h
theorem a4w:poolL.length=46:=by decide +kernel
theorem c9v:(List.range 48).all (fun i=>(!([PyData.str (Str.ofString "."),.str (Str.ofString "...")]:List e1l).any fun y=>PyData.eqv y (.str (mk (tx (i+7)))))==(i != 16&&i != 45)&&SeqAt.shaped (.str (mk (tx (i+7)))))=true:=by decide +kernel
theorem c7e:SeqAt.shaped (.tuple [.str (Str.ofString "."),.str (Str.ofString "...")])=true:=by decide +kernel
theorem b2z{l:List Nat}(h:i<l.length):a2r (a0c l).length (i:Int)=some i∧(a0c l)[i]?=some (.int (l.getD i 0:Nat))∧(a0c l).eraseIdx i=a0c (l.eraseIdx i):=by
 refine⟨by rw[intsL_length]; exact a1d h,a2j h,?_⟩
 unfold a0c; rw[List.eraseIdx_eq_take_drop_succ,List.eraseIdx_eq_take_drop_succ]; simp
set_option backward.match.sparseCases false in
noncomputable def S.ws:S→List Str
 |.assign _ (.words _ ws)=>ws
 |_=>[]
theorem a5s(b j:Nat):((b:Int)^(j:Int).toNat)=((b^j:Nat):Int):=by rw[Int.toNat_natCast]; simp
theorem b0y(n:Nat):b9w 0 (n:Int).toNat=(List.range n).map fun(e:Nat)=>PyData.int (e:Int):=by
 rw[Int.toNat_natCast]
 have:=b7s 0 n
 rw[←List.range_eq_range']at this
 exact this
theorem b6j{b j:Nat}(hb:1≤b)(hb2:b≤100)(hj:j≤100):((b^j:Nat):Int)≠0∧((b^j:Nat):Int).natAbs<2^4000:=by
 have h1:0<b^j:=Nat.pow_pos hb;refine⟨by exact a0o (.n (.e (.c N0) (.z 0))) (.t (.k 0) N0) h1,?_⟩
 rw[Int.natAbs_natCast];refine Nat.lt_of_le_of_lt (Nat.pow_le_pow_left (show b≤2^7 by omega) j) ?_
 rw[←Nat.pow_mul];exact Nat.pow_lt_pow_right (by decide) (by exact a0o (.t (.m 0 7 N0) (.k 4000)) (.l N0 (.k 100)) hj)
noncomputable def b4i(nm:Nat→List Nat)(S:List (List Nat))(p:Nat):List (List Nat):=if p=0 then S++[[]]else S.dropLast++[S.getLastD []++nm p]
noncomputable def pcs(nm:Nat→List Nat)(l:List Nat):List (List Nat):=l.foldl (b4i nm) [[]]
theorem c0i(sep:List Nat)(b:List Nat):∀(A:List (List Nat)),jn sep (A++[b]++[[]])=jn sep (A++[b])++sep
 |[]=>by simp[jn]
 |[a]=>by simp[jn]
 |a::c::A=>by
  have:=c0i sep b (c::A)
  simp only[List.cons_append]at this ⊢;simp only[jn];rw[this]; simp
theorem d4j(sep:List Nat)(b x:List Nat):∀(A:List (List Nat)),jn sep (A++[b++x])=jn sep (A++[b])++x
 |[]=>by simp[jn]
 |[a]=>by simp[jn]
 |a::c::A=>by
  have:=d4j sep b x (c::A)
  simp only[List.cons_append]at this ⊢;simp only[jn];rw[this]; simp
theorem c4q(nm:Nat→List Nat)(S:List (List Nat))(p:Nat):b4i nm S p≠[]:=by
 unfold b4i; split <;> simp
theorem a6x(nm:Nat→List Nat)(l:List Nat)(p:Nat):pcs nm (l++[p])=b4i nm (pcs nm l) p:=by simp[pcs]
theorem a6q{P:List Nat→Prop}(h0:P [])(hs:∀l p,P l→P (l++[p])):∀l,P l:=by
 have:∀l:List Nat,P l.reverse:=by
  intro l
  induction l with
  |nil=>exact h0
  |cons a l ih=>rw[List.reverse_cons]; exact hs _ _ ih
 intro l;rw[←List.reverse_reverse l];exact this _
theorem b2o(nm:Nat→List Nat)(l:List Nat):pcs nm l≠[]:=by
 refine a6q (P:=fun l=>pcs nm l≠[]) (by simp[pcs]) (fun l p _=>?_) l
 rw[a6x]; exact c4q nm _ p
theorem a3i{S:List (List Nat)}(h:S≠[]):S=S.dropLast++[S.getLastD []]:=by
 obtain⟨m,x,rfl⟩:=b4d h;simp
theorem c3f(sep:List Nat)(nm:Nat→List Nat)(l:List Nat):jn sep (pcs nm l)=(l.map fun p=>if p=0 then sep else nm p).flatten:=by
 refine a6q (P:=fun l=>jn sep (pcs nm l)=(l.map fun p=>if p=0 then sep else nm p).flatten) (by simp[pcs,jn]) (fun l p ih=>?_) l
 rw[a6x,List.map_append,List.flatten_append,←ih];have hS:=a3i (b2o nm l);generalize pcs nm l=S at hS;unfold b4i
 by_cases hp:p=0
 ·rw[if_pos hp]
  generalize S.dropLast=A at hS;generalize S.getLastD []=b at hS;subst hS;rw[c0i]; simp[hp]
 ·rw[if_neg hp]
  generalize S.dropLast=A at hS ⊢;generalize S.getLastD []=b at hS ⊢;subst hS;rw[d4j]; simp[hp]
theorem c4c{P:List Nat→Prop}{nm:Nat→List Nat}(h0:P [])(hs:∀b p,P b→p≠0→P (b++nm p))(l:List Nat):∀b∈pcs nm l,P b:=by
 refine a6q (P:=fun l=>∀b∈pcs nm l,P b) (fun b hb=>by simp[pcs]at hb; rw[hb]; exact h0) (fun l p ih=>?_) l
 rw[a6x];have hS:=a3i (b2o nm l);intro b hb;unfold b4i at hb
 by_cases hp:p=0
 ·rw[if_pos hp]at hb
  rcases List.mem_append.mp hb with hb|hb
  ·exact ih b hb
  ·rw[List.mem_singleton.mp hb]; exact h0
 ·rw[if_neg hp]at hb
  rcases List.mem_append.mp hb with hb|hb
  ·exact ih b (List.dropLast_subset _ hb)
  ·rw[List.mem_singleton.mp hb]
   exact hs _ _ (ih _ (by rw[hS]; simp)) hp
theorem c8z(nm:Nat→List Nat)(m:Nat)(hm:∀p,(nm p).length≤m)(l:List Nat):(pcs nm l).length≤l.length+1∧∀b∈pcs nm l,b.length≤m*l.length:=by
 refine a6q (P:=fun l=>(pcs nm l).length≤l.length+1∧∀b∈pcs nm l,b.length≤m*l.length) ⟨by simp[pcs],fun b hb=>by simp[pcs]at hb; rw[hb]; simp⟩ (fun l p ih=>?_) l
 rw[a6x,List.length_append,List.length_singleton,Nat.mul_succ];have hS:=a3i (b2o nm l);unfold b4i
 by_cases hp:p=0
 ·rw[if_pos hp]
  refine⟨by simp; exact ih.1,fun b hb=>?_⟩
  rcases List.mem_append.mp hb with hb|hb
  ·have:=ih.2 b hb; exact a2c (.l N0 (.p N1 N2)) (.l N0 N1) this
  ·rw[List.mem_singleton.mp hb]; simp
 ·rw[if_neg hp]
  refine⟨by simp; exact a1b (.l N0 (.p (.p N1 O1) O1)) (.l N0 (.p N1 O1)) ih.1,fun b hb=>?_⟩
  rcases List.mem_append.mp hb with hb|hb
  ·have:=ih.2 b (List.dropLast_subset _ hb); exact a2c (.l N0 (.p N1 N2)) (.l N0 N1) this
  ·rw[List.mem_singleton.mp hb,List.length_append]
   have:=ih.2 ((pcs nm l).getLastD []) (by rw[hS]; simp)
   have:=hm p
   exact b2a (.l (.p N0 N1) (.p N2 N3)) (.l N0 N2) (.l N1 N3) ‹_› this
noncomputable def Flg:List Nat→List Nat→Prop
 |[],[]=>True
 |a::l,b::m=>(b=a∨b=a+128)∧Flg l m
 |_,_=>False
theorem b3e:∀{a b c:List Nat},Flg (a++b) c→∃c1 c2,c=c1++c2∧Flg a c1∧Flg b c2
 |[],b,c=>fun h=>⟨[],c,rfl,trivial,h⟩
 |x::a,b,[]=>fun h=>h.elim
 |x::a,b,y::c=>fun h=>by
  obtain⟨c1,c2,e,h1,h2⟩:=b3e h.2;exact⟨y::c1,c2,by rw[e]; rfl,⟨h.1,h1⟩,h2⟩
theorem c1z(b:Nat→Bool):∀(l:List Nat) (s:Nat),Flg l (((List.range' s l.length).zip l).map fun p=>p.2+128*(if b p.1=true then 1 else 0))
 |[]=>fun _=>trivial
 |a::l=>fun s=>by
  rw[List.length_cons,List.range'_succ,List.zip_cons_cons,List.map_cons];refine⟨?_,c1z b l (s+1)⟩;split
  ·exact .inr rfl
  ·exact .inl rfl
theorem c8p:∀{os os':List Nat} {acc v:Nat},(∀o∈os,o<128)→Flg os os'→vi acc os v→vi acc os' v
 |[],_,_,_,_,_,h=>h.elim
 |a::l,[],_,_,_,h,_=>h.elim
 |a::l,b::m,acc,v,h0,hf,h=>by
  have ha:=h0 a (.head _);have e1:b%64=a%64:=by rcases hf.1 with e|e <;> omega
  have e2:b/64%2=a/64%2:=by rcases hf.1 with e|e <;> omega
  refine⟨by rcases hf.1 with e|e <;> omega,?_⟩
  rw[e1,e2];have h2:=h.2
  split at h2
  ·rename_i hc
   refine ifp hc ?_;exact c8p (fun o ho=>h0 o (.tail _ ho)) hf.2 h2
  ·rename_i hc
   refine ifn hc ?_;obtain⟨rfl,h3⟩:=h2
   match m,hf.2 with
   |[],_=>exact⟨rfl,h3⟩
theorem a9s{Γ:Ctx}{α:Type}{g:α→e1l}{i:Nat}{G:G}{st0:St}{K:List e1l→St→Prop}(f:α→e1l):∀(l:List α) (acc:List e1l) (v:V),(∀a∈l,∀acc K,acc.length<1000000→K (acc++[f a]) (st0.set i (.dat (g a)))→wpG Γ G (st0.set i (.dat (g a))) acc K)→acc.length+l.length≤1000000→
  (∀w,K (acc++l.map f) (st0.set i w))→a1n (lpF Γ (.one i) G) (l.map g) (st0.set i v) acc K
 |[]=>fun acc v hs hl hk=>by have:=hk v; simp at this; exact this
 |a::l=>fun acc v hs hl hk=>by
  rw[List.length_cons]at hl;show wpG Γ G ((st0.set i v).set i (.dat (g a))) acc _;rw[b1h];refine hs a (.head _) acc _ (by exact a1b (.t N0 (.k 1000000)) (.l (.p N0 (.p N1 O1)) (.k 1000000)) hl) ?_
  refine a9s f l (acc++[f a]) _ (fun b hb=>hs b (.tail _ hb)) (by simp; exact a1b (.l (.p (.p N0 O1) N1) (.k 1000000)) (.l (.p N0 (.p N1 O1)) (.k 1000000)) hl) fun w=>?_
  have:=hk w
  simpa using this
theorem a7n{Γ:Ctx}{α:Type}{g:α→e1l}{G:G}{st0:St}{K:List e1l→St→Prop}{v:V}(f:α→e1l)(l:List α)(acc:List e1l)(hv:st0.vars[i]?=some v)(hs:∀a∈l,∀acc K,acc.length<1000000→K (acc++[f a]) (st0.set i (.dat (g a)))→wpG Γ G (st0.set i (.dat (g a))) acc K)(hl:acc.length+l.length≤1000000)
 (hk:∀w,K (acc++l.map f) (st0.set i w)):a1n (lpF Γ (.one i) G) (l.map g) st0 acc K:=by
 rw[a7y hv];exact a9s f l acc _ hs hl hk
theorem c6y{k:Nat}(h:shp k d):PyData.eqv d d=true:=SeqAt.eqv_refl d h.1
theorem d1x:(List.range 48).all (fun i=>decide ((tx (i+7)).length≤3)&&(tx (i+7)).all (fun c=>decide (c<256))&&(i==16||i==45 ||!(tx (i+7)).contains 46))=true:=by decide +kernel
theorem c9k{c:Nat}(h1:7≤c)(h2:c≤54):(tx c).length≤3∧(∀y∈tx c,y<256)∧(c≠23→c≠52→46∉tx c):=by
 have:=List.all_eq_true.mp d1x (c-7) (List.mem_range.mpr (by exact a0o (.t (.s N0 (.k 7)) (.k 48)) (.l N0 (.k 54)) h2))
 rw[show c-7+7=c by omega]at this
 simp only[Bool.and_eq_true,decide_eq_true_eq,List.all_eq_true,Bool.or_eq_true,beq_iff_eq,Bool.not_eq_true']at this
 obtain⟨⟨a1,a2⟩,a3⟩:=this
 refine⟨a1,a2,fun g1 g2 hm=>?_⟩
 rcases a3 with(a3|a3)|a3
 ·exact lc2 1 [_] [] .f (.n (.e N0 (.k 23))) (.e (.s N0 (.k 7)) (.k 16)) g1 a3
 ·exact lc2 1 [_] [] .f (.n (.e N0 (.k 52))) (.e (.s N0 (.k 7)) (.k 45)) g2 a3
 ·rw[List.contains_eq_mem,decide_eq_false_iff_not]at a3; exact a3 hm
theorem e0o:tx 52=a5q:=by decide +kernel
inductive F|atom(i:Nat)|not (f:F)|and (a b:F)|or (a b:F)
noncomputable abbrev Tn:=Nat×List Nat×Bool
noncomputable abbrev TF:=List Nat→Bool→List Tn
noncomputable def in1:List Nat→List Nat
 |[a,b,c,d,e]=>[a,c,b,e,d]
 |r=>r
noncomputable def in2:List Nat→List Nat
 |[a,b,c,d,e]=>[a,b,d,e,c]
 |r=>r
noncomputable def b9r(A:TF):TF:=fun r b=>A r (!b)++[(3,r,b)]
noncomputable def c8r(A B:TF):TF:=fun r b=>if b=true then B (in2 r) false++A (in1 r) false++(B (in2 r) true++A (in1 r) true)else A (in1 r) false++B (in2 r) false++(A (in1 r) true++B (in2 r) true)
namespace F
noncomputable def ev(t:Nat→Bool):F→Bool
 |atom i=>t i
 |not f=>!f.ev t
 |and a b=>a.ev t&&b.ev t
 |or a b=>a.ev t||b.ev t
noncomputable def turns:F→TF
 |atom i=>fun r b=>[(i,r,b)]
 |not f=>b9r f.turns
 |and a b=>c8r a.turns b.turns
 |or a b=>b9r (c8r (b9r a.turns) (b9r b.turns))
noncomputable def D:F→e1l
 |atom i=>.int (i:Nat)
 |not f=>.list [.str (Mw.Internal.mk [126]),f.D]
 |and a b=>.list [.str (Mw.Internal.mk [38]),a.D,b.D]
 |or a b=>.list [.str (Mw.Internal.mk [124]),a.D,b.D]
noncomputable def dep:F→Nat
 |atom _=>2
 |not f=>f.dep+1
 |and a b=>max a.dep b.dep+1
 |or a b=>max a.dep b.dep+4
noncomputable def len:F→Nat
 |atom _=>1
 |not f=>f.len+1
 |and a b=>2*(a.len+b.len)
 |or a b=>2*(a.len+b.len)+5
def Ok:F→Prop
 |atom i=>i<3
 |not f=>f.Ok
 |and a b=>a.Ok∧b.Ok
 |or a b=>a.Ok∧b.Ok
end F
noncomputable def rings:List (List Nat):=[[1,2,3,4,5],[1,2,3,5,4],[1,2,4,3,5],[1,2,4,5,3],[1,2,5,3,4],[1,2,5,4,3],[1,3,2,4,5],[1,3,2,5,4],[1,3,4,2,5],[1,3,4,5,2],[1,3,5,2,4],[1,3,5,4,2],[1,4,2,3,5],[1,4,2,5,3],[1,4,3,2,5],[1,4,3,5,2],[1,4,5,2,3],[1,4,5,3,2],[1,5,2,3,4],[1,5,2,4,3],[1,5,3,2,4],[1,5,3,4,2],[1,5,4,2,3],[1,5,4,3,2]]
noncomputable def five:List Nat:=[1,2,3,4,5]
noncomputable def mv(r:List Nat)(b:Bool)(p:Nat):Nat:=r.getD ((r.idxOf p+(if b=true then 4 else 1))%5) 0
noncomputable def act(told:Nat→Bool)(ts:List Tn)(p:Nat):Nat:=ts.foldl (fun p t=>if told t.1=true then mv t.2.1 t.2.2 p else p) p
theorem a9q(told:Nat→Bool)(a b:List Tn)(p:Nat):act told (a++b) p=act told b (act told a p):=by unfold act; rw[List.foldl_append]
theorem b1n:rings.all (fun r=>rings.contains (in1 r)&&rings.contains (in2 r)&&five.all fun p=>five.contains (mv r false p)&&five.contains (mv r true p)&&mv r true (mv r false p)==p&&mv r false (mv r true p)==p
  && mv (in2 r) true (mv (in1 r) true (mv (in2 r) false (mv (in1 r) false p)))==mv r false p&&mv (in1 r) true (mv (in2 r) true (mv (in1 r) false (mv (in2 r) false p)))==mv r true p)=true:=by decide +kernel
section
variable {r:List Nat} (hr:r∈rings)
include hr
theorem b4j:in1 r∈rings:=by
 have:=List.all_eq_true.mp b1n r hr
 simp only[Bool.and_eq_true,List.contains_iff_mem]at this
 exact this.1.1
theorem b5f:in2 r∈rings:=by
 have:=List.all_eq_true.mp b1n r hr
 simp only[Bool.and_eq_true,List.contains_iff_mem]at this
 exact this.1.2
theorem a1z{p:Nat}(hp:p∈five):mv r false p∈five∧mv r true p∈five∧mv r true (mv r false p)=p∧mv r false (mv r true p)=p ∧
  mv (in2 r) true (mv (in1 r) true (mv (in2 r) false (mv (in1 r) false p)))=mv r false p∧mv (in1 r) true (mv (in2 r) true (mv (in1 r) false (mv (in2 r) false p)))=mv r true p:=by
 have:=List.all_eq_true.mp b1n r hr
 rw[Bool.and_eq_true]at this
 have:=List.all_eq_true.mp this.2 p hp
 simp only[Bool.and_eq_true,List.contains_iff_mem,beq_iff_eq]at this
 obtain⟨⟨⟨⟨⟨a,b⟩,c⟩,d⟩,e⟩,f⟩:=this
 exact⟨a,b,c,d,e,f⟩
end
def Tok(told:Nat→Bool)(A:TF)(v:Bool):Prop:=∀r∈rings,∀b,∀p∈five,act told (A r b) p=if v=true then mv r b p else p
section
variable {told:Nat→Bool} (h3:told 3=true)
include h3
theorem b0m{A:TF}{v:Bool}(h:Tok told A v):Tok told (b9r A) (!v):=by
 intro r hr b p hp;obtain⟨h1,h2,h4,h5,_⟩:=a1z hr hp;rw[b9r,a9q,h r hr (!b) p hp];show(if told 3=true then _ else _)=_
 rw[if_pos h3];cases v <;> cases b <;> first|rfl|exact h4|exact h5
end
theorem c4d{told:Nat→Bool}{A B:TF}{v w:Bool}(h:Tok told A v)(g:Tok told B w):Tok told (c8r A B) (v&&w):=by
 intro r hr b p hp;have m1:=b4j hr;have m2:=b5f hr;obtain⟨_,_,_,_,e1,e2⟩:=a1z hr hp;obtain⟨a1,a2,a3,a4,_⟩:=a1z m1 hp;obtain⟨b1,b2,b3,b4,_⟩:=a1z m2 hp;have c1:=(a1z m2 a1).1;have c2:=(a1z m1 b1).1;have d1:=(a1z m1 c1).2.1;have d2:=(a1z m2 c2).2.1;unfold c8r;cases b <;> cases v <;> cases w <;> simp only[Bool.false_eq_true,if_false,if_true,a9q,Bool.and_true,Bool.and_false,h _ m1 _ _ hp,g _ m2 _ _ hp,h _ m1 _ _ b1,g _ m2 _ _ a1,h _ m1 _ _ c1,g _ m2 _ _ c2,h _ m1 _ _ a1,g _ m2 _ _ b1,h _ m1 _ _ d2,g _ m2 _ _ d1,a3,b3,e1,e2]
namespace F
theorem turns_tok{told:Nat→Bool}(h3:told 3=true):∀f:F,Tok told f.turns (f.ev told)
 |atom i=>fun r hr b p hp=>rfl
 |not f=>b0m h3 (turns_tok h3 f)
 |and a b=>c4d (turns_tok h3 a) (turns_tok h3 b)
 |or a b=>by
  have:=b0m h3 (c4d (b0m h3 (turns_tok h3 a)) (b0m h3 (turns_tok h3 b)))
  have e:(!(!a.ev told && !b.ev told))=(a.ev told||b.ev told):=by cases a.ev told <;> cases b.ev told <;> rfl
  rw[e]at this
  exact this
end F
def b8a(A:TF)(m:Nat):Prop:=∀r∈rings,∀b,(A r b).length≤m∧∀t∈A r b,t.1≤3∧t.2.1∈rings
theorem a2u{A:TF}{m:Nat}(h:b8a A m):b8a (b9r A) (m+1):=fun r hr b=>by
 obtain⟨h1,h2⟩:=h r hr (!b);unfold b9r;refine⟨by simpa using h1,fun t ht=>?_⟩
 rcases List.mem_append.mp ht with ht|ht
 ·exact h2 t ht
 ·rw[List.mem_singleton.mp ht]; exact⟨Nat.le_refl _,hr⟩
theorem a6t{A B:TF}{m n:Nat}(h:b8a A m)(g:b8a B n):b8a (c8r A B) (2*(m+n)):=fun r hr b=>by
 have m1:=b4j hr;have m2:=b5f hr;have a1:=h _ m1 false;have a2:=h _ m1 true;have b1:=g _ m2 false;have b2:=g _ m2 true;unfold c8r;cases b
 ·refine⟨by simp; omega,fun t ht=>?_⟩
  simp only[Bool.false_eq_true,if_false,List.mem_append]at ht
  rcases ht with(ht|ht)|(ht|ht)
  ·exact a1.2 t ht
  ·exact b1.2 t ht
  ·exact a2.2 t ht
  ·exact b2.2 t ht
 ·refine⟨by simp; omega,fun t ht=>?_⟩
  simp only[if_true,List.mem_append]at ht
  rcases ht with(ht|ht)|(ht|ht)
  ·exact b1.2 t ht
  ·exact a1.2 t ht
  ·exact b2.2 t ht
  ·exact a2.2 t ht
namespace F
theorem turns_good:∀f:F,f.Ok→b8a f.turns f.len
 |atom i,h=>fun r hr b=>⟨Nat.le_refl _,fun t ht=>by
  have ht:t∈[(i,r,b)]:=ht;rw[List.mem_singleton.mp ht];exact⟨Nat.le_of_lt h,hr⟩⟩
 |not f,h=>a2u (turns_good f h)
 |and a b,h=>a6t (turns_good a h.1) (turns_good b h.2)
 |or a b,h=>by
  have:=a2u (a6t (a2u (turns_good a h.1)) (a2u (turns_good b h.2)))
  intro r hr b'
  have:=this r hr b'
  refine⟨?_,this.2⟩;have h1:=this.1;show _≤2*(a.len+b.len)+5;refine Nat.le_trans h1 (by exact b2b (.l (.p (.m 0 2 (.p (.p N0 O1) (.p N1 O1))) O1) (.p (.m 0 2 (.p N0 N1)) (.k 5))))
end F
noncomputable def c1i(i:Nat)(u:Nat):F:=if u%2=1 then .not (.atom i)else .atom i
noncomputable def d5f(u:Nat)(a b:F):F:=if u/2%2=0 then .and a b else .or a b
noncomputable def a8x(x k u:Nat)(w:F):F:=if u/4%2=0 then d5f u w (c1i ((x+k)%3) u)else d5f u (c1i ((x+k)%3) u) w
noncomputable def a4a(x:Nat):F:=if x/3/8/8%2=1 then .not (a8x x 2 (x/3/8) (a8x x 1 (x/3) (.atom (x%3))))else a8x x 2 (x/3/8) (a8x x 1 (x/3) (.atom (x%3)))
theorem d4q(i u:Nat)(h:i<3):(c1i i u).Ok∧(c1i i u).dep≤3∧(c1i i u).len≤2:=by
 unfold c1i; split
 ·exact⟨h,Nat.le_refl _,Nat.le_refl _⟩
 ·exact⟨h,(by decide:2≤3),(by decide:1≤2)⟩
theorem c3i{x k u:Nat}{w:F}{d m:Nat}(h:w.Ok)(hd:w.dep≤d)(hm:w.len≤m)(h3:3≤d):(a8x x k u w).Ok∧(a8x x k u w).dep≤d+4∧(a8x x k u w).len≤2*(m+2)+5:=by
 obtain⟨l1,l2,l3⟩:=d4q ((x+k)%3) u (Nat.mod_lt _ (by decide))
 unfold a8x d5f
 split <;> split
 ·refine⟨⟨h,l1⟩,?_,?_⟩ <;> simp only[F.dep,F.len] <;> (first|exact a2a (.l (.p (.b 3 N0 N1) O1) (.p N2 (.k 4))) (.l N0 N2) (.l N1 (.k 3)) hd l2|exact a2a (.l (.m 0 2 (.p N0 N1)) (.p (.m 0 2 (.p N2 (.k 2))) (.k 5))) (.l N0 N2) (.l N1 (.k 2)) hm l3|omega)
 ·refine⟨⟨h,l1⟩,?_,?_⟩ <;> simp only[F.dep,F.len] <;> (first|exact lc3 3 [_,_,_] [] (.l (.p (.b 3 N0 N1) (.k 4)) (.p N2 (.k 4))) (.l N0 N2) (.l (.k 3) N2) (.l N1 (.k 3)) hd h3 l2|exact a2a (.l (.p (.m 0 2 (.p N0 N1)) (.k 5)) (.p (.m 0 2 (.p N2 (.k 2))) (.k 5))) (.l N0 N2) (.l N1 (.k 2)) hm l3|omega)
 ·refine⟨⟨l1,h⟩,?_,?_⟩ <;> simp only[F.dep,F.len] <;> (first|exact a2a (.l (.p (.b 3 N0 N1) O1) (.p N2 (.k 4))) (.l N1 N2) (.l N0 (.k 3)) hd l2|exact a2a (.l (.m 0 2 (.p N0 N1)) (.p (.m 0 2 (.p N2 (.k 2))) (.k 5))) (.l N1 N2) (.l N0 (.k 2)) hm l3|omega)
 ·refine⟨⟨l1,h⟩,?_,?_⟩ <;> simp only[F.dep,F.len] <;> (first|exact lc3 3 [_,_,_] [] (.l (.p (.b 3 N0 N1) (.k 4)) (.p N2 (.k 4))) (.l N1 N2) (.l (.k 3) N2) (.l N0 (.k 3)) hd h3 l2|exact a2a (.l (.p (.m 0 2 (.p N0 N1)) (.k 5)) (.p (.m 0 2 (.p N2 (.k 2))) (.k 5))) (.l N1 N2) (.l N0 (.k 2)) hm l3|omega)
theorem b7i(x:Nat):(a4a x).Ok∧(a4a x).dep≤12∧(a4a x).len≤32:=by
 obtain⟨a1,a2,a3⟩:=c3i (x:=x) (k:=1) (u:=x/3) (w:=.atom (x%3)) (d:=3) (m:=1) (Nat.mod_lt _ (by decide)) (show 2≤3 by decide) (Nat.le_refl _) (Nat.le_refl _)
 obtain⟨b1,b2,b3⟩:=c3i (x:=x) (k:=2) (u:=x/3/8) a1 a2 a3 (by omega)
 unfold a4a;split
 ·refine⟨b1,?_,?_⟩ <;> simp only[F.dep,F.len] <;> (first|exact a0o (.l (.p N0 O1) (.k 12)) (.l N0 (.p (.p (.k 3) (.k 4)) (.k 4))) b2|exact a0o (.l (.p N0 O1) (.k 32)) (.l N0 (.p (.m 0 2 (.p (.p (.m 0 2 (.p O1 (.k 2))) (.k 5)) (.k 2))) (.k 5))) b3|omega)
 ·exact⟨b1,by omega,by omega⟩
theorem b0r:(Str.ofString "~")=mk [126]:=by decide +kernel
theorem c7d:(Str.ofString "&")=mk [38]:=by decide +kernel
theorem d2s:(Str.ofString "|")=mk [124]:=by decide +kernel
theorem d1f{α:Type}(a:α)(l:List α):cut (a::l) (some 1) none=l:=a6w (a::l) 1
theorem F.dep2:∀f:F,2≤f.dep
 |.atom _=>Nat.le_refl _
 |.not f=>by have:=F.dep2 f; simp only[F.dep]; exact a0o (.l (.k 2) (.p N0 O1)) (.l (.k 2) N0) this
 |.and a b=>by have:=F.dep2 a; simp only[F.dep]; exact a1b (.l (.k 2) (.p (.b 3 N0 N1) O1)) (.l (.k 2) N0) this
 |.or a b=>by have:=F.dep2 a; simp only[F.dep]; omega
noncomputable def a3e(l:List Bool):List e1l:=l.map .bool
theorem b8r{l:List Bool}{k:Nat}(h:k<l.length):(a3e l)[k]?=some (.bool (l.getD k false)):=by
 simp[a3e,List.getElem?_eq_getElem h]
theorem a9z{fits:List Bool}(hl:fits.length=4):∀(f:F) (n:Nat) (ow:List OV) (Q:V→List OV→Prop),f.Ok→f.dep≤n→Q (.dat (.bool (f.ev (fits.getD · false)))) ow→
  a0y n 13 true [] [.dat f.D,.dat (.list (a3e fits))] ow Q
 |.atom i,n,ow,Q,ok,hn,h=>by
  obtain⟨l,rfl⟩:∃m,n=m+2:=⟨n-2,by dsimp only[F.dep]at hn; omega⟩
  have ok:i<3:=ok;refine⟨Nat.succ_pos _,fun _=>rfl,rfl,rfl,?_⟩;have hb:(a3e fits).length=4:=by simp[a3e,hl]
  refine wq2 ?_;simp_all![F.D];refine wq2 ?_;simp_all![hb,a1d (show i<4 by exact a0o (.t N0 (.k 4)) (.t N0 (.k 3)) ok),b8r (show i<fits.length by exact a1m (.t N0 N1) (.e N1 (.k 4)) (.t N0 (.k 3)) hl ok)]
  refine⟨by exact a0o (.a (.l (.z (Int.neg 1000000)) (.c N0)) (.l (.c N0) (.z 1000000))) (.t N0 (.k 3)) ok,?_⟩
  rw[List.take_length];exact h
 |.not f,n,ow,Q,ok,hn,h=>by
  have h2:=F.dep2 f;dsimp only[F.dep]at hn;obtain⟨l,rfl⟩:∃m,n=m+2:=⟨n-2,by exact a1m (.e N0 (.p (.s N0 (.k 2)) (.k 2))) (.l (.p N1 O1) N0) (.l (.k 2) N1) hn h2⟩
  refine⟨Nat.succ_pos _,fun _=>rfl,rfl,rfl,?_⟩;refine wq2 ?_;simp_all![F.D]
  (refine wq1 ?_; refine wq2 ?_)
  simp_all![d1f];refine⟨by decide,?_⟩
  dsimp only[a1n];refine lqF ?_;simp_all![];refine a9z hl f _ _ _ ok (by exact a1b (.l N0 (.p N1 O1)) (.l (.p N0 O1) (.p N1 (.k 2))) hn) ⟨⟨_,rfl⟩,?_⟩
  simp_all![];refine⟨by decide,?_⟩
  refine wq2 ?_;simp_all![b0r];refine⟨by decide,?_⟩
  refine ifp (by decide) ?_
  rw[List.take_length];exact⟨by decide,h⟩
 |.and a b,n,ow,Q,ok,hn,h=>by
  have h2:=F.dep2 a;dsimp only[F.dep]at hn;obtain⟨l,rfl⟩:∃m,n=m+2:=⟨n-2,by exact a2a (.e N0 (.p (.s N0 (.k 2)) (.k 2))) (.l (.p (.b 3 N1 N2) O1) N0) (.l (.k 2) N1) hn h2⟩
  refine⟨Nat.succ_pos _,fun _=>rfl,rfl,rfl,?_⟩;refine wq2 ?_;simp_all![F.D]
  (refine wq1 ?_; refine wq2 ?_)
  simp_all![d1f];refine⟨by decide,?_⟩
  dsimp only[a1n];refine lqF ?_;simp_all![];refine a9z hl a _ _ _ ok.1 (by exact a2c (.l N0 (.p N1 O1)) (.l (.p (.b 3 N0 N2) O1) (.p N1 (.k 2))) hn) ⟨⟨_,rfl⟩,?_⟩
  simp_all![];refine⟨by decide,?_⟩
  refine lqF ?_;simp_all![];refine a9z hl b _ _ _ ok.2 (by exact a2c (.l N0 (.p N1 O1)) (.l (.p (.b 3 N2 N0) O1) (.p N1 (.k 2))) hn) ⟨⟨_,rfl⟩,?_⟩
  simp_all![];refine⟨by decide,?_⟩
  refine wq2 ?_;simp_all![b0r,c7d];refine⟨by decide,?_⟩
  refine ifn (by decide) ?_
  refine⟨by decide,?_⟩
  refine ifp (by decide) ?_
  rw[List.take_length];refine⟨by decide,?_⟩
  dsimp only[F.ev]at h;cases ha:a.ev (fits.getD · false) <;> rw[ha]at h
  ·exact h
  ·exact⟨by decide,h⟩
 |.or a b,n,ow,Q,ok,hn,h=>by
  have h2:=F.dep2 a;dsimp only[F.dep]at hn;obtain⟨l,rfl⟩:∃m,n=m+2:=⟨n-2,by exact a2c (.e N0 (.p (.s N0 (.k 2)) (.k 2))) (.l (.p (.b 3 N1 N2) (.k 4)) N0) hn⟩
  refine⟨Nat.succ_pos _,fun _=>rfl,rfl,rfl,?_⟩;refine wq2 ?_;simp_all![F.D]
  (refine wq1 ?_; refine wq2 ?_)
  simp_all![d1f];refine⟨by decide,?_⟩
  dsimp only[a1n];refine lqF ?_;simp_all![];refine a9z hl a _ _ _ ok.1 (by exact a2c (.l N0 (.p N1 O1)) (.l (.p (.b 3 N0 N2) (.k 4)) (.p N1 (.k 2))) hn) ⟨⟨_,rfl⟩,?_⟩
  simp_all![];refine⟨by decide,?_⟩
  refine lqF ?_;simp_all![];refine a9z hl b _ _ _ ok.2 (by exact a2c (.l N0 (.p N1 O1)) (.l (.p (.b 3 N2 N0) (.k 4)) (.p N1 (.k 2))) hn) ⟨⟨_,rfl⟩,?_⟩
  simp_all![];refine⟨by decide,?_⟩
  refine wq2 ?_;simp_all![b0r,c7d];refine⟨by decide,?_⟩
  refine ifn (by decide) ?_
  refine⟨by decide,?_⟩
  refine ifn (by decide) ?_
  rw[List.take_length];refine⟨by decide,?_⟩
  dsimp only[F.ev]at h;cases ha:a.ev (fits.getD · false) <;> rw[ha]at h
  ·exact⟨by decide,h⟩
  ·exact h
theorem m01(a:Nat):a%2=0∨a%2=1:=by exact a0o (.b 1 (.e N0 (.k 0)) (.e N0 O1)) (.t N0 (.k 2)) (ml rfl)
theorem d5a(u:Nat)(a b:F):(d5f u a b).D=.list [.str (mk (if u/2%2=0 then[38]else[124])),a.D,b.D]:=by
 unfold d5f
 rcases m01 (u/2)with e|e <;> rw[e] <;> rfl
theorem d3n (u:Nat):(a2r (1+1) ((u/2%2:Nat):Int)).bind (fun i=>[PyData.str (Str.ofString "&"),.str (Str.ofString "|")][i]?)=some (.str (mk (if u/2%2=0 then[38]else[124]))):=by
 rcases m01 (u/2)with e|e <;> rw[e]
 ·exact congrArg (fun s=>some (PyData.str s)) c7d
 ·exact congrArg (fun s=>some (PyData.str s)) d2s
theorem eq1(a:Nat):(((a%2:Nat):Int)==1)=decide (a%2=1):=by rcases m01 a with e|e <;> rw[e] <;> rfl
theorem eq0(a:Nat):(((a%2:Nat):Int)==0)=decide (a%2=0):=by rcases m01 a with e|e <;> rw[e] <;> rfl
theorem c9f{n x:Nat}{ow:List OV}{Q:V→List OV→Prop}(hn:2≤n)(h:Q (.dat (a4a x).D) ow):a0y n 12 true [] [.dat (.int x)] ow Q:=by
 obtain⟨l,rfl⟩:∃m,n=m+2:=⟨n-2,by omega⟩
 refine⟨Nat.succ_pos _,fun _=>rfl,rfl,rfl,?_⟩;have f2:∀a:Nat,Int.fmod (a:Int) 2=((a%2:Nat):Int):=fun a=>a0p a 2;have f3:∀a:Nat,Int.fmod (a:Int) 3=((a%3:Nat):Int):=fun a=>a0p a 3;have d3:∀a:Nat,Int.fdiv (a:Int) 3=((a/3:Nat):Int):=fun a=>a0u a 3;have d2:∀a:Nat,Int.fdiv (a:Int) 2=((a/2:Nat):Int):=fun a=>a0u a 2;have d4:∀a:Nat,Int.fdiv (a:Int) 4=((a/4:Nat):Int):=fun a=>a0u a 4;have d8:∀a:Nat,Int.fdiv (a:Int) 8=((a/8:Nat):Int):=fun a=>a0u a 8;have step:∀(k u:Nat) (w:F) (v4:V) {K:Fl→St→Prop},(∀v4,K .next ⟨[.dat (.int x),.dat (a8x x k u w).D,.dat (.int (u/8:Nat)),.dat (.int k),v4],ow,true⟩)→
   a1f (a0y (l+1)) a0i L2.law_shape.tl.hd.body ⟨[.dat (.int x),.dat w.D,.dat (.int u),.dat (.int k),v4],ow,true⟩ K:=by
  intro k u w v4 K hK;have ek:(x:Int)+(k:Int)=((x+k:Nat):Int):=by omega
  have mid:∀{v4:V},v4=.dat (c1i ((x+k)%3) u).D→a1f (a0y (l+1)) a0i L2.law_shape.tl.hd.body.tl ⟨[.dat (.int x),.dat w.D,.dat (.int u),.dat (.int k),v4],ow,true⟩ K:=by
   rintro v4 rfl
   have hK:=hK (.dat (c1i ((x+k)%3) u).D);unfold a8x at hK;generalize c1i ((x+k)%3) u=p at hK ⊢;refine wq2 ?_;simp_all![f2,d2,d4,d3n,eq0];refine⟨⟨by decide,a0x (by decide)⟩,by decide,by exact a0o (.a (.l (.z (Int.neg 1000000)) (.c N0)) (.l (.c N0) (.z 1000000))) (.t N0 (.k 2)) (ml rfl),⟨by decide,a0x (by decide)⟩,by decide,?_⟩
   by_cases h4:u/4%2=0
   ·rw[if_pos h4,d5a]at hK
    refine ifp (by simpa using h4) ⟨by decide,?_⟩
    refine wq2 ?_;simp_all![d8];exact⟨⟨by decide,a0x (by decide)⟩,hK⟩
   ·rw[if_neg h4,d5a]at hK
    refine ifn (by simpa using h4) ⟨by decide,?_⟩
    refine wq2 ?_;simp_all![d8];exact⟨⟨by decide,a0x (by decide)⟩,hK⟩
  refine wq2 ?_;simp_all![f2,f3,ek,eq1];refine⟨by decide,?_⟩
  by_cases h2:u%2=1
  ·refine ifp (by simpa using h2) ⟨by decide,mid ?_⟩
   unfold c1i;rw[if_pos h2,b0r]
   rfl
  ·refine ifn (by simpa using h2) ⟨by decide,mid ?_⟩
   unfold c1i;rw[if_neg h2]
   rfl
 refine wq2 ?_;simp_all![f3,d3];refine⟨by decide,⟨by decide,a0x (by decide)⟩,?_⟩
 (refine wq2 ?_; refine wqf ?_)
 simp_all![];dsimp only[a6f];refine lqS ?_;simp_all![];refine step 1 (x/3) (.atom (x%3)) _ fun v4=>?_;refine lqS ?_;simp_all![];refine step 2 (x/3/8) _ _ fun v4=>?_;refine wq2 ?_;simp_all![f2,eq1];refine⟨by decide,?_⟩
 rw[List.take_length];unfold a4a at h
 by_cases h2:x/3/8/8%2=1
 ·rw[if_pos h2]at h
  refine ifp (by simpa using h2) ?_
  rw[b0r];exact h
 ·rw[if_neg h2]at h
  exact ifn (by simpa using h2) h
variable {d0 d1 d2 d3 d4 d5 d6 d7 d8 d10 d11 d12 d9 d13 d14 d15 d16 d17 v20 v21 d22 d23 d24 d25 d26 d28 d18 d19 d20 d21 d27 v19 v18 v17 v11 v12 v13 v14 v15 v16 s1 v2 v3 v4 v5 v6 v7 v8 v9 v10 v1 v22 v23 v24 v51 v25 v26 v27:V}
noncomputable def tD(t:Tn):e1l:=.list [.int (t.1:Nat),.list (a0c t.2.1),.bool t.2.2]
noncomputable def tsD(l:List Tn):List e1l:=l.map tD
theorem d1q:∀r∈rings,r.length=5:=by decide +kernel
theorem c9b(h:r.length=5):∃a b c d e,r=[a,b,c,d,e]:=match r,h with
 |[a,b,c,d,e],_=>⟨a,b,c,d,e,rfl⟩
def TOK(f:F)(A:TF)(m:Nat):Prop:=(∀r∈rings,∀b,(A r b).length≤1000)∧∀(n:Nat) (r:List Nat) (b:Bool) (ow:List OV) (Q:V→List OV→Prop),r∈rings→m≤n→Q (.dat (.list (tsD (A r b)))) ow→a0y n 14 true [] [.dat f.D,.dat (.list (a0c r)),.dat (.bool b)] ow Q
theorem d7x(i:Nat):TOK (.atom i) (fun r b=>[(i,r,b)]) 2:=by
 refine⟨fun r _ b=>(by decide:1≤1000),fun n r b ow Q hr hn h=>?_⟩
 obtain⟨l,rfl⟩:∃m,n=m+2:=⟨n-2,by omega⟩
 refine⟨Nat.succ_pos _,fun _=>rfl,rfl,rfl,?_⟩;refine wq2 ?_;simp_all![F.D];refine wq2 ?_;simp_all![];rw[List.take_length];exact h
theorem d7j{f:F}{A:TF}{m:Nat}(hA:TOK f A m)(h9:∀r∈rings,∀b,(b9r A r b).length≤1000)(hm:2≤m):TOK (.not f) (b9r A) (m+1):=by
 refine⟨h9,fun n r b ow Q hr hn h=>?_⟩;obtain⟨l,rfl⟩:∃k,n=k+2:=⟨n-2,by exact a1m (.e N0 (.p (.s N0 (.k 2)) (.k 2))) (.l (.k 2) N1) (.l (.p N1 O1) N0) hm hn⟩
 refine⟨Nat.succ_pos _,fun _=>rfl,rfl,rfl,?_⟩;refine wq2 ?_;simp_all![F.D]
 (refine wq1 ?_; refine wq2 ?_)
 simp_all![b0r];refine⟨by decide,ifp (by decide) ?_⟩
 refine wq2 ?_;simp_all![];refine⟨by decide,hA.2 _ r (!b) _ _ hr (by exact a1b (.l N0 (.p N1 O1)) (.l (.p N0 O1) (.p N1 (.k 2))) hn) ⟨⟨_,rfl⟩,?_⟩⟩
 simp_all![]
 have:=hA.1 r hr (!b)
 refine⟨by unfold tsD; rw[List.length_map]; exact a0o (.l (.p N0 O1) (.k 1000000)) (.l N0 (.k 1000)) this,?_⟩
 rw[List.take_length];have e:tsD (A r (!b))++[.list [.int 3,.list (a0c r),.bool b]]=tsD (b9r A r b):=by unfold tsD b9r; rw[List.map_append]; rfl
 rw[e];exact h
theorem TOK.mono{f:F}{A:TF}{m k:Nat}(h:TOK f A m)(hk:m≤k):TOK f A k:=⟨h.1,fun n r b ow Q hr hn=>h.2 n r b ow Q hr (Nat.le_trans hk hn)⟩
theorem b1c{cf:F}{C:TF}{m l:Nat}{c:List Nat}{w:Bool}{ow:List OV}{K:List e1l→St→Prop}(hC:TOK cf C m)(hc:c∈rings)(hl:m≤l)(ha:acc.length≤3000)(hK:∀v,K (acc++tsD (C c w)) ⟨[d0,d1,d2,d3,d4,d5,d6,d7,d8,.dat (.bool w),.dat cf.D,.dat (.list (a0c c)),v],ow,true⟩) :
  lpF (a0y l) (.tup [10,11]) (.for (.one 12) (.over (.call 14 (.cons (.var 10) (.cons (.var 11) (.cons (.var 9) .nil))))) (.elt (.var 12))) (.list [cf.D,.list (a0c c)]) ⟨[d0,d1,d2,d3,d4,d5,d6,d7,d8,.dat (.bool w),d10,d11,d12],ow,true⟩ acc K:=by
 refine lqF ?_;simp_all![];have h9:=hC.1 c hc w;refine hC.2 _ c w _ _ hc hl ⟨⟨_,rfl⟩,?_⟩;simp_all![];refine a7n (i:=12) (g:=tD) tD (C c w) acc rfl (fun t _ acc K hacc hK=>?_) (by exact a1m (.l (.p N0 N1) (.k 1000000)) (.l N0 (.k 3000)) (.l N1 (.k 1000)) ha h9) fun v=>hK v
 simp_all![];exact⟨hacc,hK⟩
theorem e0b{f g:F}{A B:TF}{m:Nat}(hA:TOK f A m)(hB:TOK g B m)(h9:∀r∈rings,∀b,(c8r A B r b).length≤1000)(hm:2≤m):TOK (.and f g) (c8r A B) (m+1):=by
 refine⟨h9,fun n r b ow Q hr hn h=>?_⟩;obtain⟨l,rfl⟩:∃k,n=k+2:=⟨n-2,by exact a1m (.e N0 (.p (.s N0 (.k 2)) (.k 2))) (.l (.k 2) N1) (.l (.p N1 O1) N0) hm hn⟩
 have m1:=b4j hr;have m2:=b5f hr;obtain⟨r0,r1,r2,r3,r4,rfl⟩:=c9b (d1q r hr);refine⟨Nat.succ_pos _,fun _=>rfl,rfl,rfl,?_⟩;dsimp only[L2.law_turns,L2.law_turns_nl];have er:a0c [r0,r1,r2,r3,r4]=[.int (r0:Int),.int (r1:Int),.int (r2:Int),.int (r3:Int),.int (r4:Int)]:=rfl;rw[er];refine wq2 ?_;simp_all![F.D]
 (refine wq1 ?_; refine wq2 ?_)
 simp_all![b0r];refine⟨by decide,ifn (by decide) ?_⟩
 (refine wq1 ?_; refine wq2 ?_)
 simp_all![d2s];refine⟨by decide,ifn (by decide) ?_⟩
 (refine wq1 ?_; refine wq2 ?_)
 simp_all![];refine wq2 ?_;refine And.intro (by decide) (And.intro (by decide) ?_)
 refine wq2 ?_;have key:∀(C D:TF) (cf df:F) (c d:List Nat) (b8:Bool),TOK cf C m→TOK df D m→c∈rings→d∈rings→Q (.dat (.list (tsD ((C c false++D d false)++(C c true++D d true))))) ow→a1f (a0y (l+1)) a0i L2.law_turns.tl.tl.tl.tl.tl.tl ⟨[.dat (F.D (.and f g)),.dat (.list [.int (r0:Int),.int (r1:Int),.int (r2:Int),.int (r3:Int),.int (r4:Int)]),.dat (.bool b8),.dat (.int (r0:Int)),.dat (.int (r1:Int)),.dat (.int (r2:Int)),.dat (.int (r3:Int)),.dat (.int (r4:Int)),.dat (.list [.list [cf.D,.list (a0c c)],.list [df.D,.list (a0c d)]]),.undef,.undef,.undef,.undef],ow,true⟩ fun fl st=>Q (.dat (match fl with|.ret d=>d|.next=>.none)) (st.own.take ow.length):=by
  intro C D cf df c d b8 hC hD hc hd hQ;have c1:=hC.1 c hc false;have c2:=hC.1 c hc true;have d1:=hD.1 d hd false;have d2:=hD.1 d hd true;refine wq2 ?_;simp_all![];dsimp only[a1n];refine lqF ?_;simp_all![];dsimp only[a1n];refine b1c hC hc (by exact a1b (.l N0 (.p N1 O1)) (.l (.p N0 O1) (.p N1 (.k 2))) hn) (Nat.zero_le _) fun v=>?_
  refine b1c hD hd (by exact a1b (.l N0 (.p N1 O1)) (.l (.p N0 O1) (.p N1 (.k 2))) hn) (by simp only[tsD,List.length_append,List.length_map,List.length_nil]; exact a0o (.l (.p (.k 0) N0) (.k 3000)) (.l N0 (.k 1000)) c1) fun v=>?_
  refine lqF ?_;simp_all![];dsimp only[a1n];refine b1c hC hc (by exact a1b (.l N0 (.p N1 O1)) (.l (.p N0 O1) (.p N1 (.k 2))) hn) (by simp only[tsD,List.length_append,List.length_map,List.length_nil]; exact a1m (.l (.p N0 N1) (.k 3000)) (.l N0 (.k 1000)) (.l N1 (.k 1000)) c1 d1) fun v=>?_
  refine b1c hD hd (by exact a1b (.l N0 (.p N1 O1)) (.l (.p N0 O1) (.p N1 (.k 2))) hn) (by simp only[tsD,List.length_append,List.length_map,List.length_nil]; exact lc3 3 [_,_,_] [] (.l (.p (.p N0 N1) N2) (.k 3000)) (.l N0 (.k 1000)) (.l N2 (.k 1000)) (.l N1 (.k 1000)) c1 c2 d1) fun v=>?_
  have e:tsD (C c false++D d false++(C c true++D d true))=[]++tsD (C c false)++tsD (D d false)++tsD (C c true)++tsD (D d true):=by
   unfold tsD; rw[List.map_append,List.map_append,List.map_append,←List.append_assoc]; rfl
  rw[e]at hQ;show Q _ (List.take ow.length ow);rw[List.take_length];exact hQ
 simp_all![];cases b
 ·refine ifn Bool.false_ne_true ?_
  have k:=key A B f g (in1 [r0,r1,r2,r3,r4]) (in2 [r0,r1,r2,r3,r4]) false hA hB m1 m2;have k:=k h;exact k
 ·refine ifp rfl ⟨by decide,by decide,?_⟩
  have k:=key B A g f (in2 [r0,r1,r2,r3,r4]) (in1 [r0,r1,r2,r3,r4]) true hB hA m2 m1;have k:=k h;exact k
theorem tor{f g:F}{A:TF}{m:Nat}(hA:TOK (.not (.and (.not f) (.not g))) A m)(hm:2≤m):TOK (.or f g) A (m+1):=by
 refine⟨hA.1,fun n r b ow Q hr hn h=>?_⟩;obtain⟨l,rfl⟩:∃k,n=k+2:=⟨n-2,by exact a1m (.e N0 (.p (.s N0 (.k 2)) (.k 2))) (.l (.k 2) N1) (.l (.p N1 O1) N0) hm hn⟩
 refine⟨Nat.succ_pos _,fun _=>rfl,rfl,rfl,?_⟩;dsimp only[L2.law_turns,L2.law_turns_nl];refine wq2 ?_;simp_all![F.D]
 (refine wq1 ?_; refine wq2 ?_)
 simp_all![b0r];refine⟨by decide,ifn (by decide) ?_⟩
 (refine wq1 ?_; refine wq2 ?_)
 simp_all![d2s];refine⟨by decide,ifp (by decide) ?_⟩
 refine wq2 ?_;simp_all![b0r,c7d];refine⟨by decide,by decide,hA.2 _ r b _ _ hr (by exact a1b (.l N0 (.p N1 O1)) (.l (.p N0 O1) (.p N1 (.k 2))) hn) ⟨⟨_,rfl⟩,?_⟩⟩
 show Q _ (List.take ow.length ow);rw[List.take_length];exact h
theorem F.turns_ok:∀f:F,f.Ok→f.len≤1000→TOK f f.turns f.dep
 |.atom i,ok,hl=>d7x i
 |.not f,ok,hl=>by
  have hl:f.len+1≤1000:=hl;exact d7j (turns_ok f ok (by omega)) (fun r hr b=>Nat.le_trans (a2u (turns_good f ok) r hr b).1 hl) (F.dep2 f)
 |.and a b,ok,hl=>by
  have hl:2*(a.len+b.len)≤1000:=hl;have h1:=turns_ok a ok.1 (by exact a1b (.l N0 (.k 1000)) (.l (.m 0 2 (.p N0 N1)) (.k 1000)) hl)
  have h2:=turns_ok b ok.2 (by exact a1b (.l N0 (.k 1000)) (.l (.m 0 2 (.p N1 N0)) (.k 1000)) hl)
  exact e0b (h1.mono (Nat.le_max_left _ _)) (h2.mono (Nat.le_max_right _ _)) (fun r hr b=>Nat.le_trans (a6t (turns_good _ ok.1) (turns_good _ ok.2) r hr b).1 hl) (Nat.le_trans (F.dep2 a) (Nat.le_max_left _ _))
 |.or a b,ok,hl=>by
  have hl:2*(a.len+b.len)+5≤1000:=hl;have g1:=a2u (turns_good a ok.1);have g2:=a2u (turns_good b ok.2);have g3:=a6t g1 g2;have hd:2≤max a.dep b.dep:=Nat.le_trans (F.dep2 a) (Nat.le_max_left _ _);have h1:=d7j ((turns_ok a ok.1 (by exact a1b (.l N0 (.k 1000)) (.l (.p (.m 0 2 (.p N0 N1)) (.k 5)) (.k 1000)) hl)).mono (Nat.le_max_left _ b.dep)) (fun r hr b=>Nat.le_trans (g1 r hr b).1 (by exact a1b (.l (.p N0 O1) (.k 1000)) (.l (.p (.m 0 2 (.p N0 N1)) (.k 5)) (.k 1000)) hl)) hd
  have h2:=d7j ((turns_ok b ok.2 (by exact a1b (.l N0 (.k 1000)) (.l (.p (.m 0 2 (.p N1 N0)) (.k 5)) (.k 1000)) hl)).mono (Nat.le_max_right a.dep _)) (fun r hr b=>Nat.le_trans (g2 r hr b).1 (by exact a1b (.l (.p N0 O1) (.k 1000)) (.l (.p (.m 0 2 (.p N1 N0)) (.k 5)) (.k 1000)) hl)) hd
  have h3:=e0b h1 h2 (fun r hr b=>Nat.le_trans (g3 r hr b).1 (by exact a1b (.l (.m 0 2 (.p (.p N0 O1) (.p N1 O1))) (.k 1000)) (.l (.p (.m 0 2 (.p N0 N1)) (.k 5)) (.k 1000)) hl)) (by exact a1b (.l (.k 2) (.p (.b 3 N0 N1) O1)) (.l (.k 2) (.b 3 N0 N1)) hd)
  exact tor (d7j h3 (fun r hr b=>Nat.le_trans (a2u g3 r hr b).1 (by exact a1b (.l (.p (.m 0 2 (.p (.p N0 O1) (.p N1 O1))) O1) (.k 1000)) (.l (.p (.m 0 2 (.p N0 N1)) (.k 5)) (.k 1000)) hl)) (by omega)) (by omega)
structure PatOK(ps:List (List Nat)):Prop where
 ne:ps≠[]
 dot:∀p∈ps,46∉p
 jl:(jn a5q ps).length≤1000
 pl:ps.length≤1000
 ps:∀p∈ps,p.length≤1000
noncomputable def c6s(pats:List (List (List Nat)))(t:List Nat)(i:Nat):Bool:=a4z (pats.getD i []) t
section
variable {pats:List (List (List Nat))} (hp:∀ps∈pats,PatOK ps) (hpl:pats.length=4) {t:List Nat} (ht:t.length≤1000) {i:Nat} (hi:i<4)
include hp hpl ht hi
theorem d8w{n j:Nat}{L:List e1l}{ow:List OV}{Q:V→List OV→Prop}(hn:4≤n)(hL:L.length<1000000)(hj:ow[j]?=some (.lst L))(h:Q (.dat (.bool (c6s pats t i))) (ow.set j (.lst (L++[.int (i:Int)])))) :
  a0y n 15 true ["patterns", "text", "asked"] [.dat (.int (i:Int)),.dat (.list (a0m (pats.map (jn a5q)))),.dat (.str (mk t)),.own j] ow Q:=by
 obtain⟨l,rfl⟩:∃m,n=m+2:=⟨n-2,by exact a0o (.e N0 (.p (.s N0 (.k 2)) (.k 2))) (.l (.k 4) N0) hn⟩
 have hil:i<pats.length:=by exact a1m (.t N0 N1) (.e N1 (.k 4)) (.t N0 (.k 4)) hpl hi
 have hm:pats.getD i []∈pats:=List.getElem_eq_getD (h:=hil) []▸List.getElem_mem hil;obtain⟨g1,g2,g3,g4,g5⟩:=hp _ hm;have hget:(a0m (pats.map (jn a5q)))[i]?=some (.str (mk (jn a5q (pats.getD i [])))):=by
  rw[b2x (by simp; omega),List.getD_eq_getElem?_getD,List.getElem?_map,List.getD_eq_getElem?_getD,List.getElem?_eq_getElem (by omega)]; rfl
 have hix:a2r (a0m (pats.map (jn a5q))).length (i:Int)=some i:=a1d (by rw[strsL_length,List.length_map]; omega)
 refine⟨Nat.succ_pos _,fun _=>rfl,by rfl,rfl,rfl,?_⟩
 generalize a0m (pats.map (jn a5q))=W at hget hix;refine wq2 ?_;dsimp![hj];refine⟨⟨_,rfl⟩,hL,?_⟩;refine wq2 ?_;dsimp![hix,hget];refine⟨by exact a0o (.a (.l (.z (Int.neg 1000000)) (.c N0)) (.l (.c N0) (.z 1000000))) (.t N0 (.k 4)) hi,d8q (by exact a0o (.l (.k 2) (.p N0 O1)) (.l (.k 4) (.p N0 (.k 2))) hn) ht g1 g2 g3 g4 g5 ⟨⟨_,rfl⟩,?_⟩⟩
 dsimp![];rw[List.take_of_length_le (by simp)]
 exact h
theorem d7n{n j:Nat}{L:List e1l}{ow:List OV}{Q:V→List OV→Prop}(hn:5≤n)(hL:L.length<1000000)(hj:ow[j]?=some (.lst L))(h:Q (.dat (.tuple [.bool (c6s pats t i),.bool (c6s pats t i)])) (ow.set j (.lst (L++[.int (i:Int)])))) :
  a0y n 7 true ["patterns", "text", "asked"] [.dat (.int (i:Int)),.fn 15,.dat (.list (a0m (pats.map (jn a5q)))),.dat (.str (mk t)),.own j] ow Q:=by
 obtain⟨l,rfl⟩:∃m,n=m+3:=⟨n-3,by exact a0o (.e N0 (.p (.s N0 (.k 3)) (.k 3))) (.l (.k 5) N0) hn⟩
 refine⟨Nat.succ_pos _,_,_,_,rfl,rfl,rfl,by decide +kernel,by decide +kernel,by decide,?_⟩
 exact d8w hp hpl ht hi (by exact a0o (.l (.k 4) (.p N0 (.k 2))) (.l (.k 5) (.p N0 (.k 3))) hn) hL hj ⟨_,rfl,.inr h⟩
end
theorem b5s(a b:Nat):((a:Int)==(b:Int))=(a==b):=by rw[Bool.eq_iff_iff,beq_iff_eq,beq_iff_eq]; exact Int.ofNat_inj
theorem a8a:∀a b:List Nat,PyData.eqvAll (a0c a) (a0c b)=(a==b)
 |[]=>fun b=>by cases b <;> rfl
 |a::r=>fun b=>by
  cases b with
  |nil=>rfl
  |cons b s=>
   show(((a:Int)==(b:Int))&&PyData.eqvAll (a0c r) (a0c s))=((a==b)&&(r==s));rw[a8a r s,b5s]
theorem b7w(a b:List Nat):PyData.eqv (.list (a0c a)) (.list (a0c b))=(a==b):=a8a a b
noncomputable def rsD(R:List (List Nat)):List e1l:=R.map fun r=>.list (a0c r)
theorem b3c(x:List Nat):∀R:List (List Nat),((rsD R).any fun y=>PyData.eqv y (.list (a0c x)))=R.contains x
 |[]=>rfl
 |r::R=>by
  show(PyData.eqv (.list (a0c r)) (.list (a0c x))||(rsD R).any fun y=>PyData.eqv y (.list (a0c x)))=_
  rw[b3c x R,b7w,List.contains_cons,Bool.beq_comm]
theorem b4y{α:Type}[BEq α][LawfulBEq α](g:α→e1l)(x:α)(P:e1l→Bool)(hP:∀a,P (g a)=(a==x)):∀(l:List α),x∈l→(l.map g).findIdx? P=some (l.idxOf x)
 |[]=>fun h=>nomatch h
 |a::l=>fun h=>by
  rw[List.map_cons,List.findIdx?_cons,hP,List.idxOf_cons];cases e:a==x with
  |true=>rfl
  |false=>
   have hx:x∈l:=(List.mem_cons.mp h).resolve_left fun q=>by rw[q,beq_self_eq_true]at e; cases e
   rw[b4y g x P hP l hx]; rfl
theorem b7l{l:List Nat}{x:Nat}(h:x∈l):(a0c l).findIdx? (fun y=>PyData.eqv y (.int (x:Int)))=some (l.idxOf x):=b4y (fun(d:Nat)=>PyData.int (d:Int)) x _ (fun a=>b5s a x) l h
theorem c0k{R:List (List Nat)}{x:List Nat}(h:x∈R):(rsD R).findIdx? (fun y=>PyData.eqv y (.list (a0c x)))=some (R.idxOf x):=b4y (fun r=>PyData.list (a0c r)) x _ (fun a=>b7w a x) R h
theorem a5j{a b:List Nat}(h:i<a.length):(a++b).getD i 0=a.getD i 0:=by
 rw[List.getD_eq_getElem?_getD,List.getD_eq_getElem?_getD,List.getElem?_append_left h]
theorem b2n{a b:List Nat}{x:Nat}(h:x∈a):(a++b).idxOf x=a.idxOf x:=by rw[List.idxOf_append,if_pos h]
noncomputable def a3t(v:Nat):Nat:=(5-v%5)%5
noncomputable def per(r:List Nat)(s:Nat):List Nat:=(List.range 5).map fun j=>r.getD (j*s^3%5) 0
theorem d1y:rings.all (fun r=>[1,2,3,4].all fun s=>(per r s).all (fun y=>decide (1≤y∧y≤5))&&five.all fun p=>(per r s).contains p&&(per r s).getD (((per r s).idxOf p+s)%5) 0==mv r false p&&(per r s).getD (((per r s).idxOf p+5-s)%5) 0==mv r true p)=true:=by decide +kernel
theorem c7v(hr:r∈rings){v:Nat}(hv:v%5≠0):(∀y∈per r (a3t v),1≤y∧y≤5)∧∀p∈five,p∈per r (a3t v)∧(per r (a3t v)).getD (((per r (a3t v)).idxOf p+a3t v)%5) 0=mv r false p∧(per r (a3t v)).getD (((per r (a3t v)).idxOf p+5-a3t v)%5) 0=mv r true p:=by
 have h1:=List.all_eq_true.mp d1y r hr;have h2:=List.all_eq_true.mp h1 (a3t v) (by unfold a3t; simp only[List.mem_cons,List.not_mem_nil,or_false]; omega)
 rw[Bool.and_eq_true]at h2;refine⟨fun y hy=>of_decide_eq_true (List.all_eq_true.mp h2.1 y hy),fun p hp=>?_⟩;have h3:=List.all_eq_true.mp h2.2 p hp;simp only[Bool.and_eq_true,List.contains_iff_mem,beq_iff_eq]at h3;exact⟨h3.1.1,h3.1.2,h3.2⟩
theorem a4x(r:List Nat)(s:Nat):(per r s).length=5:=by simp[per]
noncomputable def b8q(v c:Nat):List Nat:=(List.range c).map fun j=>v/128^j%128
theorem b6h:∀(c v:Nat),v<2^(7*c)→a8u 7 (b8q v c)=v
 |0=>fun v h=>by
  have:v<1:=h
  show 0=v;omega
 |c+1=>fun v h=>by
  have ih:=b6h c (v/128) (by rw[Nat.div_lt_iff_lt_mul (by decide)]; rw[Nat.mul_succ,Nat.pow_add]at h; exact h)
  have e:b8q v (c+1)=v%128::b8q (v/128) c:=by
   unfold b8q;rw[List.range_succ_eq_map,List.map_cons,List.map_map,Nat.pow_zero,Nat.div_one]
   congr 1
   refine List.map_congr_left fun j _=>?_;show v/128^(j+1)%128=v/128/128^j%128;rw[Nat.div_div_eq_div_mul,Nat.pow_succ,Nat.mul_comm]
  rw[e];show v%128+2^7*a8u 7 (b8q (v/128) c)=v;rw[ih];exact Nat.mod_add_div v 128
theorem c1w(v c:Nat):∀d∈b8q v c,d<2^7:=fun d hd=>by
 obtain⟨j,_,rfl⟩:=List.mem_map.mp hd;exact Nat.mod_lt _ (by decide)
theorem a7c(v c:Nat):(b8q v c).length=c:=by simp[b8q]
noncomputable def nf(v:Nat):Nat:=(Builtin.Int.intBits (v:Int)+6)/7
theorem d9h(v:Nat):v<2^(7*nf v):=Nat.lt_of_lt_of_le (b1w v) (Nat.pow_le_pow_right (by decide) (by unfold nf; exact a2a (.l N0 (.m 0 7 N1)) (.e (.p (.m 0 7 N1) N2) (.p N0 (.k 6))) (.t N2 (.k 7)) (Nat.div_add_mod _ 7) (ml rfl)))
theorem d1u{v:Nat}(h:v<2^21):nf v≤3:=by have:=b1o h; unfold nf; exact a2a (.l N0 (.k 3)) (.l N1 (.k 21)) (.e (.p (.m 0 7 N0) N2) (.p N1 (.k 6))) this (Nat.div_add_mod _ 7)
noncomputable def a4e(r:List Nat)(v:Nat):List Nat:=per r (a3t v)++(b8q v (nf v)).map (128 + ·)
noncomputable def mvs(r:List Nat)(b:Bool):List Nat:=0::five.map (mv r b)
theorem b4r(v:Nat):(-(v:Int)).fmod 5=(a3t v:Int):=by
 rw[Int.fmod_eq_emod_of_nonneg _ (by decide)]; unfold a3t; omega
theorem c2e(v:Nat):(v:Int).fmod (-5)=-(a3t v:Int):=by
 have h1:=Int.fmod_def (v:Int) (-5);have e:(v:Int).fdiv (-5)=(-(v:Int)).fdiv 5:=by rw[←Int.neg_fdiv_neg,Int.neg_neg]
 rw[e,Int.fdiv_eq_ediv_of_nonneg _ (by decide)]at h1
 rw[h1]; unfold a3t; omega
noncomputable def pr1(v:Nat):e1l:=.tuple [.int ((-(v:Int)).fdiv 5),.int ((-(v:Int)).fmod 5)]
noncomputable def pr2(v:Nat):e1l:=.tuple [.int ((v:Int).fdiv (-5)),.int ((v:Int).fmod (-5))]
noncomputable def xD(x:Nat):e1l:=.list [.int (x%4:Nat),.int (x/4:Nat)]
noncomputable def twD(fl:List Bool):List e1l:=fl.map fun b=>.tuple [.bool b,.bool b]
noncomputable def b9q(MV:List (List Nat))(fl:List Bool)(th:List Nat)(x:Nat):List Nat:=if fl.getD (x%4) false=true then th.map (fun p=>(MV.getD (x/4) []).getD p 0)else th
structure MvOK(MV:List (List Nat)):Prop where
 len:MV.length≤100
 row:∀m∈MV,m.length=6∧∀p∈five,m.getD p 0∈five
theorem c9j{p:Nat}(h:p∈five):p<6∧1≤p:=by
 simp only[five,List.mem_cons,List.not_mem_nil,or_false]at h; exact a0o (.a (.t N0 (.k 6)) (.l O1 N0)) (.b 1 (.e N0 O1) (.b 1 (.e N0 (.k 2)) (.b 1 (.e N0 (.k 3)) (.b 1 (.e N0 (.k 4)) (.e N0 (.k 5)))))) h
inductive UI(MV:List (List Nat))(fl:List Bool)(TW:List e1l)(th0:List Nat)(X:List Nat)(vs:List V)(vt:List V)(ow:List OV):List Nat→St→Prop
 |mk {rst} (th:List Nat) (v20 v21:V):(∀p∈th,p∈five)→th.length≤5→rst.foldl (b9q MV fl) th=X.foldl (b9q MV fl) th0→(∀x∈rst,x/4<MV.length)→UI MV fl TW th0 X vs vt ow rst ⟨vs++[.dat (.list TW),.dat (.list (a0c th)),v20,v21]++vt,ow,true⟩
theorem b6g{l j:Nat}(hM:MvOK MV)(hf:fl.length=4){X th0:List Nat}(hX:∀x∈X,x/4<MV.length)(ht:∀p∈th0,p∈five)(ht5:th0.length≤5){ow:List OV}(hj:ow[j]?=some (.lst (rsD MV))){K:Fl→St→Prop}
 (hK:∀v20 v21,K .next ⟨[d0,d1,d2,d3,d4,d5,.own j,d7,d8,d9,d10,d11,d12,d13,d14,d15,d16,d17]++[.dat (.list (twD fl)),.dat (.list (a0c (X.foldl (b9q MV fl) th0))),v20,v21]++[d22,d23,d24,d25,d26,.undef,d28],ow,true⟩) :
  a6f (lpS (a0y l) a0i (.tup [20,21]) (.cons (.ifs (.idx (.idx (.var 18) (.var 20)) (.int 0)) (.cons (.assign 19 (.comp (.for (.one 27) (.over (.var 19)) (.elt (.idx (.idx (.var 6) (.var 21)) (.var 27)))))) .nil) .nil) .nil)) (X.map xD)
   ⟨[d0,d1,d2,d3,d4,d5,.own j,d7,d8,d9,d10,d11,d12,d13,d14,d15,d16,d17]++[.dat (.list (twD fl)),.dat (.list (a0c th0)),v20,v21]++[d22,d23,d24,d25,d26,.undef,d28],ow,true⟩ K:=by
 refine a3o (g:=xD) (UI MV fl (twD fl) th0 X [d0,d1,d2,d3,d4,d5,.own j,d7,d8,d9,d10,d11,d12,d13,d14,d15,d16,d17] [d22,d23,d24,d25,d26,.undef,d28] ow) ?_ X _ ⟨th0,v20,v21,ht,ht5,rfl,hX⟩ ?_
 ·rintro x rst st K' ⟨th,v20,v21,h5,hl,he,hx⟩ hK hRt
  have hx4:=hx x (.head _);obtain⟨r6,rf⟩:=hM.row _ (List.getElem_eq_getD (h:=hx4) []▸List.getElem_mem hx4);have hml:=hM.len;have hm4:x%4<4:=Nat.mod_lt _ (by decide)
  have hg1:(twD fl)[x%4]?=some (.tuple [.bool (fl.getD (x%4) false),.bool (fl.getD (x%4) false)]):=by
   unfold twD; rw[List.getElem?_map,List.getElem?_eq_getElem (by exact a1m (.t N0 N1) (.e N1 (.k 4)) (.t N0 (.k 4)) hf (ml rfl)),List.getD_eq_getElem?_getD,List.getElem?_eq_getElem (by exact a1m (.t N0 N1) (.e N1 (.k 4)) (.t N0 (.k 4)) hf (ml rfl))]; rfl
  have hg2:(rsD MV)[x/4]?=some (.list (a0c (MV.getD (x/4) []))):=by
   unfold rsD; rw[List.getElem?_map,List.getElem?_eq_getElem hx4,List.getD_eq_getElem?_getD,List.getElem?_eq_getElem hx4]; rfl
  have hp1:a2r (twD fl).length ((x%4:Nat):Int)=some (x%4):=a1d (by unfold twD; rw[List.length_map]; exact a1m (.t N0 N1) (.e N1 (.k 4)) (.t N0 (.k 4)) hf (ml rfl))
  have hp2:a2r (rsD MV).length ((x/4:Nat):Int)=some (x/4):=a1d (by unfold rsD; rw[List.length_map]; omega)
  dsimp only[List.foldl_cons]at he;have hth:b9q MV fl th x=if fl.getD (x%4) false=true then th.map (fun p=>(MV.getD (x/4) []).getD p 0)else th:=rfl
  generalize fl.getD (x%4) false=b at hg1 hth;generalize MV.getD (x/4) []=R at r6 rf hg2 hth;refine lqS ?_;unfold xD;generalize twD fl=TW at hg1 hp1 hK ⊢;simp_all![];refine wq2 ?_;simp_all![hp1,hg1];refine⟨by exact a0o (.a (.l (.z (Int.neg 1000000)) (.c N0)) (.l (.c N0) (.z 1000000))) (.t N0 (.k 4)) (ml rfl),by decide,?_⟩
  rw[hth]at he;cases b
  ·refine ifn Bool.false_ne_true (wq1 ?_)
   (refine wq1 ?_)
   exact hK _ ⟨th,_,_,h5,hl,he,fun x h=>hx x (.tail _ h)⟩
  ·refine ifp rfl ?_
   refine wq2 ?_;simp_all![];refine a0r (g:=fun(e:Nat)=>PyData.int (e:Int)) (fun p=>.int ((R.getD p 0:Nat):Int)) th (by rfl) (fun p hp acc K hacc hK=>?_) (by omega) fun st' g1 g2=>?_
   ·have hp6:=c9j (h5 p hp)
    simp_all![hj,hp2,hg2,a1d (show p<R.length by exact a1m (.t N0 N1) (.e N1 (.k 6)) (.a (.t N0 (.k 6)) (.l O1 N0)) r6 hp6),a2j (show p<R.length by exact a1m (.t N0 N1) (.e N1 (.k 6)) (.a (.t N0 (.k 6)) (.l O1 N0)) r6 hp6)]
    exact⟨by exact a1m (.a (.l (.z (Int.neg 1000000)) (.c N0)) (.l (.c N0) (.z 1000000))) (.t N0 N1) (.l N1 (.k 100)) hx4 hml,by exact a0o (.a (.l (.z (Int.neg 1000000)) (.c N0)) (.l (.c N0) (.z 1000000))) (.a (.t N0 (.k 6)) (.l O1 N0)) hp6,hacc,hK⟩
   rw[show st'.own=_ from g1,show st'.hz=true from g2]
   have e:(th.map fun p=>PyData.int ((R.getD p 0:Nat):Int))=a0c (th.map fun p=>R.getD p 0):=by unfold a0c; rw[List.map_map]; rfl
   rw[e]
   (refine wq1 ?_; refine wq1 ?_)
   refine hK _ ⟨th.map fun p=>R.getD p 0,_,_,fun p hp=>?_,by rw[List.length_map]; exact hl,he,fun x h=>hx x (.tail _ h)⟩
   obtain⟨q,hq,rfl⟩:=List.mem_map.mp hp;exact rf q (h5 q hq)
 ·rintro st ⟨th,v20,v21,h5,hl,he,hx⟩
  have he:th=X.foldl (b9q MV fl) th0:=he;rw[←he]at hK;exact hK v20 v21
noncomputable def c7u(pats:List (List (List Nat)))(t:List Nat):List Bool:=[c6s pats t 0,c6s pats t 1,c6s pats t 2,c6s pats t 3]
noncomputable def b8p(T:List (List Nat)):List e1l:=T.flatMap fun _=>[.int 0,.int 1,.int 2,.int 3]
noncomputable def d4o(fl:List Bool):List e1l:=fl.map fun b=>.list [.bool b,.bool (!b),.bool true]
noncomputable def b5o(MV:List (List Nat))(X:List Nat)(pats:List (List (List Nat)))(t:List Nat):e1l:=.list [.str (mk t),.list (d4o (c7u pats t)),.list (a0c (X.foldl (b9q MV (c7u pats t)) five))]
theorem c3p(T:List (List Nat))(t:List Nat):b8p (T++[t])=b8p T++[.int 0,.int 1,.int 2,.int 3]:=by unfold b8p; rw[List.flatMap_append]; rfl
theorem c5r(T:List (List Nat)):(b8p T).length=4*T.length:=by
 induction T with
 |nil=>rfl
 |cons t T ih=>show([PyData.int 0,.int 1,.int 2,.int 3]++b8p T).length=_; rw[List.length_append,ih,List.length_cons]; exact(Nat.add_comm _ _).trans (Nat.mul_succ _ _).symm
section
variable {pats:List (List (List Nat))} (hp:∀ps∈pats,PatOK ps) (hpl:pats.length=4) {t:List Nat} (ht:t.length≤1000)
include hp hpl ht
theorem b0l{l i j:Nat}(hi:i<4)(hl:5≤l){ow:List OV}{L acc:List e1l}{K:List e1l→St→Prop}(hL:L.length<1000000)(hj:ow[j]?=some (.lst L))(ha:acc.length<1000000)
 (hK:K (acc++[.tuple [.bool (c6s pats t i),.bool (c6s pats t i)]]) ⟨[d0,.dat (.list (a0m (pats.map (jn a5q)))),d2,d3,d4,d5,d6,d7,.own j,d9,d10,d11,d12,d13,d14,d15,d16,.dat (.str (mk t)),d18,d19,d20,d21,d22,d23,d24,d25,.dat (.int (i:Int)),d27,d28],ow.set j (.lst (L++[.int (i:Int)])),true⟩) :
  lpF (a0y l) (.one 26) (.elt (.callKw 7 (.cons (.var 26) (.cons (.gfn 15) .nil)) ["patterns", "text", "asked"] (.cons (.var 1) (.cons (.var 17) (.cons (.var 8) .nil))))) (.int (i:Int)) ⟨[d0,.dat (.list (a0m (pats.map (jn a5q)))),d2,d3,d4,d5,d6,d7,.own j,d9,d10,d11,d12,d13,d14,d15,d16,.dat (.str (mk t)),d18,d19,d20,d21,d22,d23,d24,d25,d26,d27,d28],ow,true⟩ acc K:=by
 refine lqF ?_;simp_all![];refine d7n hp hpl ht hi hl hL hj ⟨⟨_,rfl⟩,?_⟩;simp_all![];exact⟨ha,hK⟩
end
theorem d9t:b9w 0 (4:Int).toNat=[.int ((0:Nat):Int),.int ((1:Nat):Int),.int ((2:Nat):Int),.int ((3:Nat):Int)]:=rfl
theorem e1b(b:Bool):(b==true)=b:=by cases b <;> rfl
theorem e0z(b:Bool):(b==false)=!b:=by cases b <;> rfl
theorem e0u(b:Bool):(b==b)=true:=by cases b <;> rfl
def TUs(X:List Nat)(o:OV):Prop:=o=.lst (X.map xD)∨o=.froz (X.map xD)
inductive RI(MV:List (List Nat))(X:List Nat)(pats:List (List (List Nat)))(T:List (List Nat))(vs:List V)(ow:List OV)(o0 o1 o2:OV):List (List Nat)→St→Prop
 |mk {rst} (done:List (List Nat)) (oT:OV) (v17 v18 v19 v20 v21:V):done++rst=T→TUs X oT→RI MV X pats T vs ow o0 o1 o2 rst ⟨vs++[v17,v18,v19,v20,v21,.undef,.undef,.undef,.undef,.undef,.undef,.undef],ow++[o0,o1,o2,.lst (rsD MV),oT,.lst (b8p done),.lst (done.map (b5o MV X pats))],true⟩
section
variable {pats:List (List (List Nat))} {MV:List (List Nat)} (hM:MvOK MV) {X:List Nat} (hX:∀x∈X,x/4<MV.length)
include hM hX
theorem b8i{l:Nat}{t:List Nat}{done:List (List Nat)}(hd:done.length≤1000){ow:List OV}{o0 o1 o2 oA oT:OV}(hT:TUs X oT){K:Fl→St→Prop}
 (hK:∀v18 v19 v20 v21,K .next ⟨[d0,d1,d2,d3,d4,d5,.own (ow.length+3),.own (ow.length+4),d8,.own (ow.length+6),d10,d11,d12,d13,d14,d15,d16,.dat (.str (mk t)),v18,v19,v20,v21,.undef,.undef,.undef,.undef,.undef,.undef,.undef],ow++[o0,o1,o2,.lst (rsD MV),.froz (X.map xD),oA,.lst ((done++[t]).map (b5o MV X pats))],true⟩) :
  a1f (a0y l) a0i L2.law_read.tl.tl.tl.tl.hd.body.tl ⟨[d0,d1,d2,d3,d4,d5,.own (ow.length+3),.own (ow.length+4),d8,.own (ow.length+6),d10,d11,d12,d13,d14,d15,d16,.dat (.str (mk t)),.dat (.list (twD (c7u pats t))),v19,v20,v21,.undef,.undef,.undef,.undef,.undef,.undef,.undef],ow++[o0,o1,o2,.lst (rsD MV),oT,oA,.lst (done.map (b5o MV X pats))],true⟩ K:=by
 have h5:∀p∈five,p∈five:=fun _ h=>h;have hfl:(c7u pats t).length=4:=rfl;have hre:.list [.str (mk t),.list (d4o (c7u pats t)),.list (a0c (X.foldl (b9q MV (c7u pats t)) five))]=b5o MV X pats t:=rfl;generalize c7u pats t=fl at hfl hre ⊢;have fin:∀v20 v21,a1f (a0y l) a0i L2.law_read.tl.tl.tl.tl.hd.body.tl.tl.tl ⟨[d0,d1,d2,d3,d4,d5,.own (ow.length+3),.own (ow.length+4),d8,.own (ow.length+6),d10,d11,d12,d13,d14,d15,d16,.dat (.str (mk t)),.dat (.list (twD fl)),.dat (.list (a0c (X.foldl (b9q MV fl) five))),v20,v21,.undef,.undef,.undef,.undef,.undef,.undef,.undef],ow++[o0,o1,o2,.lst (rsD MV),.froz (X.map xD),oA,.lst (done.map (b5o MV X pats))],true⟩ K:=by
  intro v20 v21;refine wq2 ?_;simp_all![];refine⟨⟨_,rfl⟩,?_⟩;refine a0r (g:=fun b:Bool=>.tuple [.bool b,.bool b]) (fun b=>.list [.bool b,.bool (!b),.bool true]) fl (by rfl) (fun b hb acc K hacc hK=>?_) (by exact a0o (.l N0 (.k 1000000)) (.e N0 (.k 4)) hfl) fun st' g1 g2=>?_
  ·simp_all![e1b,e0z,e0u]
   exact⟨by decide,by decide,by decide,by decide,hacc,hK⟩
  rw[show st'.own=_ from g1,show st'.hz=true from g2]
  simp_all![];refine⟨by rw[List.length_map]; omega,wq1 ?_⟩
  have e:(done++[t]).map (b5o MV X pats)=done.map (b5o MV X pats)++[.list [.str (mk t),.list (d4o fl),.list (a0c (X.foldl (b9q MV fl) five))]]:=by rw[List.map_append,hre]; rfl
  rw[e]at hK;exact hK _ _ _ _
 refine wq2 ?_;simp_all![];refine wq2 ?_;refine wqf ?_;simp_all![]
 rcases hT with rfl|rfl
 ·simp_all![]
  exact b6g hM hfl hX h5 (by decide) (own_ix _ _ 3) fin
 ·simp_all![]
  exact b6g hM hfl hX h5 (by decide) (own_ix _ _ 3) fin
end
section
variable {pats:List (List (List Nat))} (hp:∀ps∈pats,PatOK ps) (hpl:pats.length=4) {MV:List (List Nat)} (hM:MvOK MV) {X:List Nat} (hX:∀x∈X,x/4<MV.length)
include hp hpl hM hX
theorem c2l{l:Nat}(hl:5≤l){t:List Nat}(ht:t.length≤1000){done:List (List Nat)}(hd:done.length≤1000){ow:List OV}{o0 o1 o2 oT:OV}(hT:TUs X oT){K:Fl→St→Prop}
 (hK:∀v18 v19 v20 v21,K .next ⟨[d0,.dat (.list (a0m (pats.map (jn a5q)))),d2,d3,d4,.own (ow.length+2),.own (ow.length+3),.own (ow.length+4),.own (ow.length+5),.own (ow.length+6),d10,d11,d12,d13,d14,d15,d16,.dat (.str (mk t)),v18,v19,v20,v21,.undef,.undef,.undef,.undef,.undef,.undef,.undef],ow++[o0,o1,o2,.lst (rsD MV),.froz (X.map xD),.lst (b8p (done++[t])),.lst ((done++[t]).map (b5o MV X pats))],true⟩) :
  a1f (a0y l) a0i L2.law_read.tl.tl.tl.tl.hd.body ⟨[d0,.dat (.list (a0m (pats.map (jn a5q)))),d2,d3,d4,.own (ow.length+2),.own (ow.length+3),.own (ow.length+4),.own (ow.length+5),.own (ow.length+6),d10,d11,d12,d13,d14,d15,d16,.dat (.str (mk t)),v18,v19,v20,v21,.undef,.undef,.undef,.undef,.undef,.undef,.undef],ow++[o0,o1,o2,.lst (rsD MV),oT,.lst (b8p done),.lst (done.map (b5o MV X pats))],true⟩ K:=by
 have hal:=c5r done;refine wq2 ?_;simp_all![];rw[d9t];refine⟨by decide,?_⟩
 dsimp only[a1n];refine b0l hp hpl ht (by decide) hl (by exact a1m (.t N0 (.k 1000000)) (.l N1 (.k 1000)) (.e N0 (.m 0 4 N1)) hd hal) (own_ix _ _ 5) (by decide) ?_
 rw[own_set];refine b0l hp hpl ht (by decide) hl (by simp; exact a1m (.t (.p N0 O1) (.k 1000000)) (.l N1 (.k 1000)) (.e N0 (.m 0 4 N1)) hd hal) (own_ix _ _ 5) (show 1<1000000 by decide) ?_
 rw[own_set];refine b0l hp hpl ht (by decide) hl (by simp; exact a1m (.t (.p N0 (.k 2)) (.k 1000000)) (.l N1 (.k 1000)) (.e N0 (.m 0 4 N1)) hd hal) (own_ix _ _ 5) (show 2<1000000 by decide) ?_
 rw[own_set];refine b0l hp hpl ht (by decide) hl (by simp; exact a1m (.t (.p N0 (.k 3)) (.k 1000000)) (.l N1 (.k 1000)) (.e N0 (.m 0 4 N1)) hd hal) (own_ix _ _ 5) (show 3<1000000 by decide) ?_
 rw[own_set];refine b8i (pats:=pats) hM hX hd hT fun v18 v19 v20 v21=>?_
 have:=hK v18 v19 v20 v21
 rw[c3p]at this
 simpa using this
theorem d4z{l:Nat}(hl:5≤l){T:List (List Nat)}(hT:T.length≤1000)(hT2:∀t∈T,t.length≤1000){ow:List OV}{o0 o1:OV}{Q:V→List OV→Prop}
 (hQ:Q (.dat (.list [.list PA,.list (T.map (b5o MV X pats)),.list (b8p T)])) ow) :
  a1f (a0y l) a0i L2.law_read.tl.tl.tl.tl ⟨[d0,.dat (.list (a0m (pats.map (jn a5q)))),.dat (.list (a0m T)),d3,d4,.own (ow.length+2),.own (ow.length+3),.own (ow.length+4),.own (ow.length+5),.own (ow.length+6),d10,d11,d12,d13,d14,d15,d16,v17,v18,v19,v20,v21,.undef,.undef,.undef,.undef,.undef,.undef,.undef],ow++[o0,o1,.lst PA,.lst (rsD MV),.lst (X.map xD),.lst [],.lst []],true⟩ fun fl st=>Q (.dat (match fl with|.ret d=>d|.next=>.none)) (st.own.take ow.length):=by
 refine wq2 ?_;refine wqf ?_;simp_all![];refine a3o (g:=fun t=>PyData.str (mk t)) (RI MV X pats T [d0,.dat (.list (a0m (pats.map (jn a5q)))),.dat (.list (a0m T)),d3,d4,.own (ow.length+2),.own (ow.length+3),.own (ow.length+4),.own (ow.length+5),.own (ow.length+6),d10,d11,d12,d13,d14,d15,d16] ow o0 o1 (.lst PA)) ?_ T _ (.mk [] (.lst (X.map xD)) _ _ _ _ _ rfl (.inl rfl)) ?_
 ·rintro t rst st K' ⟨done,oT,v17,v18,v19,v20,v21,hd,hoT⟩ hK hRt
  have hdl:done.length≤1000:=by have:=congrArg List.length hd; rw[List.length_append]at this; exact a2a (.l N0 (.k 1000)) (.l N1 (.k 1000)) (.e (.p N0 N2) N1) hT this
  refine lqS ?_;refine c2l hp hpl hM hX hl (hT2 t (by rw[←hd]; simp)) hdl hoT fun v18 v19 v20 v21=>?_
  exact hK _ (.mk (done++[t]) _ _ _ _ _ _ (by rw[←hd,List.append_assoc]; rfl) (.inr rfl))
 ·rintro st ⟨done,oT,v17,v18,v19,v20,v21,hd,hoT⟩
  rw[List.append_nil]at hd;subst hd;refine wq2 ?_;simp_all![];rw[List.take_left];exact hQ
end
set_option backward.match.sparseCases false in
noncomputable def S.els:S→Ss
 |.ifs _ _ f=>f
 |_=>.nil
theorem d6p{Γ:Ctx}{G:G}{st:St}{K:List e1l→St→Prop}(h:a1n (lpF Γ (.one i) G) (five.map fun(e:Nat)=>.int (e:Int)) st [] K):wpG Γ (.for (.one i) (.over (.tup (.cons (.int 1) (.cons (.int 2) (.cons (.int 3) (.cons (.int 4) (.cons (.int 5) .nil))))))) G) st [] K:=h
theorem e1d{Γ:Ctx}{i k:Nat}{g:G}{st:St}{l:List e1l}{Q:Fl→St→Prop}(h1:st.get i=.own k)(h2:st.own[k]?=some (.lst l))(h:wpG Γ g (st.clr g.ids) [] fun acc st'=>1+acc.length≤1000000∧match st'.own[k]? with
 |some (.lst l)=>l.length<1000000∧Q .next (({ st' with vars:=st.vars }:St).setOwn k (.lst (l++[.list (.int 0::acc)])))
 |_=>False):wpS Γ tk (.append i (.bin .add (.list (.cons (.int 0) .nil)) (.comp g))) st Q:=by
 dsimp only[wpS];rw[h1];exact⟨⟨l,h2⟩,h⟩
theorem b7j(M:List (List Nat))(r:List Nat):rsD M++[.list (a0c r)]=rsD (M++[r]):=by unfold rsD; rw[List.map_append]; rfl
theorem b1p(M:List (List Nat)):(rsD M).length=M.length:=by simp[rsD]
theorem c2u{l:Nat}(hl:2≤l){v:Nat}{b:Bool}{q w:Int}(hw:w≠0)(hlen:(a4e r v).length≤100)(hix:∀p∈five,p∈a4e r v∧∃i:Nat,i<(a4e r v).length∧(((a4e r v).idxOf p:Nat)+w).fmod 5=(i:Int)∧(a4e r v).getD i 0=mv r b p)
 {d0 d1 d2 d3 d4 d7 d8 d9 d10 d11 d12 d13 d15 v16 d17 d18 d19 d20 d21:V} {ow:List OV} {o0 o1 o4 o5 o6:OV} {MO:List (List Nat)} (hPA:PA.length≤1000) (hMO:MO.length≤1000) {K:Fl→St→Prop}
 (hK:K .next ⟨[d0,d1,d2,d3,d4,.own (ow.length+2),.own (ow.length+3),d7,d8,d9,d10,d11,d12,d13,.dat (.list (a0c (a4e r v))),d15,.dat (.tuple [.int q,.int w]),d17,d18,d19,d20,d21,.undef,.undef,.undef,.undef,.undef,.undef,.undef],ow++[o0,o1,.lst (PA++[.list [.tuple [.int q,.int w],.bool true]]),.lst (rsD (MO++[mvs r b])),o4,o5,o6],true⟩) :
  lpS (a0y l) a0i (.one 16) L2.law_read.tl.tl.tl.hd.body.tl.hd.els.tl.hd.body (.tuple [.int q,.int w]) ⟨[d0,d1,d2,d3,d4,.own (ow.length+2),.own (ow.length+3),d7,d8,d9,d10,d11,d12,d13,.dat (.list (a0c (a4e r v))),d15,v16,d17,d18,d19,d20,d21,.undef,.undef,.undef,.undef,.undef,.undef,.undef],ow++[o0,o1,.lst PA,.lst (rsD MO),o4,o5,o6],true⟩ K:=by
 have hw0:(w==0)=false:=beq_false_of_ne hw;have hrl:=b1p MO;refine lqS ?_;simp_all![];refine wq2 ?_;simp_all![];refine⟨⟨_,rfl⟩,by decide,d3i hl ⟨⟨_,rfl⟩,?_⟩⟩
 simp_all![hw0];refine⟨by omega,?_⟩
 generalize hSB:a4e r v=SB at *;refine wq2 ?_;refine e1d (k:=ow.length+3) rfl (own_ix _ _ 3) (d6p ?_);refine a0r (g:=fun(e:Nat)=>PyData.int (e:Int)) (fun p=>.int ((mv r b p:Nat):Int)) five (by rfl) (fun p hp acc K hacc hK=>?_) (by decide) fun st' g1 g2=>?_
 ·obtain⟨hm,i,hi,e1,e2⟩:=hix p hp
  simp_all![b7l hm];refine⟨⟨rfl,a1x SB,by omega⟩,by decide,by decide,?_⟩
  rw[e1];simp only[intsL_length,a1d hi,Option.bind_some,a2j hi,e2];exact⟨by exact a1m (.a (.l (.z (Int.neg 1000000)) (.c N0)) (.l (.c N0) (.z 1000000))) (.l N1 (.k 100)) (.t N0 N1) hlen hi,hacc,hK⟩
 rw[show st'.own=_ from g1,show st'.hz=true from g2]
 simp_all![];have e3:PyData.list (.int 0::five.map fun p=>.int ((mv r b p:Nat):Int))=.list (a0c (mvs r b)):=rfl;rw[e3,b7j,hrl];exact⟨(show 1+5≤1000000 by decide),by omega,wq1 hK⟩
noncomputable def paF(v:Nat):List e1l:=[.list [pr1 v,.bool true],.list [pr2 v,.bool true]]
noncomputable def moF(r:List Nat):List (List Nat):=[mvs r false,mvs r true]
theorem d7z(l:List Nat):(l.map (128 + ·)).map (fun(e:Nat)=>PyData.int ((e-128:Nat):Int))=a0c l:=by
 unfold a0c; rw[List.map_map];exact List.map_congr_left fun x _=>by show PyData.int ((128+x-128:Nat):Int)=_; rw[Nat.add_sub_cancel_left]
theorem b1y{v:Nat}(hv:v<2^21):(a4e r v).length≤8:=by
 have:=d1u hv
 unfold a4e; rw[List.length_append,a4x,List.length_map,a7c]; exact a0o (.l (.p (.k 5) N0) (.k 8)) (.l N0 (.k 3)) this
theorem d3q{l:Nat}(hl:20≤l){v:Nat}(hr:r∈rings)(hv:v%5≠0)(hv2:v<2^21)
 {d0 d1 d2 d3 d4 d7 d8 d9 d10 d11 d12 v15 v16 d17 d18 d19 d20 d21:V} {ow:List OV} {o0 o1 o4 o5 o6:OV} {MO:List (List Nat)} (hPA:PA.length≤999) (hMO:MO.length≤999) {K:Fl→St→Prop}
 (hK:∀v15 v16,K .next ⟨[d0,d1,d2,d3,d4,.own (ow.length+2),.own (ow.length+3),d7,d8,d9,d10,d11,d12,.dat (.int (-1)),.dat (.list (a0c (a4e r v))),v15,v16,d17,d18,d19,d20,d21,.undef,.undef,.undef,.undef,.undef,.undef,.undef],ow++[o0,o1,.lst (PA++paF v),.lst (rsD (MO++moF r)),o4,o5,o6],true⟩) :
  a1f (a0y l) a0i L2.law_read.tl.tl.tl.hd.body.tl ⟨[d0,d1,d2,d3,d4,.own (ow.length+2),.own (ow.length+3),d7,d8,d9,d10,d11,d12,.dat (.int (-1)),.dat (.list (a0c (a4e r v))),v15,v16,d17,d18,d19,d20,d21,.undef,.undef,.undef,.undef,.undef,.undef,.undef],ow++[o0,o1,.lst PA,.lst (rsD MO),o4,o5,o6],true⟩ K:=by
 have hsl:=b1y (r:=r) hv2;have hnf:=d1u hv2;obtain⟨py,pp⟩:=c7v hr hv;have hn5:a3t v<5∧a3t v≠0:=by unfold a3t; omega
 have hcut:cut (a0c (a4e r v)) (some 5) none=((b8q v (nf v)).map (128 + ·)).map fun(e:Nat)=>.int (e:Int):=by
  rw[show(some (5:Int))=some ((5:Nat):Int) from rfl,a6w,a9d]
  unfold a4e;rw[List.drop_left' (a4x _ _)]; rfl
 have hix:∀p∈five,p∈a4e r v∧(a4e r v).idxOf p<5∧(a4e r v).getD (((a4e r v).idxOf p+a3t v)%5) 0=mv r false p∧(a4e r v).getD (((a4e r v).idxOf p+5-a3t v)%5) 0=mv r true p:=fun p hp=>by
  obtain⟨h1,h2,h3⟩:=pp p hp;have hi:(per r (a3t v)).idxOf p<(per r (a3t v)).length:=List.idxOf_lt_length_iff.mpr h1;rw[a4x]at hi;unfold a4e;rw[b2n h1,a5j (by rw[a4x]; exact Nat.mod_lt _ (by decide)),a5j (by rw[a4x]; exact Nat.mod_lt _ (by decide))]
  exact⟨List.mem_append_left _ h1,hi,h2,h3⟩
 have hlen5:5≤(a4e r v).length:=by unfold a4e; rw[List.length_append,a4x]; exact a3f (.l (.k 5) (.p (.k 5) N0))
 refine wq2 ?_;simp_all![];refine ifn (by decide) ?_
 refine wq2 ?_;simp_all![hcut];refine⟨by omega,?_⟩
 refine a0r (g:=fun(e:Nat)=>PyData.int (e:Int)) (fun e=>.int ((e-128:Nat):Int)) _ (by rfl) (fun e he acc K hacc hK=>?_) (by rw[List.length_map,a7c]; omega) fun st' g1 g2=>?_
 ·obtain⟨x,_,rfl⟩:=List.mem_map.mp he
  have e1:((128+x:Nat):Int)-128=((128+x-128:Nat):Int):=by exact a3f (.e (.S (.c (.p (.k 128) N0)) (.z 128)) (.c (.s (.p (.k 128) N0) (.k 128))))
  simp_all![e1];exact⟨hacc,hK⟩
 rw[show st'.own=_ from g1,show st'.hz=true from g2,d7z]
 refine d6g (by exact a0o (.l (.k 14) N0) (.l (.k 20) N0) hl) (c1w v _) (by rw[a7c]; omega) (by rw[a7c]; exact a0o (.l (.m 0 7 N0) (.k 900)) (.l N0 (.k 3)) hnf) ⟨⟨_,rfl⟩,?_⟩
 rw[b6h _ _ (d9h v)];have hv4:v<2^400:=Nat.lt_of_lt_of_le hv2 (Nat.pow_le_pow_right (by decide) (by decide))
 refine wq2 ?_;refine wqf ?_;simp_all![];refine d5r (by omega) (by rw[Int.natAbs_neg,Int.natAbs_natCast]; exact hv4) (by decide) (by decide) ⟨⟨_,rfl⟩,?_⟩
 simp_all![];refine d5r (by omega) (by rw[Int.natAbs_natCast]; exact hv4) (by decide) (by decide) ⟨⟨_,rfl⟩,?_⟩
 simp_all![];dsimp only[a6f];refine c2u (r:=r) (v:=v) (b:=false) (by exact a0o (.l (.k 2) N0) (.l (.k 20) N0) hl) (by rw[b4r]; exact a0o (.n (.e (.c N0) (.z 0))) (.a (.t N0 (.k 5)) (.n (.e N0 (.k 0)))) hn5) (by omega) (fun p hp=>?_) (by omega) (by omega) ?_
 ·obtain⟨h1,h2,h3,h4⟩:=hix p hp
  refine⟨h1,_,Nat.lt_of_lt_of_le (Nat.mod_lt _ (by decide)) hlen5,?_,h3⟩
  rw[b4r,←Int.natCast_add]; exact a0p _ 5
 dsimp only;refine c2u (r:=r) (v:=v) (b:=true) (by exact a0o (.l (.k 2) N0) (.l (.k 20) N0) hl) (by rw[c2e]; exact a0o (.n (.e (.N (.c N0)) (.z 0))) (.a (.t N0 (.k 5)) (.n (.e N0 (.k 0)))) hn5) (by omega) (fun p hp=>?_) (by rw[List.length_append]; exact Nat.succ_le_succ hPA) (by rw[List.length_append]; exact Nat.succ_le_succ hMO) ?_
 ·obtain⟨h1,h2,h3,h4⟩:=hix p hp
  refine⟨h1,_,Nat.lt_of_lt_of_le (Nat.mod_lt _ (by decide)) hlen5,?_,h4⟩
  rw[c2e,Int.fmod_eq_emod_of_nonneg _ (by decide)]; omega
 refine wq1 ?_
 have:=hK (.dat (.int (v:Int))) (.dat (.tuple [.int ((v:Int).fdiv (-5)),.int ((v:Int).fmod (-5))]))
 unfold paF moF at this
 rw[List.append_assoc,List.append_assoc];exact this
inductive Bk|sec(r:List Nat)(v:Nat)|tn (x:Nat)
namespace Bk
noncomputable def row:Bk→List Nat
 |sec r v=>256::a4e r v
 |tn x=>[257+x]
def Ok:Bk→Prop
 |sec r v=>r∈rings∧v%5≠0∧v<2^21
 |tn x=>x<3000
noncomputable def pa:Bk→List e1l
 |sec _ v=>paF v
 |tn _=>[]
noncomputable def mo:Bk→List (List Nat)
 |sec r _=>moF r
 |tn _=>[]
noncomputable def tu:Bk→List Nat
 |sec _ _=>[]
 |tn x=>[x]
end Bk
noncomputable def a4f(B:List Bk):List Nat:=B.flatMap Bk.row
noncomputable def b9n:Nat→List Bk→List Nat
 |_,[]=>[]
 |s,b::r=>s::b9n (s+b.row.length) r
noncomputable def c2y:Nat→List Bk→List (Nat×Nat)
 |_,[]=>[]
 |s,b::r=>(s,s+b.row.length)::c2y (s+b.row.length) r
noncomputable def b9v(p:Nat×Nat):e1l:=.tuple [.int (p.1:Int),.int (p.2:Int)]
theorem b2u:∀(B:List Bk) (s e:Nat),e=s+(a4f B).length→c1q (a0c (b9n s B)) ((a0c (b9n s B)).drop 1++[.int (e:Int)])=(c2y s B).map b9v
 |[]=>fun s e _=>rfl
 |[b]=>fun s e h=>by
  have h:e=s+b.row.length:=by rw[h]; unfold a4f; simp
  subst h; rfl
 |b::c::r=>fun s e h=>by
  have ih:=b2u (c::r) (s+b.row.length) e (by rw[h]; unfold a4f; simp only[List.flatMap_cons,List.length_append]; exact lc0 4 [_,_,_,_] [] (.e (.p N0 (.p N1 (.p N2 N3))) (.p (.p N0 N1) (.p N2 N3))))
  show b9v (s,s+b.row.length)::c1q (a0c (b9n (s+b.row.length) (c::r))) ((a0c (b9n (s+b.row.length) (c::r))).drop 1++[.int (e:Int)])=_;rw[ih]; rfl
noncomputable def hds:Nat→List Nat→List Nat
 |_,[]=>[]
 |s,x::l=>if 256≤x then s::hds (s+1) l else hds (s+1) l
theorem b5e:∀(l:List Nat) (s:Nat),(((List.range' s l.length).zip l).filter fun p=>decide (256≤p.2)).map (·.1)=hds s l
 |[]=>fun s=>rfl
 |x::l=>fun s=>by
  rw[List.length_cons,List.range'_succ,List.zip_cons_cons,List.filter_cons];dsimp only[hds]
  by_cases h:256≤x
  ·rw[if_pos (decide_eq_true h),if_pos h,List.map_cons,b5e l (s+1)]
  ·rw[if_neg (by rw[decide_eq_false h]; decide),if_neg h,b5e l (s+1)]
theorem c1h:∀(a l:List Nat) (s:Nat),(∀x∈a,x<256)→hds s (a++l)=hds (s+a.length) l
 |[]=>fun l s _=>rfl
 |x::a=>fun l s h=>by
  rw[List.cons_append];dsimp only[hds];rw[if_neg (Nat.not_le_of_lt (h x (.head _))),c1h a l (s+1) fun y hy=>h y (.tail _ hy),List.length_cons,Nat.add_assoc,Nat.add_comm 1]
theorem b5c{v:Nat}(hr:r∈rings)(hv:v%5≠0):∀x∈a4e r v,1≤x∧x<256:=fun x hx=>by
 rcases List.mem_append.mp hx with h|h
 ·have:=(c7v hr hv).1 x h; exact a0o (.a (.l O1 N0) (.t N0 (.k 256))) (.a (.l O1 N0) (.l N0 (.k 5))) this
 ·obtain⟨y,hy,rfl⟩:=List.mem_map.mp h
  have:=c1w v (nf v) y hy
  exact a0o (.a (.l O1 (.p (.k 128) N0)) (.t (.p (.k 128) N0) (.k 256))) (.t N0 (.k (Nat.pow 2 7))) this
theorem b5a:∀(B:List Bk) (s:Nat),(∀b∈B,b.Ok)→hds s (a4f B++[0])=b9n s B
 |[]=>fun s _=>rfl
 |.sec r v::B=>fun s h=>by
  obtain⟨h1,h2,h3⟩:=h _ (.head _);show hds s (256::a4e r v++a4f B++[0])=s::b9n (s+(a4e r v).length+1) B;rw[List.cons_append,List.cons_append];dsimp only[hds];rw[if_pos (Nat.le_refl _),List.append_assoc,c1h _ _ _ fun x hx=>(b5c h1 h2 x hx).2,b5a B _ fun b hb=>h b (.tail _ hb),Nat.add_assoc s,Nat.add_comm 1,←Nat.add_assoc]
 |.tn x::B=>fun s h=>by
  show hds s ((257+x)::a4f B++[0])=s::b9n (s+1) B;rw[List.cons_append];dsimp only[hds];rw[if_pos (by exact a3f (.l (.k 256) (.p (.k 257) N0))),b5a B _ fun b hb=>h b (.tail _ hb)]
noncomputable abbrev d8l:Ss:=S.body L2.law_read.tl.tl.tl.hd
theorem c0j{l s e h:Nat}{R c:List Nat}(hs:R[s]?=some h)(hc:(R.take e).drop (s+1)=c)(hse:s+1≤e)(he:e≤R.length)(hR:R.length≤10000){ow:List OV}{o0 o2 o3 o4 o5 o6:OV}{K:Fl→St→Prop}
 (hK:a1f (a0y l) a0i (Ss.tl d8l) ⟨[d0,d1,d2,d3,.own (ow.length+1),d5,d6,d7,d8,d9,d10,.dat (.int (s:Int)),.dat (.int (e:Int)),.dat (.int ((h:Int)-256-1)),.dat (.list (a0c c)),v15,v16,d17,d18,d19,d20,d21,.undef,.undef,.undef,.undef,.undef,.undef,.undef],ow++[o0,.froz (a0c R),o2,o3,o4,o5,o6],true⟩ K) :
  lpS (a0y l) a0i (.tup [11,12]) d8l (b9v (s,e)) ⟨[d0,d1,d2,d3,.own (ow.length+1),d5,d6,d7,d8,d9,d10,v11,v12,v13,v14,v15,v16,d17,d18,d19,d20,d21,.undef,.undef,.undef,.undef,.undef,.undef,.undef],ow++[o0,.froz (a0c R),o2,o3,o4,o5,o6],true⟩ K:=by
 have hsl:=(List.getElem?_eq_some_iff.mp hs).1;have hg:(a0c R)[s]?=some (.int (h:Int)):=by unfold a0c; rw[List.getElem?_map,hs]; rfl
 have hcut:cut (a0c R) (some ((s:Int)+1)) (some (e:Int))=a0c c:=by
  rw[←hc,←a9d,←b8f];exact b7f (a0c R) (a:=s+1) (b:=e) (by rw[intsL_length]; omega) (by rw[intsL_length]; omega)
 refine lqS ?_;unfold b9v;simp_all![];refine wq2 ?_;simp_all![a1d hsl,hg,hcut];exact⟨by exact lc3 3 [_,_,_] [] (.a (.l (.z (Int.neg 1000000)) (.c N0)) (.l (.c N0) (.z 1000000))) (.l (.p N0 O1) N1) (.l N1 N2) (.l N2 (.k 10000)) hse he hR,by omega,hK⟩
inductive BI(B:List Bk)(vs vt:List V)(ow:List OV)(o0 o1 o5 o6:OV):List (Nat×Nat)→St→Prop
 |mk {rst} (pre:List Nat) (todo:List Bk) (PA:List e1l) (MO:List (List Nat)) (X:List Nat) (v11 v12 v13 v14 v15 v16:V):pre++(a4f todo++[0])=a4f B++[0]→rst=c2y pre.length todo→PA++todo.flatMap Bk.pa=B.flatMap Bk.pa→MO++todo.flatMap Bk.mo=B.flatMap Bk.mo→X++todo.flatMap Bk.tu=B.flatMap Bk.tu→(∀b∈todo,b.Ok)→BI B vs vt ow o0 o1 o5 o6 rst ⟨vs++[v11,v12,v13,v14,v15,v16]++vt,ow++[o0,o1,.lst PA,.lst (rsD MO),.lst (X.map xD),o5,o6],true⟩
theorem b2j{α:Type}{a b c:List α}(h:a++b=c):a.length≤c.length:=by rw[←h,List.length_append]; exact Nat.le_add_right _ _
theorem b6q(pre b t:List Nat)(h:Nat):(pre++(h::b)++t)[pre.length]?=some h∧((pre++(h::b)++t).take (pre.length+(h::b).length)).drop (pre.length+1)=b:=by
 constructor
 ·rw[List.append_assoc,List.getElem?_append_right (Nat.le_refl _),Nat.sub_self]; rfl
 ·rw[←List.length_append,List.take_left,show pre++h::b=(pre++[h])++b by rw[List.append_assoc]; rfl,show pre.length+1=(pre++[h]).length by rw[List.length_append]; rfl,List.drop_left]
theorem d0g{l:Nat}(hl:20≤l){B:List Bk}(hB:∀b∈B,b.Ok)(hR:(a4f B++[0]).length≤10000)(hpa:(B.flatMap Bk.pa).length≤999)(hmo:(B.flatMap Bk.mo).length≤999)(htu:(B.flatMap Bk.tu).length≤999){ow:List OV}{o0 o5 o6:OV}{K:Fl→St→Prop}
 (hK:∀v11 v12 v13 v14 v15 v16,K .next ⟨[d0,d1,d2,d3,.own (ow.length+1),.own (ow.length+2),.own (ow.length+3),.own (ow.length+4),d8,d9,d10]++[v11,v12,v13,v14,v15,v16]++[d17,d18,d19,d20,d21,.undef,.undef,.undef,.undef,.undef,.undef,.undef],ow++[o0,.froz (a0c (a4f B++[0])),.lst (B.flatMap Bk.pa),.lst (rsD (B.flatMap Bk.mo)),.lst ((B.flatMap Bk.tu).map xD),o5,o6],true⟩) :
  a6f (lpS (a0y l) a0i (.tup [11,12]) d8l) ((c2y 0 B).map b9v) ⟨[d0,d1,d2,d3,.own (ow.length+1),.own (ow.length+2),.own (ow.length+3),.own (ow.length+4),d8,d9,d10]++[v11,v12,v13,v14,v15,v16]++[d17,d18,d19,d20,d21,.undef,.undef,.undef,.undef,.undef,.undef,.undef],ow++[o0,.froz (a0c (a4f B++[0])),.lst [],.lst (rsD []),.lst (List.map xD []),o5,o6],true⟩ K:=by
 refine a3o (g:=b9v) (BI B [d0,d1,d2,d3,.own (ow.length+1),.own (ow.length+2),.own (ow.length+3),.own (ow.length+4),d8,d9,d10] [d17,d18,d19,d20,d21,.undef,.undef,.undef,.undef,.undef,.undef,.undef] ow o0 (.froz (a0c (a4f B++[0]))) o5 o6) ?_ (c2y 0 B) _ (.mk [] B [] [] [] _ _ _ _ _ _ rfl rfl rfl rfl rfl hB) ?_
 ·rintro a rst st K' ⟨pre,todo,PA,MO,X,v11,v12,v13,v14,v15,v16,hr,hsp,h1,h2,h3,hok⟩ hK hRt
  have l1:=b2j h1;have l2:=b2j h2;have l3:=b2j h3
  match todo,hsp with
  |b::todo,hsp=>
   obtain⟨rfl,rfl⟩:=List.cons.inj hsp;have hr2:pre++b.row++(a4f todo++[0])=a4f B++[0]:=by rw[←hr]; unfold a4f; rw[List.flatMap_cons,List.append_assoc,List.append_assoc]
   have hlen:=b2j hr2;rw[List.length_append]at hlen;have hpl:(pre++b.row).length=pre.length+b.row.length:=List.length_append;have hok2:∀b∈todo,b.Ok:=fun x hx=>hok x (.tail _ hx);cases b with
   |sec r v=>
    obtain⟨g1,g2,g3⟩:=hok _ (.head _);refine c0j (h:=256) (c:=a4e r v) (R:=a4f B++[0]) (hr2▸(b6q _ _ _ _).1) (hr2▸(b6q pre (a4e r v) _ 256).2) (Nat.add_le_add_left (Nat.succ_le_succ (Nat.zero_le _)) _) hlen hR ?_;refine d3q hl g1 g2 g3 (by omega) (by omega) fun v15 v16=>?_
    refine hK _ (.mk (pre++(Bk.sec r v).row) todo (PA++paF v) (MO++moF r) X _ _ _ _ _ _ hr2 (by rw[hpl]) ?_ ?_ h3 hok2)
    ·rw[List.append_assoc]; exact h1
    ·rw[List.append_assoc]; exact h2
   |tn x=>
    refine c0j (h:=257+x) (c:=[]) (R:=a4f B++[0]) (hr2▸(b6q _ _ _ _).1) (hr2▸(b6q pre [] _ (257+x)).2) (Nat.le_refl _) hlen hR ?_;rw[show((257+x:Nat):Int)-256-1=(x:Int) by omega]
    refine wq2 ?_;simp_all![];refine ifp (by simp) ?_
    refine wq2 ?_;simp_all![];have e:X.map xD++[.list [.int ((x:Int).fmod 4),.int ((x:Int).fdiv 4)]]=(X++[x]).map xD:=by
     rw[List.map_append,show(x:Int).fmod 4=((x%4:Nat):Int) from a0p x 4,show(x:Int).fdiv 4=((x/4:Nat):Int) from a0u x 4]; rfl
    rw[e];refine⟨⟨_,rfl⟩,by decide,⟨by decide,a0x (by decide)⟩,by rw[List.length_map]; exact a1m (.t N0 (.k 1000000)) (.l N1 (.k 999)) (.l N0 N1) htu l3,wq1 (wq1 ?_)⟩
    refine hK _ (.mk (pre++(Bk.tn x).row) todo PA MO (X++[x]) _ _ _ _ _ _ hr2 (by rw[hpl]) h1 h2 ?_ hok2)
    rw[List.append_assoc]; exact h3
 ·rintro st ⟨pre,todo,PA,MO,X,v11,v12,v13,v14,v15,v16,hr,hsp,h1,h2,h3,hok⟩
  match todo,hsp with
  |[],_=>
   simp only[List.flatMap_nil,List.append_nil]at h1 h2 h3;subst h1 h2 h3;exact hK _ _ _ _ _ _
theorem d0p{B:List Bk}(h:∀b∈B,b.Ok):∀x∈a4f B,x≠0:=fun x hx=>by
 obtain⟨b,hb,hx⟩:=List.mem_flatMap.mp hx;have ok:=h b hb;cases b with
 |sec r v=>
  rcases List.mem_cons.mp hx with rfl|hx
  ·omega
  ·have:=b5c ok.1 ok.2.1 x hx; exact a0o (.n (.e N0 (.k 0))) (.a (.l O1 N0) (.t N0 (.k 256))) this
 |tn y=>
  have hx:x∈[257+y]:=hx;rw[List.mem_singleton.mp hx]; exact a3f (.n (.e (.p (.k 257) N0) (.k 0)))
theorem b7b:∀(B:List Bk) (s:Nat),(b9n s B).length=B.length
 |[]=>fun s=>rfl
 |b::r=>fun s=>congrArg Nat.succ (b7b r _)
theorem c7b{B:List Bk}(hB:∀b∈B,b.Ok):(((List.range (a4f B++[0]).length).zip (a4f B++[0])).filter fun p=>decide (256≤p.2)).map (fun p=>PyData.int (p.1:Int))=a0c (b9n 0 B):=by
 have h:=b5e (a4f B++[0]) 0;rw[b5a B 0 hB,←List.range_eq_range']at h;rw[←h]; unfold a0c; rw[List.map_map]; rfl
theorem b8j{l:Nat}(hl:2≤l){R:List Nat}(hR:R.length≤10000){ow:List OV}{o0 o2 o3 o4 o5 o6:OV}{K:Fl→St→Prop}
 (hK:K .next ⟨[d0,d1,d2,d3,.own (ow.length+1),d5,d6,d7,d8,d9,.dat (.list ((((List.range R.length).zip R).filter fun p=>decide (256≤p.2)).map fun p=>.int (p.1:Int)))]++List.replicate 18 .undef,ow++[o0,.froz (a0c R),o2,o3,o4,o5,o6],false⟩) :
  wpS (a0y l) a0i (.assign 10 (.comp (.forIf (.tup [22,23]) (.enum (.var 4)) (.call 9 (.cons (.var 23) .nil)) (.elt (.var 22))))) ⟨[d0,d1,d2,d3,.own (ow.length+1),d5,d6,d7,d8,d9,.undef]++List.replicate 18 .undef,ow++[o0,.lst (a0c R),o2,o3,o4,o5,o6],false⟩ K:=by
 have hen:a8v (a0c R)=((List.range R.length).zip R).map b9v:=a7m _ _;simp_all![];rw[hen];refine⟨by omega,?_⟩
 refine a6a (g:=b9v) (fun p=>decide (256≤p.2)) (fun p=>.int (p.1:Int)) (fun st=>∃a b,st=((⟨[d0,d1,d2,d3,.own (ow.length+1),d5,d6,d7,d8,d9,.undef]++List.replicate 18 .undef,ow++[o0,.froz (a0c R),o2,o3,o4,o5,o6],false⟩:St).set 22 a).set 23 b) _ ?_ _ _ ⟨.undef,.undef,rfl⟩ ?_ ?_
 ·rintro⟨i,o⟩ hio st acc K ⟨a,b,rfl⟩ hacc hK
  rw[d3x];unfold b9v;simp_all![];refine e0v (by omega) ⟨⟨_,rfl⟩,?_⟩
  simp_all![];have e:decide ((256:Int)≤(o:Int))=decide (256≤o):=by rw[Bool.eq_iff_iff,decide_eq_true_eq,decide_eq_true_eq]; omega
  rw[e]
  have:=hK _ ⟨.dat (.int (i:Int)),.dat (.int (o:Int)),rfl⟩
  by_cases h:decide (256≤o)=true
  ·rw[if_pos h]at this ⊢
   exact⟨hacc,this⟩
  ·rw[if_neg h]at this ⊢
   exact this
 ·simp; omega
 ·rintro st ⟨a,b,rfl⟩
  exact hK
theorem c6j{l:Nat}(hl:24≤l){B:List Bk}(hB:∀b∈B,b.Ok)(hR:(a4f B).length≤5000)(hBl:B.length≤1000)(hpa:(B.flatMap Bk.pa).length≤999)(hmo:(B.flatMap Bk.mo).length≤999)(htu:(B.flatMap Bk.tu).length≤999){pats:List (List (List Nat))}(hp:∀ps∈pats,PatOK ps)(hpl:pats.length=4){X:List Nat}(hMV:B.flatMap Bk.mo=MV)(hXe:B.flatMap Bk.tu=X)(hM:MvOK MV)(hX:∀x∈X,x/4<MV.length){T:List (List Nat)}(hT:T.length≤1000)(hT2:∀t∈T,t.length≤1000){ow:List OV}{Q:V→List OV→Prop}
 (hQ:Q (.dat (.list [.list (B.flatMap Bk.pa),.list (T.map (b5o MV X pats)),.list (b8p T)])) ow) :
  a1f (a0y l) a0i L2.law_read.tl.tl ⟨[d0,.dat (.list (a0m (pats.map (jn a5q)))),.dat (.list (a0m T)),.own ow.length,.own (ow.length+1),.own (ow.length+2),.own (ow.length+3),.own (ow.length+4),.own (ow.length+5),.own (ow.length+6)]++List.replicate 19 .undef,ow++[.iter [],.lst (a0c (a4f B++[0])),.lst [],.lst [],.lst [],.lst [],.lst []],true⟩ fun fl st=>Q (.dat (match fl with|.ret d=>d|.next=>.none)) (st.own.take ow.length):=by
 have hRl:(a0c (a4f B++[0])).length≤1000000:=by rw[intsL_length,List.length_append,List.length_singleton]; exact a0o (.l (.p N0 O1) (.k 1000000)) (.l N0 (.k 5000)) hR
 refine wq2 ?_;simp_all![];refine⟨fun j hj=>by rw[List.mem_singleton.mp hj]; exact⟨_,rfl,trivial⟩,?_⟩
 refine wq2 (b8j (by exact a0o (.l (.k 2) N0) (.l (.k 24) N0) hl) (by rw[List.length_append,List.length_singleton]; exact a0o (.l (.p N0 O1) (.k 10000)) (.l N0 (.k 5000)) hR) ?_)
 rw[c7b hB];refine wq1 ?_;refine wq2 ?_;refine wqf ?_;simp_all![];have hol:=b7b B 0;have hc1:cut (a0c (b9n 0 B)) (some 1) none=(a0c (b9n 0 B)).drop 1:=a6w (a0c (b9n 0 B)) 1;rw[show(((a4f B).length+1:Nat):Int)-1=((a4f B).length:Int) by omega,hc1,b2u B 0 _ (Nat.zero_add _).symm]
 refine⟨by exact a1m (.l N0 (.k 1000000)) (.l N1 (.k 1000)) (.e N0 N1) hBl hol,by exact a0o (.l (.p N0 O1) (.k 1000000)) (.l N0 (.k 5000)) hR,by rw[List.length_drop,intsL_length]; exact a1m (.l (.p (.s N0 O1) O1) (.k 1000000)) (.l N1 (.k 1000)) (.e N0 N1) hBl hol,?_⟩
 refine d0g (by exact a0o (.l (.k 20) N0) (.l (.k 24) N0) hl) hB (by rw[List.length_append,List.length_singleton]; exact a0o (.l (.p N0 O1) (.k 10000)) (.l N0 (.k 5000)) hR) hpa hmo htu fun v11 v12 v13 v14 v15 v16=>?_
 rw[hMV,hXe];exact d4z hp hpl hM hX (by exact a0o (.l (.k 5) N0) (.l (.k 24) N0) hl) hT hT2 hQ
theorem d4n{n:Nat}(hn:25≤n){B:List Bk}(hB:∀b∈B,b.Ok)(hR:(a4f B).length≤5000)(hBl:B.length≤1000)(hpa:(B.flatMap Bk.pa).length≤999)(hmo:(B.flatMap Bk.mo).length≤999)(htu:(B.flatMap Bk.tu).length≤999){pats:List (List (List Nat))}(hp:∀ps∈pats,PatOK ps)(hpl:pats.length=4){X:List Nat}(hMV:B.flatMap Bk.mo=MV)(hXe:B.flatMap Bk.tu=X)(hM:MvOK MV)(hX:∀x∈X,x/4<MV.length){T:List (List Nat)}(hT:T.length≤1000)(hT2:∀t∈T,t.length≤1000){os:List Nat}(henc:Enc os (a4f B++[0])){ow:List OV}{Q:V→List OV→Prop}
 (hQ:Q (.dat (.list [.list (B.flatMap Bk.pa),.list (T.map (b5o MV X pats)),.list (b8p T)])) ow) :
  a0y n 16 true [] [.dat (.list (a0c os)),.dat (.list (a0m (pats.map (jn a5q)))),.dat (.list (a0m T))] ow Q:=by
 obtain⟨l,rfl⟩:∃m,n=m+25:=⟨n-25,by omega⟩
 refine⟨Nat.succ_pos _,fun _=>rfl,rfl,rfl,?_⟩;refine wq2 ?_;dsimp only[L2.law_read,L2.law_read_nl];simp_all![]
 (refine wq2 ?_; rw[b8c])
 refine⟨(a4f B).length+2,b8k (i:=3) (rv:=4) (j:=ow.length) (tl:=[]) (by omega) rfl rfl (fun _ _=>rfl) (fun _ _=>rfl) (a4f B) [] os _ _ (by exact a3f (.t (.p N0 O1) (.p N0 (.k 2)))) (d0p hB) (fun _ h=>nomatch h) (by simp only[List.length_nil]; exact a0o (.t (.p (.k 0) N0) (.k 10000)) (.l N0 (.k 5000)) hR) henc (own_ix0 _ _) (own_ix _ _ 1) fun os' ho'=>?_⟩
 have ho':os'=[]:=ho';subst ho';rw[own_set0];simp only[List.set_cons_zero];rw[own_set];simp only[List.set_cons_zero,List.set_cons_succ,List.nil_append];exact c6j (by omega) hB hR hBl hpa hmo htu hp hpl hMV hXe hM hX hT hT2 hQ
theorem c3r{l:List Nat}(h:i<l.length):l.getD i 0∈l:=List.getElem_eq_getD 0▸List.getElem_mem h
theorem e1j{l:List Nat}{n:Nat}(h:l.length=n):l=(List.range n).map (l.getD · 0):=h▸List.ext_getElem (by rw[List.length_map,List.length_range]) fun i h1 h2=>by rw[List.getElem_map,List.getElem_range]; exact List.getElem_eq_getD 0
inductive AI(is I:List Int):List (Nat×Int)→St→Prop
 |mk {rst} (j:Nat) (ns:List Nat) (v2 v3:V):j≤I.length→rst=((List.range I.length).zip I).drop j→ns.length=7→AI is I rst (a2l [.dat (.list (is.map .int)),.own 0,v2,v3] 29 [.lst (a0c ns)])
theorem d7v{n:Nat}{is:List Int}(hl:is.length≤63){Q:Fl→St→Prop}(h:∀(n0 n1 n2 n3 n4 n5 n6:Nat) v2 v3,a1f (a0y n) a0i L2.law.tl.tl (a2l [.dat (.list (is.map .int)),.own 0,v2,v3] 29 [.lst [.int n0,.int n1,.int n2,.int n3,.int n4,.int n5,.int n6]]) Q) :
  a1f (a0y n) a0i L2.law (a2l [.dat (.list (is.map .int))] 32 []) Q:=by
 refine wq2 ?_;simp_all![]
 (refine wq2 ?_; refine wqf ?_)
 simp_all![];have hc:cut (is.map PyData.int) none (some 60)=(is.take 60).map .int:=by
  rw[show(some (60:Int))=some ((60:Nat):Int) from rfl,cut_to,List.map_take]
 rw[hc];refine⟨by simp; omega,by simp; exact a3f (.l (.b 2 (.k 60) N0) (.k 1000000)),?_⟩
 rw[a7m];generalize hI:is.take 60=I;have hIl:I.length≤60:=by rw[←hI]; simp; exact a3f (.l (.b 2 (.k 60) N0) (.k 60))
 refine a3o (g:=fun p:Nat×Int=>.tuple [.int (p.1:Int),.int p.2]) (AI is I) ?_ _ _
  ⟨0,[3,657,5848314,88,290,123456,7],.undef,.undef,Nat.zero_le _,rfl,rfl⟩ ?_
 ·rintro p rst st K' ⟨j,ns,v2,v3,hj,hr,hns⟩ hK hRt
  have hjl:j<I.length:=by
   rcases Nat.lt_or_ge j I.length with h|h
   ·exact h
   ·rw[List.drop_of_length_le (by simp; omega)]at hr; cases hr
  rw[c6g hjl]at hr;obtain⟨rfl,rfl⟩:=List.cons.inj hr;generalize I[j]=x;have h7:j%7<ns.length:=by exact a1m (.t N0 N1) (.e N1 (.k 7)) (.t N0 (.k 7)) hns (ml rfl)
  have hf:(j:Int).fmod 7=((j%7:Nat):Int):=a0p j 7;obtain⟨y,hy⟩:∃y:Nat,x.fmod (10^(6:Int).toNat)=(y:Int):=by
   have e:(10:Int)^(6:Int).toNat=1000000:=by decide
   rw[e,Int.fmod_eq_emod_of_nonneg _ (by decide)]
   have h1:=Int.emod_nonneg x (show(1000000:Int)≠0 by decide)
   exact⟨(x%1000000).toNat,by exact a6c (.e Z0 (.c (.u 0 Z0))) (.l (.z 0) Z0) h1⟩
  refine lqS ?_;simp_all![];refine wq2 ?_;simp_all![hf,Int.toNat_natCast,a2j h7,hy];refine⟨by decide,by exact d2y (.a (.l (.z 0) (.c N0)) (.l (.c N0) (.z 1000000))) (.l N1 (.k 60)) (.t N2 N1) (.e (.p (.m 0 7 N3) N0) N2) hIl hjl (Nat.div_add_mod _ 7),by decide,by decide,h7,?_⟩
  have e1:(a0c ns).set (j%7) (.int (((ns.getD (j%7) 0:Nat):Int)+(y:Int)))=a0c (ns.set (j%7) (ns.getD (j%7) 0+y)):=by
   unfold a0c; rw[List.map_set]; rfl
  (rw[e1]; refine wq1 ?_)
  exact hK _ ⟨j+1,ns.set (j%7) (ns.getD (j%7) 0+y),_,_,by exact a1b (.l (.p N0 O1) N1) (.t N0 N1) hjl,rfl,by simpa using hns⟩
 ·rintro st ⟨j,ns,v2,v3,hj,hr,hns⟩
  have e:ns=[ns.getD 0 0,ns.getD 1 0,ns.getD 2 0,ns.getD 3 0,ns.getD 4 0,ns.getD 5 0,ns.getD 6 0]:=e1j hns;rw[e];exact h _ _ _ _ _ _ _ v2 v3
theorem d7p:S.ws L2.law.tl.tl.hd=signsL.map mk:=by decide +kernel
theorem c6f{n:Nat}{st:St}{Q:Fl→St→Prop}(h:Q .next (st.set 4 (.dat (.list (a0m signsL))))):wpS (a0y n) a0i L2.law.tl.tl.hd st Q:=by
 have e:a0m signsL=L2.law.tl.tl.hd.ws.map .str:=by rw[d7p,List.map_map]; rfl
 rw[e]at h;exact h
theorem d7m{n:Nat}{n0 n1 n2 n3 n4 n5 n6:Nat}{Q:Fl→St→Prop}(h:∀c1 c2 ps,(∀c∈[c1,c2],7≤c∧c≤54∧c≠23∧c≠52)→a1f (a0y n) a0i L2.law.tl.tl.tl.tl.tl (a2l [s1,.own 0,v2,v3,.dat (.list (a0m signsL)),.own 1,.dat (.list (a0c [52,c1,c2]))] 26 [.lst [.int n0,.int n1,.int n2,.int n3,.int n4,.int n5,.int n6],.lst ps]) Q) :
  a1f (a0y n) a0i L2.law.tl.tl (a2l [s1,.own 0,v2,v3] 29 [.lst [.int n0,.int n1,.int n2,.int n3,.int n4,.int n5,.int n6]]) Q:=by
 show a1f (a0y n) a0i (.cons L2.law.tl.tl.hd L2.law.tl.tl.tl) _ _;refine wq2 ?_;refine c6f ?_;show a1f (a0y n) a0i L2.law.tl.tl.tl _ _;refine wq2 ?_;simp_all![];refine⟨by exact c5u (.a (.l (.z (Int.neg 1000000)) (.z 48)) (.l (.z 48) (.z 1000000))),?_⟩
 refine c3z (g:=fun(e:Nat)=>PyData.int (e:Int)) (fun i=>i != 16&&i != 45) (fun(e:Nat)=>PyData.int (e:Int)) (List.range 48) (by rfl) (fun i hi acc K hacc hK=>?_) (by simp) fun st' g1 g2=>?_
 ·have hi48:=List.mem_range.mp hi
  have hch:=List.all_eq_true.mp c9v i hi;rw[Bool.and_eq_true,beq_iff_eq]at hch;simp_all![a6d,a1d hi48,b0a hi48,hch.1];refine⟨by exact a0o (.a (.l (.z (Int.neg 1000000)) (.c N0)) (.l (.c N0) (.z 1000000))) (.t N0 (.k 48)) hi48,⟨hch.2,c7e⟩,?_⟩
  by_cases hc:(i != 16&&i != 45)=true
  ·rw[if_pos hc]at hK ⊢
   exact⟨hacc,hK⟩
  ·rw[if_neg hc]at hK ⊢
   exact hK
 rw[show st'.own=_ from g1,show st'.hz=true from g2]
 have hpl:((List.range 48).filter fun i=>i != 16&&i != 45).map (fun(e:Nat)=>PyData.int (e:Int))=a0c poolL:=rfl;rw[hpl];have m46:(n1:Int).fmod 46=((n1%46:Nat):Int):=a0p n1 46;have d46:(n1:Int).fdiv 46=((n1/46:Nat):Int):=a0u n1 46;have m45:((n1/46:Nat):Int).fmod 45=((n1/46%45:Nat):Int):=a0p _ 45;have l0:n1%46<poolL.length:=by rw[a4w]; omega
 obtain⟨q1,q2,q3⟩:=b2z l0;have hmem:poolL.getD (n1%46) 0∈poolL:=c3r l0;generalize hP1:poolL.eraseIdx (n1%46)=P1 at q3;have hP1l:P1.length=45:=by rw[←hP1,List.length_eraseIdx_of_lt l0,a4w]
 have l1:n1/46%45<P1.length:=by exact a1m (.t N0 N1) (.e N1 (.k 45)) (.t N0 (.k 45)) hP1l (ml rfl)
 obtain⟨r1,r2,r3⟩:=b2z l1;have hmem1:P1.getD (n1/46%45) 0∈poolL:=by
  have l1':=l1;rw[←hP1]at l1' ⊢;exact List.mem_of_mem_eraseIdx (c3r l1')
 have hlp:(a0c poolL).length≤1000000:=by rw[intsL_length,a4w]; decide
 have hl1:(a0c P1).length≤1000000:=by rw[intsL_length,hP1l]; decide
 have key:=h (7+poolL.getD (n1%46) 0) (7+P1.getD (n1/46%45) 0) (a0c (P1.eraseIdx (n1/46%45))) (fun c hc=>by
  have g0:=b2y _ hmem;have g1:=b2y _ hmem1;simp only[List.mem_cons,List.not_mem_nil,or_false]at hc
  rcases hc with rfl|rfl <;> (first|exact a0o (.a (.l (.k 7) (.p (.k 7) N0)) (.a (.l (.p (.k 7) N0) (.k 54)) (.a (.n (.e (.p (.k 7) N0) (.k 23))) (.n (.e (.p (.k 7) N0) (.k 52)))))) (.a (.t N0 (.k 48)) (.a (.n (.e N0 (.k 16))) (.n (.e N0 (.k 45))))) g0|exact a0o (.a (.l (.k 7) (.p (.k 7) N0)) (.a (.l (.p (.k 7) N0) (.k 54)) (.a (.n (.e (.p (.k 7) N0) (.k 23))) (.n (.e (.p (.k 7) N0) (.k 52)))))) (.a (.t N0 (.k 48)) (.a (.n (.e N0 (.k 16))) (.n (.e N0 (.k 45))))) g1|omega))
 generalize a0c poolL=W0 at q1 q2 q3 hlp ⊢;generalize a0c P1=W1 at q3 r1 r2 r3 hl1;refine wq2 ?_;simp_all![m46,d46,m45,q1,q2,q3,r1,r2,r3];refine⟨⟨_,rfl⟩,by decide,by decide,hlp,by exact a0o (.a (.l (.z (Int.neg 1000000)) (.c N0)) (.l (.c N0) (.z 1000000))) (.t N0 (.k 46)) (ml rfl),⟨_,rfl⟩,by decide,⟨by decide,a0x (by decide)⟩,by decide,hl1,by exact a1m (.a (.l (.z (Int.neg 1000000)) (.c N0)) (.l (.c N0) (.z 1000000))) (.e N1 (.k 45)) (.t N0 N1) hP1l l1,?_⟩
 exact key
noncomputable def ixP(n k:Nat):List Nat:=(List.range 5).map fun j=>n/3^(5*k+j)%3
noncomputable def ixT(n m k:Nat):List Nat:=(List.range (n/5^k%5)).map fun j=>1+m/16^k/2^j%2
noncomputable def cdL(cs:List Nat)(L:List (List Nat)):List (List Nat):=L.map fun r=>r.map (cs.getD · 0)
noncomputable def PX(n:Nat):List (List Nat):=[ixP n 0,ixP n 1,ixP n 2,[0]]
noncomputable def TI(n m:Nat):List (List Nat):=[ixT n m 0,ixT n m 1,ixT n m 2]
theorem d9g{n:Nat}{n0 n1 n2 n3 n4 n5 n6 c1 c2:Nat}{o1:OV}{Q:Fl→St→Prop}
 (h:a1f (a0y n) a0i L2.law.tl.tl.tl.tl.tl.tl.tl (a2l [s1,.own 0,v2,v3,v4,v5,.dat (.list (a0c [52,c1,c2])),.dat (.list (rsD (cdL [52,c1,c2] (PX n2)))),.dat (.list (rsD (cdL [52,c1,c2] (TI n3 n4))))] 24 [.lst [.int n0,.int n1,.int n2,.int n3,.int n4,.int n5,.int n6],o1]) Q) :
  a1f (a0y n) a0i L2.law.tl.tl.tl.tl.tl (a2l [s1,.own 0,v2,v3,v4,v5,.dat (.list (a0c [52,c1,c2]))] 26 [.lst [.int n0,.int n1,.int n2,.int n3,.int n4,.int n5,.int n6],o1]) Q:=by
 have f3:∀a:Nat,Int.fmod (a:Int) 3=((a%3:Nat):Int):=fun a=>a0p a 3;have f5:∀a:Nat,Int.fmod (a:Int) 5=((a%5:Nat):Int):=fun a=>a0p a 5;have f2:∀a:Nat,Int.fmod (a:Int) 2=((a%2:Nat):Int):=fun a=>a0p a 2;have hcl:(a0c [52,c1,c2]).length=3:=rfl;have hcg:∀i,i<3→(a0c [52,c1,c2])[i]?=some (.int (([52,c1,c2].getD i 0:Nat):Int)):=fun i hi=>a2j (l:=[52,c1,c2]) hi;have h00:[52,c1,c2].getD 0 0=52:=rfl;generalize [52,c1,c2]=cs at *;have hpx:∀y:Nat,y<3→a2r (a0c cs).length (y:Int)=some y:=fun y hy=>by rw[hcl]; exact a1d hy
 have e0:PyData.list [.int 52]=.list (a0c ([0].map (cs.getD · 0))):=by
  show _=PyData.list [.int ((cs.getD 0 0:Nat):Int)];rw[h00]; rfl
 clear h00 hcl;obtain⟨CS,hCS⟩:∃CS,CS=a0c cs:=⟨_,rfl⟩;rw[←hCS]at h hcg hpx ⊢;clear hCS;refine wq2 ?_;simp_all![];refine⟨by decide,?_⟩
 refine a0r (g:=fun(e:Nat)=>PyData.int (e:Int)) (fun k=>.list (a0c ((ixP n2 k).map (cs.getD · 0)))) (List.range 3) (by rfl) (fun k hk acc K hacc hK=>?_) (by decide) fun st' g1 g2=>?_
 ·have hk3:=List.mem_range.mp hk
  simp_all![];refine⟨by decide,?_⟩
  refine a0r (g:=fun(e:Nat)=>PyData.int (e:Int)) (fun j=>.int ((cs.getD (n2/3^(5*k+j)%3) 0:Nat):Int)) (List.range 5) (by rfl) (fun j hj acc K hacc hK=>?_) (by decide) fun st' g1 g2=>?_
  ·have hj5:=List.mem_range.mp hj
   have ep:(3:Int)^(5*(k:Int)+(j:Int)).toNat=((3^(5*k+j):Nat):Int):=a5s 3 (5*k+j);have hy:n2/3^(5*k+j)%3<3:=Nat.mod_lt _ (by decide)
   simp_all![ep,a0u,f3,hpx _ hy,hcg _ hy];exact⟨by decide,.inl (by decide),⟨by exact b2b (.l (.z 0) (.P (.n 0 5 (.c N0)) (.c N1))),by exact a1m (.l (.P (.n 0 5 (.c N0)) (.c N1)) (.z 1000)) (.t N0 (.k 3)) (.t N1 (.k 5)) hk3 hj5,by decide⟩,b6j (by decide) (by decide) (by exact a1m (.l (.p (.m 0 5 N0) N1) (.k 100)) (.t N0 (.k 3)) (.t N1 (.k 5)) hk3 hj5),by decide,by exact a0o (.a (.l (.z (Int.neg 1000000)) (.c N0)) (.l (.c N0) (.z 1000000))) (.t N0 (.k 3)) (ml rfl),hacc,hK⟩
  rw[show st'.own=_ from g1,show st'.hz=true from g2]
  have e:((List.range 5).map fun j=>PyData.int ((cs.getD (n2/3^(5*k+j)%3) 0:Nat):Int))=a0c ((ixP n2 k).map (cs.getD · 0)):=by unfold a0c ixP; rw[List.map_map,List.map_map]; rfl
  rw[e];exact⟨hacc,hK⟩
 rw[show st'.own=_ from g1,show st'.hz=true from g2,e0]
 have e1:(List.range 3).map (fun k=>PyData.list (a0c ((ixP n2 k).map (cs.getD · 0))))++[.list (a0c ([0].map (cs.getD · 0)))]=rsD (cdL cs (PX n2)):=rfl;rw[e1];refine⟨show 3+1≤1000000 by decide,?_⟩
 refine wq2 ?_;simp_all![];refine⟨by decide,?_⟩
 refine a0r (g:=fun(e:Nat)=>PyData.int (e:Int)) (fun k=>.list (a0c ((ixT n3 n4 k).map (cs.getD · 0)))) (List.range 3) (by rfl) (fun k hk acc K hacc hK=>?_) (by decide) fun st' g1 g2=>?_
 ·have hk3:=List.mem_range.mp hk
  have ep:(5:Int)^(k:Int).toNat=((5^k:Nat):Int):=a5s 5 k;simp_all![ep,a0u,f5];rw[b0y];refine⟨by decide,⟨by exact a3f (.l (.z 0) (.c N0)),by exact a0o (.l (.c N0) (.z 1000)) (.t N0 (.k 3)) hk3,by decide⟩,b6j (by decide) (by decide) (by exact a0o (.l N0 (.k 100)) (.t N0 (.k 3)) hk3),by decide,by exact a0o (.a (.l (.z (Int.neg 1000000)) (.c N0)) (.l (.c N0) (.z 1000000))) (.t N0 (.k 5)) (ml rfl),?_⟩
  refine a0r (g:=fun(e:Nat)=>PyData.int (e:Int)) (fun j=>.int ((cs.getD (1+n4/16^k/2^j%2) 0:Nat):Int)) (List.range (n3/5^k%5)) (by rfl) (fun j hj acc K hacc hK=>?_) (by simp; exact a0o (.l N0 (.k 1000000)) (.t N0 (.k 5)) (ml rfl)) fun st' g1 g2=>?_
  ·have hj5:=List.mem_range.mp hj
   have ep:(16:Int)^(k:Int).toNat=((16^k:Nat):Int):=a5s 16 k;have ep2:(2:Int)^(j:Int).toNat=((2^j:Nat):Int):=a5s 2 j;have hy:1+n4/16^k/2^j%2<3:=by exact a0o (.t (.p O1 N0) (.k 3)) (.t N0 (.k 2)) (ml rfl)
   have ec:(1:Int)+((n4/16^k/2^j%2:Nat):Int)=((1+n4/16^k/2^j%2:Nat):Int):=rfl;simp_all![ep,ep2,a0u,f2,ec,hpx _ hy,hcg _ hy];exact⟨by decide,⟨by exact a3f (.l (.z 0) (.c N0)),by exact a0o (.l (.c N0) (.z 1000)) (.t N0 (.k 3)) hk3,by decide⟩,b6j (by decide) (by decide) (by exact a0o (.l N0 (.k 100)) (.t N0 (.k 3)) hk3),⟨by exact a3f (.l (.z 0) (.c N0)),by exact a1m (.l (.c N0) (.z 1000)) (.t N0 N1) (.t N1 (.k 5)) hj5 (ml rfl),by decide⟩,b6j (by decide) (by decide) (by exact a1m (.l N0 (.k 100)) (.t N0 N1) (.t N1 (.k 5)) hj5 (ml rfl)),by decide,by exact a0o (.a (.l (.z (Int.neg 1000000)) (.c (.p O1 N0))) (.l (.c (.p O1 N0)) (.z 1000000))) (.t N0 (.k 2)) (ml rfl),hacc,hK⟩
  rw[show st'.own=_ from g1,show st'.hz=true from g2]
  have e:((List.range (n3/5^k%5)).map fun j=>PyData.int ((cs.getD (1+n4/16^k/2^j%2) 0:Nat):Int))=a0c ((ixT n3 n4 k).map (cs.getD · 0)):=by unfold a0c ixT; rw[List.map_map,List.map_map]; rfl
  rw[e];exact⟨hacc,hK⟩
 rw[show st'.own=_ from g1,show st'.hz=true from g2]
 exact h
noncomputable def a9r(a b c:Nat):List Nat:=[1,[2,3,4,5].getD a 0,([2,3,4,5].eraseIdx a).getD b 0,(([2,3,4,5].eraseIdx a).eraseIdx b).getD c 0,((([2,3,4,5].eraseIdx a).eraseIdx b).eraseIdx c).getD 0 0]
theorem b8w:(List.range 4).all (fun a=>(List.range 3).all fun b=>(List.range 2).all fun c=>rings.contains (a9r a b c))=true:=by decide +kernel
theorem b9o{a b c:Nat}(ha:a<4)(hb:b<3)(hc:c<2):a9r a b c∈rings:=by
 have h:=List.all_eq_true.mp b8w a (List.mem_range.mpr ha);have h:=List.all_eq_true.mp h b (List.mem_range.mpr hb);have h:=List.all_eq_true.mp h c (List.mem_range.mpr hc);exact List.contains_iff_mem.mp h
theorem d8u{n:Nat}{n0 n1 n2 n3 n4 n5 n6:Nat}{o1:OV}{Q:Fl→St→Prop}
 (h:∀ps,a1f (a0y n) a0i L2.law.tl.tl.tl.tl.tl.tl.tl.tl.tl (a2l [s1,.own 0,v2,v3,v4,v5,v6,v7,v8,.own 2,.dat (.list (a0c (a9r (n6%4) (n6/4%3) (n6/12%2))))] 22 [.lst [.int n0,.int n1,.int n2,.int n3,.int n4,.int n5,.int n6],o1,.lst ps]) Q) :
  a1f (a0y n) a0i L2.law.tl.tl.tl.tl.tl.tl.tl (a2l [s1,.own 0,v2,v3,v4,v5,v6,v7,v8] 24 [.lst [.int n0,.int n1,.int n2,.int n3,.int n4,.int n5,.int n6],o1]) Q:=by
 have m4:(n6:Int).fmod 4=((n6%4:Nat):Int):=a0p n6 4;have d4:(n6:Int).fdiv 4=((n6/4:Nat):Int):=a0u n6 4;have m3:((n6/4:Nat):Int).fmod 3=((n6/4%3:Nat):Int):=a0p _ 3;have d12:(n6:Int).fdiv 12=((n6/12:Nat):Int):=a0u n6 12;have m2:((n6/12:Nat):Int).fmod 2=((n6/12%2:Nat):Int):=a0p _ 2;have l0:n6%4<4:=Nat.mod_lt _ (by decide)
 have l1:n6/4%3<3:=Nat.mod_lt _ (by decide)
 have l2:n6/12%2<2:=Nat.mod_lt _ (by decide)
 unfold a9r at h;generalize n6%4=a at *;generalize n6/4%3=b at *;generalize n6/12%2=c at *;obtain⟨q1,q2,q3⟩:=b2z (l:=[2,3,4,5]) (i:=a) l0;have hP1:([2,3,4,5].eraseIdx a).length=3:=by rw[List.length_eraseIdx_of_lt l0]; rfl
 generalize [2,3,4,5].eraseIdx a=P1 at *;obtain⟨r1,r2,r3⟩:=b2z (l:=P1) (i:=b) (by omega)
 have hP2:(P1.eraseIdx b).length=2:=by rw[List.length_eraseIdx_of_lt (by omega),hP1]
 generalize P1.eraseIdx b=P2 at *;obtain⟨t1,t2,t3⟩:=b2z (l:=P2) (i:=c) (by omega)
 have hP3:(P2.eraseIdx c).length=1:=by rw[List.length_eraseIdx_of_lt (by omega),hP2]
 generalize P2.eraseIdx c=P3 at *;have hlast:(a0c P3).getLast?=some (.int (P3.getD 0 0:Nat)):=by
  match P3,hP3 with
  |[x],_=>rfl
 have k1:=intsL_length P1;have k2:=intsL_length P2;have k3:=intsL_length P3;have e0:a0c [2,3,4,5]=[.int 2,.int 3,.int 4,.int 5]:=rfl;rw[e0]at q1 q2 q3;have key:=h (a0c P3).dropLast;have er:∀w x y z:Nat,a0c [1,w,x,y,z]=[.int 1,.int (w:Int),.int (x:Int),.int (y:Int),.int (z:Int)]:=fun _ _ _ _=>rfl;rw[er]at key;generalize [2,3,4,5].getD a 0=w at q2 key;generalize P1.getD b 0=x at r2 key;generalize P2.getD c 0=y at t2 key;generalize P3.getD 0 0=z at hlast key;generalize a0c P1=W1 at *;generalize a0c P2=W2 at *;generalize a0c P3=W3 at *;clear h;refine wq2 ?_;simp_all![];have k0:[PyData.int 2,.int 3,.int 4,.int 5].length=4:=rfl;generalize [PyData.int 2,.int 3,.int 4,.int 5]=W0 at *;refine wq2 ?_;simp_all![m4,d4,m3,d12,m2,q1,q2,q3,r1,r2,r3,t1,t2,t3,hlast];exact⟨⟨_,rfl⟩,by decide,by decide,by exact a0o (.l N0 (.k 1000000)) (.e N0 (.k 4)) k0,by omega,⟨_,rfl⟩,by decide,⟨by decide,a0x (by decide)⟩,by decide,by exact a1m (.l N0 (.k 1000000)) (.e N1 (.k 3)) (.e N0 N1) hP1 k1,by omega,⟨_,rfl⟩,by decide,⟨by decide,a0x (by decide)⟩,by decide,by exact a1m (.l N0 (.k 1000000)) (.e N1 (.k 2)) (.e N0 N1) hP2 k2,by omega,by exact a1m (.l N0 (.k 1000000)) (.e N1 O1) (.e N0 N1) hP3 k3,key⟩
noncomputable def b1m(R:List (List Nat))(t:Tn):List (List Nat):=if R.contains t.2.1=true then R else R++[t.2.1]
theorem c0d(R:List (List Nat))(t:Tn):(∀r∈R,r∈b1m R t)∧t.2.1∈b1m R t∧(b1m R t).length≤R.length+1∧((∀r∈R,r∈rings)→t.2.1∈rings→∀r∈b1m R t,r∈rings):=by
 unfold b1m
 by_cases h:R.contains t.2.1=true
 ·rw[if_pos h]
  exact⟨fun _ h=>h,List.contains_iff_mem.mp h,Nat.le_succ _,fun h _=>h⟩
 ·rw[if_neg h]
  refine⟨fun _ h=>List.mem_append_left _ h,List.mem_append_right _ (.head _),by simp,fun h1 h2 r hr=>?_⟩
  rcases List.mem_append.mp hr with hr|hr
  ·exact h1 r hr
  ·rw[List.mem_singleton.mp hr]; exact h2
theorem b6e:∀(TS:List Tn) (R:List (List Nat)),(∀r∈R,r∈rings)→(∀t∈TS,t.2.1∈rings)→(∀r∈R,r∈TS.foldl b1m R)∧(∀t∈TS,t.2.1∈TS.foldl b1m R)∧(TS.foldl b1m R).length≤R.length+TS.length∧∀r∈TS.foldl b1m R,r∈rings
 |[]=>fun R h _=>⟨fun _ h=>h,(fun _ h=>nomatch h),Nat.le_refl _,h⟩
 |t::TS=>fun R h h2=>by
  obtain⟨a1,a2,a3,a4⟩:=c0d R t;obtain⟨b1,b2,b3,b4⟩:=b6e TS (b1m R t) (a4 h (h2 t (.head _))) fun t ht=>h2 t (.tail _ ht);refine⟨fun r hr=>b1 r (a1 r hr),fun u hu=>?_,by rw[List.length_cons]; exact Nat.le_trans b3 (by exact a2c (.l (.p N0 N1) (.p N2 (.p N1 O1))) (.l N0 (.p N2 O1)) a3),b4⟩
  rcases List.mem_cons.mp hu with rfl|hu
  ·exact b1 _ a2
  ·exact b2 u hu
theorem c1y(R:List (List Nat)):shp 2 (.list (rsD R)):=a2s fun d hd=>by
 obtain⟨r,_,rfl⟩:=List.mem_map.mp hd;exact a2s fun d hd=>by obtain⟨i,_,rfl⟩:=List.mem_map.mp hd; exact b1r 0 _
inductive RGI(TS:List Tn)(vs:List V)(ow:List OV):List Tn→St→Prop
 |mk {rst} (R:List (List Nat)) (v14 v15 v16:V):rst.foldl b1m R=TS.foldl b1m []→R.length+rst.length≤1000→RGI TS vs ow rst (a2l (vs++[.dat (.list (rsD R)),v14,v15,v16]) 16 ow)
theorem d9m{n:Nat}(hn:12≤n){n0 n1 n2 n3 n4 n5 n6:Nat}{o1 o2:OV}(hr:ring∈rings){Q:Fl→St→Prop}
 (h:∀v14 v15 v16,a1f (a0y n) a0i L2.law.tl.tl.tl.tl.tl.tl.tl.tl.tl.tl.tl.tl (a2l [s1,.own 0,v2,v3,v4,v5,v6,v7,v8,v9,.dat (.list (a0c ring)),.dat (a4a n0).D,.dat (.list (tsD ((a4a n0).turns ring false))),.dat (.list (rsD (((a4a n0).turns ring false).foldl b1m []))),v14,v15,v16] 16 [.lst [.int n0,.int n1,.int n2,.int n3,.int n4,.int n5,.int n6],o1,o2]) Q) :
  a1f (a0y n) a0i L2.law.tl.tl.tl.tl.tl.tl.tl.tl.tl (a2l [s1,.own 0,v2,v3,v4,v5,v6,v7,v8,v9,.dat (.list (a0c ring))] 22 [.lst [.int n0,.int n1,.int n2,.int n3,.int n4,.int n5,.int n6],o1,o2]) Q:=by
 obtain⟨f1,f2,f3⟩:=b7i n0;have hT:=F.turns_ok _ f1 (Nat.le_trans f3 (by decide))
 have hL:=F.turns_good _ f1 ring hr false;refine wq2 ?_;simp_all![];refine⟨by decide,c9f (by exact a0o (.l (.k 2) N0) (.l (.k 12) N0) hn) ⟨⟨_,rfl⟩,?_⟩⟩
 generalize a4a n0=f at *;generalize hTS:f.turns ring false=TS at *;simp_all![];refine wq2 ?_;simp_all![];refine hT.2 _ ring false _ _ hr (by omega) ?_
 rw[hTS];refine⟨⟨_,rfl⟩,?_⟩;simp_all![];refine wq2 ?_;refine wqf ?_;simp_all![];have hTl:TS.length≤32:=Nat.le_trans hL.1 f3;refine a3o (g:=tD) (RGI TS [s1,.own 0,v2,v3,v4,v5,v6,v7,v8,v9,.dat (.list (a0c ring)),.dat f.D,.dat (.list (tsD TS))] [.lst [.int n0,.int n1,.int n2,.int n3,.int n4,.int n5,.int n6],o1,o2]) ?_ TS _ (.mk [] _ _ _ rfl (by rw[List.length_nil]; exact a1m (.l (.p (.k 0) N0) (.k 1000)) (.l N1 (.k 32)) (.l N0 N1) f3 hL.1)) ?_
 ·rintro t rst st K' ⟨R,v14,v15,v16,hf,hlen⟩ hK hRt
  rw[List.length_cons]at hlen;dsimp only[List.foldl_cons]at hf;obtain⟨-,-,a3,-⟩:=c0d R t;have hrs:=b7j R t.2.1;have hsh:=a5c (c1y R) (by decide)
  refine lqS ?_;unfold tD;generalize htD:tsD TS=TD at *;simp_all![];refine wq2 ?_;simp_all![b3c];refine⟨⟨a1x _,hsh⟩,?_⟩;have hRl:=b1p R
  by_cases hc:R.contains t.2.1=true
  ·refine ifp hc ⟨by exact a2a (.l (.p N0 (.k 0)) (.k 1000000)) (.l (.p N1 (.p N2 O1)) (.k 1000)) (.e N0 N1) hlen hRl,wq1 ?_⟩
   have e:b1m R t=R:=by unfold b1m; rw[if_pos hc]
   rw[e]at hf;exact hK _ (.mk R _ _ _ hf (by exact a1b (.l (.p N0 N1) (.k 1000)) (.l (.p N0 (.p N1 O1)) (.k 1000)) hlen))
  ·refine ifn hc ⟨by exact a2a (.l (.p N0 O1) (.k 1000000)) (.l (.p N1 (.p N2 O1)) (.k 1000)) (.e N0 N1) hlen hRl,wq1 ?_⟩
   have e:b1m R t=R++[t.2.1]:=by unfold b1m; rw[if_neg hc]
   rw[e]at hf a3;rw[hrs];exact hK _ (.mk (R++[t.2.1]) _ _ _ hf (by exact a2a (.l (.p N0 N1) (.k 1000)) (.l (.p N2 (.p N1 O1)) (.k 1000)) (.l N0 (.p N2 O1)) hlen a3))
 ·rintro st ⟨R,v14,v15,v16,hf,hlen⟩
  have hf:R=TS.foldl b1m []:=hf;subst hf;exact h v14 v15 v16
noncomputable def d2w(x:Nat):Nat:=if x%5=0 then x+1 else x
noncomputable def a9x(n5 k:Nat):List Nat:=(List.range k).map fun i=>d2w ((n5+300008*i)%2000000)
theorem c5y(n5 k:Nat):(a9x n5 k).length=k∧∀v∈a9x n5 k,v%5≠0∧v<2^21:=by
 refine⟨by simp[a9x],fun v hv=>?_⟩
 obtain⟨i,_,rfl⟩:=List.mem_map.mp hv
 have:=Nat.mod_lt (n5+300008*i) (show 2000000>0 by decide)
 unfold d2w
 split <;> (first|exact a1m (.a (.n (.e N0 (.k 0))) (.t N1 (.k (Nat.pow 2 21)))) (.n (.e N0 (.k 0))) (.t N1 (.k 2000000)) ‹_› (ml rfl)|omega)
theorem d5w{n:Nat}{n0 n1 n2 n3 n4 n5 n6:Nat}{o1 o2:OV}(hRl:RS.length≤1000){Q:Fl→St→Prop}
 (h:a1f (a0y n) a0i L2.law.tl.tl.tl.tl.tl.tl.tl.tl.tl.tl.tl.tl.tl.tl (a2l [s1,.own 0,v2,v3,v4,v5,v6,v7,v8,v9,v10,v11,v12,.dat (.list (rsD RS)),v14,v15,v16,.dat (.list (a0c (a9x n5 RS.length)))] 15 [.lst [.int n0,.int n1,.int n2,.int n3,.int n4,.int n5,.int n6],o1,o2]) Q) :
  a1f (a0y n) a0i L2.law.tl.tl.tl.tl.tl.tl.tl.tl.tl.tl.tl.tl (a2l [s1,.own 0,v2,v3,v4,v5,v6,v7,v8,v9,v10,v11,v12,.dat (.list (rsD RS)),v14,v15,v16] 16 [.lst [.int n0,.int n1,.int n2,.int n3,.int n4,.int n5,.int n6],o1,o2]) Q:=by
 have hl:=b1p RS;have f2:∀a:Nat,Int.fmod (a:Int) 2000000=((a%2000000:Nat):Int):=fun a=>a0p a 2000000;have f5:∀a:Nat,Int.fmod (a:Int) 5=((a%5:Nat):Int):=fun a=>a0p a 5;unfold a9x at h;rw[←hl]at h;generalize rsD RS=RD at *;refine wq2 ?_;simp_all![];rw[b0y];refine⟨by exact a1m (.l N0 (.k 1000000)) (.l N1 (.k 1000)) (.e N0 N1) hRl hl,by exact a1m (.a (.l (.z (Int.neg 1000000)) (.c N0)) (.l (.c N0) (.z 1000000))) (.l N1 (.k 1000)) (.e N0 N1) hRl hl,?_⟩
 refine a0r (g:=fun(e:Nat)=>PyData.int (e:Int)) (fun i=>.int (((n5+300008*i)%2000000:Nat):Int)) (List.range RD.length) (by rfl) (fun i hi acc K hacc hK=>?_) (by rw[List.length_range]; exact a1m (.l N0 (.k 1000000)) (.l N1 (.k 1000)) (.e N0 N1) hRl hl) fun st' g1 g2=>?_
 ·have e:(n5:Int)+300008*(i:Int)=((n5+300008*i:Nat):Int):=rfl
  simp_all![e,f2];exact⟨by decide,.inl (by decide),by decide,hacc,hK⟩
 rw[show st'.own=_ from g1,show st'.hz=true from g2]
 refine wq2 ?_;simp_all![];refine a0r (g:=fun i=>PyData.int (((n5+300008*i)%2000000:Nat):Int)) (fun i=>.int ((d2w ((n5+300008*i)%2000000):Nat):Int)) (List.range RD.length) (by rfl) (fun i hi acc K hacc hK=>?_) (by rw[List.length_range]; exact a1m (.l N0 (.k 1000000)) (.l N1 (.k 1000)) (.e N0 N1) hRl hl) fun st' g1 g2=>?_
 ·generalize (n5+300008*i)%2000000=x at *
  have e0:(((x%5:Nat):Int)==0)=(x%5==0):=b5s (x%5) 0;have e1:(x:Int)+1=((x+1:Nat):Int):=rfl;simp_all![f5,e0,e1];refine⟨by decide,?_⟩
  unfold d2w at hK
  by_cases h5:x%5=0
  ·rw[if_pos h5]at hK
   exact ifp (by rw[h5]; rfl) ⟨hacc,hK⟩
  ·rw[if_neg h5]at hK
   exact ifn (by rw[beq_iff_eq]; exact h5) ⟨hacc,hK⟩
 rw[show st'.own=_ from g1,show st'.hz=true from g2]
 have e:((List.range RD.length).map fun i=>PyData.int ((d2w ((n5+300008*i)%2000000):Nat):Int))=a0c ((List.range RD.length).map fun i=>d2w ((n5+300008*i)%2000000)):=by unfold a0c; rw[List.map_map]; rfl
 rw[e];exact h
theorem d3p(hj:j≤8):((128^j:Nat):Int)≠0∧((128^j:Nat):Int).natAbs<2^4000:=by
 have h1:0<128^j:=Nat.pow_pos (by decide)
 refine⟨by exact a0o (.n (.e (.c N0) (.z 0))) (.t (.k 0) N0) h1,?_⟩
 rw[Int.natAbs_natCast];exact a0x (Nat.lt_of_le_of_lt (Nat.pow_le_pow_right (by decide) hj) (show 128^8<2^64 by decide))
noncomputable def d1j(RS:List (List Nat))(VS:List Nat):List Nat:=(RS.zip VS).flatMap fun p=>256::a4e p.1 p.2
noncomputable def d0s(p:List Nat×Nat):e1l:=.tuple [.list (a0c p.1),.int (p.2:Int)]
theorem c9g(RS:List (List Nat))(VS:List Nat):c1q (rsD RS) (a0c VS)=(RS.zip VS).map d0s:=by
 unfold c1q rsD a0c;rw[List.zipWith_map,List.zip,List.map_zipWith]; rfl
theorem d5q{n:Nat}{ow:List OV}(hRS:∀r∈RS,r∈rings)(hRl:RS.length≤50)(hVS:∀v∈VS,v%5≠0∧v<2^21){Q:Fl→St→Prop}
 (h:a1f (a0y n) a0i L2.law.tl.tl.tl.tl.tl.tl.tl.tl.tl.tl.tl.tl.tl.tl.tl (a2l [s1,v1,v2,v3,v4,v5,v6,v7,v8,v9,v10,v11,v12,.dat (.list (rsD RS)),v14,v15,v16,.dat (.list (a0c VS)),.dat (.list (a0c (d1j RS VS)))] 14 ow) Q) :
  a1f (a0y n) a0i L2.law.tl.tl.tl.tl.tl.tl.tl.tl.tl.tl.tl.tl.tl.tl (a2l [s1,v1,v2,v3,v4,v5,v6,v7,v8,v9,v10,v11,v12,.dat (.list (rsD RS)),v14,v15,v16,.dat (.list (a0c VS))] 15 ow) Q:=by
 refine wq2 ?_;simp_all![];rw[c9g];have f5:∀a:Nat,Int.fmod (a:Int) 5=((a%5:Nat):Int):=fun a=>a0p a 5;have f1:∀a:Nat,Int.fmod (a:Int) 128=((a%128:Nat):Int):=fun a=>a0p a 128;refine a3l (g:=d0s) (fun p=>a0c (256::a4e p.1 p.2)) (fun st=>∃a b c,st=(((a2l [s1,v1,v2,v3,v4,v5,v6,v7,v8,v9,v10,v11,v12,.dat (.list (rsD RS)),v14,v15,v16,.dat (.list (a0c VS))] 15 ow).set 29 a).set 30 b).set 31 c) (RS.zip VS) ?_ _ _ ⟨.undef,.undef,.undef,rfl⟩ ?_ ?_
 ·rintro⟨r,v⟩ hrv st acc K ⟨a,b,c,rfl⟩ hacc hK
  have hz:=List.of_mem_zip hrv;have hr:=hRS r hz.1;obtain⟨hv,hv2⟩:=hVS v hz.2;have hr5:=d1q r hr;have hnf:=d1u hv2;have en:=b4r v;have ep:(a3t v:Int)^(3:Int).toNat=((a3t v^3:Nat):Int):=a5s (a3t v) 3;have hn5:a3t v<5:=by unfold a3t; omega
  have hs3:a3t v^3≤5^3:=Nat.pow_le_pow_left (by omega) 3
  have eb:((Builtin.Int.intBits (v:Int):Int)+6).fdiv 7=(nf v:Int):=a0u (Builtin.Int.intBits (v:Int)+6) 7;refine lqF ?_;unfold d0s;simp_all![en,ep];refine⟨by decide,?_⟩
  refine a0r (g:=fun(e:Nat)=>PyData.int (e:Int)) (fun j=>.int ((r.getD (j*a3t v^3%5) 0:Nat):Int)) (List.range 5) (by rfl) (fun j hj acc K hacc hK=>?_) (by decide) fun st' g1 g2=>?_
  ·have e1:(j:Int)*((a3t v^3:Nat):Int)=((j*a3t v^3:Nat):Int):=(Int.natCast_mul _ _).symm
   have hj5:j*a3t v^3%5<r.length:=by rw[hr5]; exact Nat.mod_lt _ (by decide)
   simp_all![en,ep,e1,f5,a1d hj5,a2j hj5];refine⟨by decide,⟨by decide,by decide,by omega⟩,.inr (by exact a0o (.t (.u 1 (.c N0)) (.k (Nat.pow 2 64))) (.l N0 (.k (Nat.pow 5 3))) hs3),by decide,by exact a0o (.a (.l (.z (Int.neg 1000000)) (.c N0)) (.l (.c N0) (.z 1000000))) (.t N0 (.k 5)) (ml rfl),hacc,hK⟩
  have ep5:((List.range 5).map fun j=>PyData.int ((r.getD (j*a3t v^3%5) 0:Nat):Int))=a0c (per r (a3t v)):=by unfold a0c per; rw[List.map_map]; rfl
  have hpl:(a0c (per r (a3t v))).length=5:=by rw[intsL_length,a4x]
  have e0:∀F,F=a0c ((b8q v (nf v)).map (128 + ·))→PyData.int 256::(a0c (per r (a3t v))++F)=a0c (256::a4e r v):=fun F hF=>by rw[hF,←a0w]; rfl
  rw[show st'.own=_ from g1,show st'.hz=true from g2,ep5]
  generalize a0c (per r (a3t v))=PL at *;simp_all![eb];rw[b0y];refine⟨by exact a0o (.l (.p O1 N0) (.k 1000000)) (.e N0 (.k 5)) hpl,⟨by decide,a0x (by decide)⟩,by exact a0o (.a (.l (.z (Int.neg 1000000)) (.c N0)) (.l (.c N0) (.z 1000000))) (.l N0 (.k 3)) hnf,?_⟩
  refine a0r (g:=fun(e:Nat)=>PyData.int (e:Int)) (fun j=>.int ((128+v/128^j%128:Nat):Int)) (List.range (nf v)) (by rfl) (fun j hj acc K hacc hK=>?_) (by rw[List.length_range]; omega) fun st' g1 g2=>?_
  ·have hj3:=List.mem_range.mp hj
   have ep:(128:Int)^(j:Int).toNat=((128^j:Nat):Int):=a5s 128 j;simp_all![ep,a0u,f1];exact⟨⟨by exact a3f (.l (.z 0) (.c N0)),by exact a1m (.l (.c N0) (.z 1000)) (.l N1 (.k 3)) (.t N0 N1) hnf hj3,by decide⟩,d3p (by exact a1m (.l N0 (.k 8)) (.l N1 (.k 3)) (.t N0 N1) hnf hj3),by decide,hacc,hK⟩
  rw[show st'.own=_ from g1,show st'.hz=true from g2]
  have ef:((List.range (nf v)).map fun j=>PyData.int ((128+v/128^j%128:Nat):Int))=a0c ((b8q v (nf v)).map (128 + ·)):=by unfold a0c b8q; rw[List.map_map,List.map_map]; rfl
  rw[e0 _ ef];rw[intsL_length]at hacc;refine⟨by rw[List.length_map,List.length_range]; exact a1m (.l (.p (.p N0 O1) N1) (.k 1000000)) (.l N1 (.k 3)) (.e N0 (.k 5)) hnf hpl,?_⟩
  refine a7n (g:=fun(e:Nat)=>PyData.int (e:Int)) (fun(e:Nat)=>.int (e:Int)) (256::a4e r v) acc (v:=c) (by rfl) (fun x hx acc K hacc hK=>?_) hacc fun w=>?_
  ·simp_all![]
   exact⟨hacc,hK⟩
  ·exact hK _ ⟨_,_,_,rfl⟩
 ·have h1:((RS.zip VS).flatMap fun p=>a0c (256::a4e p.1 p.2)).length≤9*(RS.zip VS).length:=by
   rw[List.length_flatMap];refine Nat.le_trans (a4c (m:=9) fun x hx=>?_) (by rw[List.length_map]; exact Nat.le_refl _)
   obtain⟨p,hp,rfl⟩:=List.mem_map.mp hx
   have:=b1y (r:=p.1) (hVS p.2 (List.of_mem_zip hp).2).2
   rw[intsL_length,List.length_cons]; exact a0o (.l (.p N0 O1) (.k 9)) (.l N0 (.k 8)) this
  rw[List.length_zip]at h1;rw[List.length_nil]; exact a2a (.l (.p (.k 0) N0) (.k 1000000)) (.l N1 (.k 50)) (.l N0 (.m 0 9 (.b 2 N1 N2))) hRl h1
 ·rintro st ⟨a,b,c,rfl⟩
  have e:((RS.zip VS).flatMap fun p=>a0c (256::a4e p.1 p.2))=a0c (d1j RS VS):=by unfold d1j a0c; rw[List.map_flatMap]
  rw[e];exact h
noncomputable def xT(RS:List (List Nat))(t:Tn):Nat:=t.1+8*RS.idxOf t.2.1+(if t.2.2=true then 4 else 0)
noncomputable def b7m(RS:List (List Nat))(VS:List Nat)(TS:List Tn):List Bk:=(RS.zip VS).map (fun p=>.sec p.1 p.2)++TS.map (fun t=>.tn (xT RS t))
theorem d1r(RS:List (List Nat))(VS:List Nat)(TS:List Tn):a4f (b7m RS VS TS)=d1j RS VS++TS.map (fun t=>257+xT RS t):=by
 unfold a4f b7m d1j;rw[List.flatMap_append,List.flatMap_map,List.flatMap_map]
 congr 1
 induction TS with
 |nil=>rfl
 |cons t TS ih=>rw[List.flatMap_cons,ih]; rfl
theorem d6f{n:Nat}{ow:List OV}{SC:List Nat}{TS:List Tn}(hRl:RS.length≤50)(hTl:TS.length≤50)(hTS:∀t∈TS,t.2.1∈RS)(hSC:SC.length≤1000){Q:Fl→St→Prop}
 (h:a1f (a0y n) a0i L2.law.tl.tl.tl.tl.tl.tl.tl.tl.tl.tl.tl.tl.tl.tl.tl.tl (a2l [s1,v1,v2,v3,v4,v5,v6,v7,v8,v9,v10,v11,.dat (.list (tsD TS)),.dat (.list (rsD RS)),v14,v15,v16,v17,.dat (.list (a0c (SC++TS.map (fun t=>257+xT RS t)++[0])))] 14 ow) Q) :
  a1f (a0y n) a0i L2.law.tl.tl.tl.tl.tl.tl.tl.tl.tl.tl.tl.tl.tl.tl.tl (a2l [s1,v1,v2,v3,v4,v5,v6,v7,v8,v9,v10,v11,.dat (.list (tsD TS)),.dat (.list (rsD RS)),v14,v15,v16,v17,.dat (.list (a0c SC))] 14 ow) Q:=by
 have hsh:=a5c (c1y RS) (by decide)
 have hl:=b1p RS;refine wq2 ?_;simp_all![];refine a5z (g:=tD) (fun t=>.int ((257+xT RS t:Nat):Int)) (fun st=>∃a b c,st=(((a2l [s1,v1,v2,v3,v4,v5,v6,v7,v8,v9,v10,v11,.dat (.list (tsD TS)),.dat (.list (rsD RS)),v14,v15,v16,v17,.dat (.list (a0c SC))] 14 ow).set 29 a).set 30 b).set 31 c) TS ?_ _ _ ⟨.undef,.undef,.undef,rfl⟩ ?_ ?_
 ·rintro⟨i,r,b⟩ ht st acc K ⟨a,b',c,rfl⟩ hacc hK
  have hK:=hK _ ⟨.dat (.int (i:Int)),.dat (.list (a0c r)),.dat (.bool b),rfl⟩;have hfr:=c0k (hTS _ ht);dsimp only at hfr;refine lqF ?_;unfold tD;generalize rsD RS=RD at *;generalize tsD TS=TD at *;unfold xT at hK;dsimp only at hK;generalize RS.idxOf r=x at *;simp_all![hfr];refine⟨⟨a1x _,hsh,by exact a1m (.l N0 (.k 1000000)) (.l N1 (.k 50)) (.e N0 N1) hRl hl⟩,.inl (by decide),?_⟩
  cases b
  ·refine ifn Bool.false_ne_true ⟨hacc,?_⟩
   have e:(257:Int)+(i:Int)+8*(x:Int)+0=((257+(i+8*x+0):Nat):Int):=by exact b2b (.e (.P (.P (.P (.z 257) (.c N0)) (.n 0 8 (.c N1))) (.z 0)) (.c (.p (.k 257) (.p (.p N0 (.m 0 8 N1)) (.k 0)))))
   rw[e]; exact hK
  ·refine ifp rfl ⟨hacc,?_⟩
   have e:(257:Int)+(i:Int)+8*(x:Int)+4=((257+(i+8*x+4):Nat):Int):=by exact b2b (.e (.P (.P (.P (.z 257) (.c N0)) (.n 0 8 (.c N1))) (.z 4)) (.c (.p (.k 257) (.p (.p N0 (.m 0 8 N1)) (.k 4)))))
   rw[e]; exact hK
 ·rw[List.length_nil]; exact a0o (.l (.p (.k 0) N0) (.k 1000000)) (.l N0 (.k 50)) hTl
 ·rintro st ⟨a,b,c,rfl⟩
  have e:a0c SC++(([]++TS.map fun t=>PyData.int ((257+xT RS t:Nat):Int))++[.int 0])=a0c (SC++TS.map (fun t=>257+xT RS t)++[0]):=by
   rw[List.nil_append,a0w,a0w,←List.append_assoc]; unfold a0c; rw[List.map_map]; rfl
  have e2:=congrArg List.length e;refine⟨by rw[List.nil_append,List.length_map]; exact a1m (.l (.p N0 N1) (.k 1000000)) (.l N1 (.k 50)) (.l N0 (.k 1000)) hTl hSC,by rw[List.nil_append,List.length_map]; exact a1m (.l (.p (.p N0 N1) O1) (.k 1000000)) (.l N1 (.k 50)) (.l N0 (.k 1000)) hTl hSC,?_⟩
  rw[e];exact h
noncomputable def oc(x:Nat):List Nat:=if 63<x then[64+x/64,x%64]else[x]
theorem d5x{n:Nat}{ow:List OV}{TP:List Nat}(hT:TP.length≤2000){Q:Fl→St→Prop}
 (h:a1f (a0y n) a0i L2.law.tl.tl.tl.tl.tl.tl.tl.tl.tl.tl.tl.tl.tl.tl.tl.tl.tl (a2l [s1,v1,v2,v3,v4,v5,v6,v7,v8,v9,v10,v11,v12,v13,v14,v15,v16,v17,.dat (.list (a0c TP)),.dat (.list (a0c (TP.flatMap oc)))] 13 ow) Q) :
  a1f (a0y n) a0i L2.law.tl.tl.tl.tl.tl.tl.tl.tl.tl.tl.tl.tl.tl.tl.tl.tl (a2l [s1,v1,v2,v3,v4,v5,v6,v7,v8,v9,v10,v11,v12,v13,v14,v15,v16,v17,.dat (.list (a0c TP))] 14 ow) Q:=by
 have f6:∀a:Nat,Int.fmod (a:Int) 64=((a%64:Nat):Int):=fun a=>a0p a 64;have d6:∀a:Nat,Int.fdiv (a:Int) 64=((a/64:Nat):Int):=fun a=>a0u a 64;refine wq2 ?_;simp_all![];refine a3l (g:=fun(e:Nat)=>PyData.int (e:Int)) (fun x=>a0c (oc x)) (fun st=>∃a b,st=((a2l [s1,v1,v2,v3,v4,v5,v6,v7,v8,v9,v10,v11,v12,v13,v14,v15,v16,v17,.dat (.list (a0c TP))] 14 ow).set 29 a).set 30 b) TP ?_ _ _ ⟨.undef,.undef,rfl⟩ ?_ ?_
 ·rintro x hx st acc K ⟨a,b,rfl⟩ hacc hK
  have inner:∀{v:V} (l:List Nat),l=oc x→a1n (lpF (a0y n) (.one 30) (.elt (.var 30))) (a0c l) (((a2l [s1,v1,v2,v3,v4,v5,v6,v7,v8,v9,v10,v11,v12,v13,v14,v15,v16,v17,.dat (.list (a0c TP))] 14 ow).set 29 v).set 30 b) acc K:=by
   rintro v l rfl
   rw[intsL_length]at hacc;refine a7n (g:=fun(e:Nat)=>PyData.int (e:Int)) (fun(e:Nat)=>.int (e:Int)) (oc x) acc (v:=b) (by rfl) (fun y hy acc K hacc hK=>?_) hacc fun w=>?_
   ·simp_all![]
    exact⟨hacc,hK⟩
   ·exact hK _ ⟨_,_,rfl⟩
  refine lqF ?_;generalize a0c TP=TD at *;simp_all![f6,d6]
  by_cases h6:63<x
  ·refine ifp (by rw[decide_eq_true_eq]; exact a0o (.t (.z 63) (.c N0)) (.t (.k 63) N0) h6) ⟨⟨by decide,a0x (by decide)⟩,by decide,?_⟩
   exact inner [64+x/64,x%64] (by unfold oc; rw[if_pos h6])
  ·refine ifn (by rw[decide_eq_true_eq]; exact a0o (.n (.t (.z 63) (.c N0))) (.n (.t (.k 63) N0)) h6) ?_
   exact inner [x] (by unfold oc; rw[if_neg h6])
 ·have h1:(TP.flatMap fun x=>a0c (oc x)).length≤2*TP.length:=by
   rw[List.length_flatMap];refine Nat.le_trans (a4c (m:=2) fun x hx=>?_) (by rw[List.length_map]; exact Nat.le_refl _)
   obtain⟨p,hp,rfl⟩:=List.mem_map.mp hx;rw[intsL_length]; unfold oc; split <;> simp
  rw[List.length_nil]; exact a1m (.l (.p (.k 0) N0) (.k 1000000)) (.l N1 (.k 2000)) (.l N0 (.m 0 2 N1)) hT h1
 ·rintro st ⟨a,b,rfl⟩
  have e:(TP.flatMap fun x=>a0c (oc x))=a0c (TP.flatMap oc):=by unfold a0c; rw[List.map_flatMap]
  rw[List.nil_append,e];exact h
theorem d1d:(List.range 48).all (fun i=>!(tx (i+7)).contains 10)=true:=by decide +kernel
theorem e1e:tx 0=[]:=by decide +kernel
structure CsOK(cs:List Nat):Prop where
 len:cs.length=3
 c0:cs.getD 0 0=52
 c:∀p,1≤p→p<3→7≤cs.getD p 0∧cs.getD p 0≤54∧cs.getD p 0≠23∧cs.getD p 0≠52
noncomputable def nmC(cs:List Nat)(p:Nat):List Nat:=tx (cs.getD p 0)
section
variable {cs:List Nat} (hc:CsOK cs)
include hc
theorem b4w(p:Nat):(nmC cs p).length≤3∧(∀y∈nmC cs p,y<256)∧(p≠0→46∉nmC cs p∧10∉nmC cs p):=by
 unfold nmC
 rcases Nat.lt_or_ge p 3 with h|h
 ·rcases Nat.eq_zero_or_pos p with h0|h0
  ·subst h0
   rw[hc.c0,e0o];exact⟨by decide,by decide,fun h=>absurd rfl h⟩
  ·obtain⟨a1,a2,a3,a4⟩:=hc.c p h0 h
   obtain⟨b1,b2,b3⟩:=c9k a1 a2;refine⟨b1,b2,fun _=>⟨b3 a3 a4,fun hm=>?_⟩⟩
   have:=List.all_eq_true.mp d1d (cs.getD p 0-7) (List.mem_range.mpr (by exact a0o (.t (.s N0 (.k 7)) (.k 48)) (.l N0 (.k 54)) a2))
   rw[Nat.sub_add_cancel a1,Bool.not_eq_true',List.contains_eq_mem,decide_eq_false_iff_not]at this
   exact this hm
 ·have e:cs.getD p 0=0:=by rw[List.getD_eq_getElem?_getD,List.getElem?_eq_none (by rw[hc.len]; exact h)]; rfl
  rw[e,e1e];exact⟨by decide,(fun _ h=>nomatch h),fun _=>⟨(fun h=>nomatch h),fun h=>nomatch h⟩⟩
theorem c2a{ix:List Nat}(hl:ix.length≤5):PatOK (pcs (nmC cs) ix)∧(∀p∈pcs (nmC cs) ix,p.length≤15∧10∉p)∧(pcs (nmC cs) ix).length≤6:=by
 obtain⟨b1,b2⟩:=c8z (nmC cs) 3 (fun p=>(b4w hc p).1) ix;have h15:∀p∈pcs (nmC cs) ix,p.length≤15:=fun p hp=>Nat.le_trans (b2 p hp) (by exact a0o (.l (.m 0 3 N0) (.k 15)) (.l N0 (.k 5)) hl)
 refine⟨⟨b2o _ _,?_,?_,by exact a1m (.l N0 (.k 1000)) (.l N1 (.k 5)) (.l N0 (.p N1 O1)) hl b1,fun p hp=>Nat.le_trans (h15 p hp) (by decide)⟩,fun p hp=>⟨h15 p hp,?_⟩,by exact a1m (.l N0 (.k 6)) (.l N1 (.k 5)) (.l N0 (.p N1 O1)) hl b1⟩
 ·exact fun p hp=>c4c (P:=fun p=>46∉p) (fun h=>nomatch h) (fun b p hb h0 hm=>(List.mem_append.mp hm).elim hb ((b4w hc p).2.2 h0).1) ix p hp
 ·rw[c3f,List.length_flatten,List.map_map]
  refine Nat.le_trans (a4c (m:=3) fun x hx=>?_) (by rw[List.length_map]; exact a0o (.l (.m 0 3 N0) (.k 1000)) (.l N0 (.k 5)) hl)
  obtain⟨p,_,rfl⟩:=List.mem_map.mp hx;show(if p=0 then a5q else nmC cs p).length≤3
  split
  ·decide
  ·exact(b4w hc p).1
 ·exact c4c (P:=fun p=>10∉p) (fun h=>nomatch h) (fun b p hb h0 hm=>(List.mem_append.mp hm).elim hb ((b4w hc p).2.2 h0).2) ix p hp
end
noncomputable def txt(cs ix:List Nat):List Nat:=(ix.map (nmC cs)).flatten
theorem b2r{cs ix:List Nat}(hc:CsOK cs)(hl:ix.length≤5):(txt cs ix).length≤15∧∀y∈txt cs ix,y<256:=by
 refine⟨?_,fun y hy=>?_⟩
 ·unfold txt
  rw[List.length_flatten,List.map_map];refine Nat.le_trans (a4c (m:=3) fun x hx=>?_) (by rw[List.length_map]; exact a0o (.l (.m 0 3 N0) (.k 15)) (.l N0 (.k 5)) hl)
  obtain⟨p,_,rfl⟩:=List.mem_map.mp hx;exact(b4w hc p).1
 ·obtain⟨s,hs,hy⟩:=List.mem_flatten.mp hy
  obtain⟨p,_,rfl⟩:=List.mem_map.mp hs;exact(b4w hc p).2.1 y hy
theorem d6t:(Str.ofString "\n")=mk [10]:=by decide +kernel
noncomputable def b8t(cs ix:List Nat):List (List Nat):=ix.map fun p=>if p=0 then[10]else nmC cs p
theorem c9u(cs ix:List Nat):(b8t cs ix).flatten=jn [10] (pcs (nmC cs) ix):=(c3f [10] (nmC cs) ix).symm
theorem b9d{cs ix:List Nat}(hc:CsOK cs)(hl:ix.length≤5):Txt.split (mk (b8t cs ix).flatten) (mk [10])=(pcs (nmC cs) ix).map mk:=by
 rw[c9u];exact b7o (c:=10) (k:=1) (by decide) (by decide) (b2o _ _) fun p hp=>((c2a hc hl).2.1 p hp).2
theorem c6h{cs ix:List Nat}(hc:CsOK cs)(hl:ix.length≤5):(b8t cs ix).flatten.length≤15:=by
 unfold b8t;rw[List.length_flatten,List.map_map];refine Nat.le_trans (a4c (m:=3) fun x hx=>?_) (by rw[List.length_map]; exact a0o (.l (.m 0 3 N0) (.k 15)) (.l N0 (.k 5)) hl)
 obtain⟨p,_,rfl⟩:=List.mem_map.mp hx;show(if p=0 then[10]else nmC cs p).length≤3
 split
 ·decide
 ·exact(b4w hc p).1
theorem b7q(hc:CsOK cs){p:Nat}(h0:p≠0)(h3:p<3):((cs.getD p 0:Nat):Int)-7=((cs.getD p 0-7:Nat):Int)∧cs.getD p 0-7<48∧(a0m signsL)[cs.getD p 0-7]?=some (.str (mk (nmC cs p)))∧(((cs.getD p 0:Nat):Int)==52)=false:=by
 obtain⟨a1,a2,a3,a4⟩:=hc.c p (by exact a0o (.l O1 N0) (.n (.e N0 (.k 0))) h0) h3
 have e:=b0a (i:=cs.getD p 0-7) (by exact a0o (.t (.s N0 (.k 7)) (.k 48)) (.l N0 (.k 54)) a2)
 rw[Nat.sub_add_cancel a1]at e;refine⟨by exact a0o (.e (.S (.c N0) (.z 7)) (.c (.s N0 (.k 7)))) (.l (.k 7) N0) a1,by exact a0o (.t (.s N0 (.k 7)) (.k 48)) (.l N0 (.k 54)) a2,e,?_⟩
 have:((cs.getD p 0:Nat):Int)≠52:=by exact a0o (.n (.e (.c N0) (.z 52))) (.n (.e N0 (.k 52))) a4
 exact beq_false_of_ne this
noncomputable def a9g(cs:List Nat)(P:List (List Nat)):List (List (List Nat)):=P.map (pcs (nmC cs))
theorem a7h(l:List (List Nat)):b2t (l.map fun s=>.str (mk s))=some (l.map mk):=b0f l
theorem c5v{n:Nat}{cs ix:List Nat}(hc:CsOK cs)(hl:ix.length≤5)(hi:∀p∈ix,p≠0∧p<3){ow:List OV}{K:Fl→St→Prop}
 (hK:a1f (a0y n) a0i L2.law.tl.tl.tl.tl.tl.tl.tl.tl.tl.tl.tl.tl.tl.tl.tl.tl.tl.tl.hd.body.tl (a2l [s1,v1,v2,v3,.dat (.list (a0m signsL)),v5,v6,v7,v8,v9,v10,v11,v12,v13,v14,v15,v16,v17,v18,v19,v20,.dat (.list (a0c (ix.map (cs.getD · 0)))),.dat (.str (mk (txt cs ix))),v23,v24] 8 ow) K) :
  a1f (a0y n) a0i L2.law.tl.tl.tl.tl.tl.tl.tl.tl.tl.tl.tl.tl.tl.tl.tl.tl.tl.tl.hd.body (a2l [s1,v1,v2,v3,.dat (.list (a0m signsL)),v5,v6,v7,v8,v9,v10,v11,v12,v13,v14,v15,v16,v17,v18,v19,v20,.dat (.list (a0c (ix.map (cs.getD · 0)))),v22,v23,v24] 8 ow) K:=by
 have eD:a0c (ix.map (cs.getD · 0))=ix.map fun p=>.int ((cs.getD p 0:Nat):Int):=by unfold a0c; rw[List.map_map]; rfl
 have hsl:=strsL_length signsL;rw[a6d]at hsl;have sg:=fun p h0 h3=>b7q (p:=p) hc h0 h3;have eT:=c2v (ix.map (nmC cs));have hJ:=b1e (l:=ix.map (nmC cs)) (Nat.le_trans (b2r hc hl).1 (by decide))
 generalize a0m signsL=SG at *;refine wq2 ?_;simp_all![];rw[eD];refine a0r (g:=fun p=>PyData.int ((cs.getD p 0:Nat):Int)) (fun p=>.str (mk (nmC cs p))) ix (by rfl) (fun p hp acc K hacc hK=>?_) (by omega) fun st' g1 g2=>?_
 ·obtain⟨h0,h3⟩:=hi p hp
  obtain⟨e1,e2,e3,_⟩:=sg p h0 h3;have hpx:a2r SG.length ((cs.getD p 0-7:Nat):Int)=some (cs.getD p 0-7):=by rw[hsl]; exact a1d e2
  simp_all![e1,hpx,e3];exact⟨by exact a0o (.a (.l (.z (Int.neg 1000000)) (.c (.s N0 (.k 7)))) (.l (.c (.s N0 (.k 7))) (.z 1000000))) (.t (.s N0 (.k 7)) (.k 48)) e2,hacc,hK⟩
 rw[show st'.own=_ from g1,show st'.hz=true from g2]
 have e5:(ix.map fun p=>PyData.str (mk (nmC cs p)))=(ix.map (nmC cs)).map fun s=>.str (mk s):=by rw[List.map_map]; rfl
 rw[e5,a7h];dsimp only;rw[eT];rw[eD]at hK;exact⟨hJ,hK⟩
theorem c4y{n:Nat}(hn:2≤n){cs t:List Nat}(hc:CsOK cs)(ht:t.length≤1000){P:List (List Nat)}(hP:∀ix∈P,ix.length≤5∧∀p∈ix,p<3)(hPl:P.length≤10){ow:List OV}{K:Fl→St→Prop}
 (hK:a1f (a0y n) a0i L2.law.tl.tl.tl.tl.tl.tl.tl.tl.tl.tl.tl.tl.tl.tl.tl.tl.tl.tl.hd.body.tl.tl (a2l [s1,v1,v2,v3,.dat (.list (a0m signsL)),v5,v6,.dat (.list (rsD (cdL cs P))),v8,v9,v10,v11,v12,v13,v14,v15,v16,v17,v18,v19,v20,v21,.dat (.str (mk t)),.dat (.list (a3e (P.map fun ix=>a4z (pcs (nmC cs) ix) t))),v24] 8 ow) K) :
  a1f (a0y n) a0i L2.law.tl.tl.tl.tl.tl.tl.tl.tl.tl.tl.tl.tl.tl.tl.tl.tl.tl.tl.hd.body.tl (a2l [s1,v1,v2,v3,.dat (.list (a0m signsL)),v5,v6,.dat (.list (rsD (cdL cs P))),v8,v9,v10,v11,v12,v13,v14,v15,v16,v17,v18,v19,v20,v21,.dat (.str (mk t)),v23,v24] 8 ow) K:=by
 have hsl:=strsL_length signsL;rw[a6d]at hsl;have sg:=fun p h0 h3=>b7q (p:=p) hc h0 h3;have ePD:rsD (cdL cs P)=P.map fun ix=>.list (a0c (ix.map (cs.getD · 0))):=by unfold rsD cdL; rw[List.map_map]; rfl
 have eB:(P.map fun ix=>PyData.bool (a4z (pcs (nmC cs) ix) t))=a3e (P.map fun ix=>a4z (pcs (nmC cs) ix) t):=by unfold a3e; rw[List.map_map]; rfl
 generalize a0m signsL=SG at *;rw[ePD]at hK ⊢;refine wq2 ?_;simp_all![];refine a0r (g:=fun ix:List Nat=>PyData.list (a0c (ix.map (cs.getD · 0)))) (fun ix=>.bool (a4z (pcs (nmC cs) ix) t)) P (by rfl) (fun ix hix acc K hacc hK=>?_) (by omega) fun st' g1 g2=>?_
 ·obtain⟨hl,hi⟩:=hP ix hix
  have eD:a0c (ix.map (cs.getD · 0))=ix.map fun p=>.int ((cs.getD p 0:Nat):Int):=by unfold a0c; rw[List.map_map]; rfl
  simp_all![];rw[eD];rw[eD]at hK;refine a0r (g:=fun p=>PyData.int ((cs.getD p 0:Nat):Int)) (fun p=>.str (mk (if p=0 then[10]else nmC cs p))) ix (by rfl) (fun p hp acc K hacc hK=>?_) (by omega) fun st' g1 g2=>?_
  ·have h3:=hi p hp
   by_cases h0:p=0
   ·subst h0
    have e52:(((cs.getD 0 0:Nat):Int)==52)=true:=by rw[hc.c0]; rfl
    simp_all![e52];refine⟨hacc,?_⟩;rw[d6t]; exact hK
   ·obtain⟨e1,e2,e3,e4⟩:=sg p h0 h3
    have hpx:a2r SG.length ((cs.getD p 0-7:Nat):Int)=some (cs.getD p 0-7):=by rw[hsl]; exact a1d e2
    rw[if_neg h0]at hK;simp_all![e1,hpx,e3,e4];exact⟨by exact a0o (.a (.l (.z (Int.neg 1000000)) (.c (.s N0 (.k 7)))) (.l (.c (.s N0 (.k 7))) (.z 1000000))) (.t (.s N0 (.k 7)) (.k 48)) e2,hacc,hK⟩
  rw[show st'.own=_ from g1,show st'.hz=true from g2]
  have e5:(ix.map fun p=>PyData.str (mk (if p=0 then[10]else nmC cs p)))=(b8t cs ix).map fun s=>.str (mk s):=by unfold b8t; rw[List.map_map]; rfl
  have hll:=c6h hc hl;rw[e5,a7h];dsimp only;rw[c2v];refine⟨b1e (by omega),?_⟩
  rw[d6t];simp_all![b9d hc hl];rw[a8o];obtain⟨ok1,ok2,ok3⟩:=c2a hc hl;clear e5 eB ePD;generalize pcs (nmC cs) ix=ps at *;refine⟨⟨by decide,by omega,by rw[List.length_map]; omega⟩,?_⟩
  match ps,ok1.ne with
  |p::r,_=>
   rw[List.length_cons]at ok3;refine d5c hn ht (Nat.le_trans (ok2 p (.head _)).1 (by decide)) (fun x hx=>Nat.le_trans (ok2 x (.tail _ hx)).1 (by decide)) (by exact a0o (.l N0 (.k 1000)) (.l (.p N0 O1) (.k 6)) ok3) ⟨⟨_,rfl⟩,?_⟩
   simp_all![];exact⟨hacc,hK⟩
 rw[show st'.own=_ from g1,show st'.hz=true from g2]
 rw[eB];exact hK
theorem d3b{n:Nat}{f:F}(ok:f.Ok)(hn:f.dep≤n)(hl:fl.length=4){ow:List OV}{K:Fl→St→Prop}
 (hK:a1f (a0y n) a0i L2.law.tl.tl.tl.tl.tl.tl.tl.tl.tl.tl.tl.tl.tl.tl.tl.tl.tl.tl.hd.body.tl.tl.tl (a2l [s1,v1,v2,v3,v4,v5,v6,v7,v8,v9,v10,.dat f.D,v12,v13,v14,v15,v16,v17,v18,v19,v20,v21,v22,.dat (.list (a3e fl)),.dat (.int ((if f.ev (fl.getD · false)=true then 1 else 0:Nat):Int))] 8 ow) K) :
  a1f (a0y n) a0i L2.law.tl.tl.tl.tl.tl.tl.tl.tl.tl.tl.tl.tl.tl.tl.tl.tl.tl.tl.hd.body.tl.tl (a2l [s1,v1,v2,v3,v4,v5,v6,v7,v8,v9,v10,.dat f.D,v12,v13,v14,v15,v16,v17,v18,v19,v20,v21,v22,.dat (.list (a3e fl)),v24] 8 ow) K:=by
 refine wq2 ?_;simp_all![];refine a9z hl f _ _ _ ok hn ⟨⟨_,rfl⟩,?_⟩;generalize f.ev (fl.getD · false)=b at *;simp_all![];cases b
 ·refine ifn Bool.false_ne_true ?_
  exact hK
 ·refine ifp rfl ?_
  exact hK
theorem e0y{Γ:Ctx}{i a k:Nat}{g1 g2:G}{st:St}{l:List e1l}{Q:Fl→St→Prop}(h1:st.get i=.own k)(h2:st.own[k]?=some (.lst l))(hv:st.get a=.dat d)(h:wpG Γ g1 (st.clr g1.ids) [] fun acc1 st1=>wpG Γ g2 (({ st1 with vars:=st.vars }:St).clr g2.ids) [] fun acc2 st2=>match st2.own[k]? with
 |some (.lst l)=>l.length<1000000∧Q .next (({ st2 with vars:=st.vars }:St).setOwn k (.lst (l++[.list [d,.list acc1,.list acc2]])))
 |_=>False):wpS Γ tk (.append i (.list (.cons (.var a) (.cons (.comp g1) (.cons (.comp g2) .nil))))) st Q:=by
 dsimp only[wpS];rw[h1];refine⟨⟨l,h2⟩,?_⟩;dsimp only[wpE,wpEs];rw[hv];exact h
theorem e1a{Γ:Ctx}{i a:Nat}{G:G}{st:St}{l:List e1l}{K:List e1l→St→Prop}(ha:st.get a=.dat (.list l))(h:a1n (lpF Γ (.one i) G) l st [] K):wpG Γ (.for (.one i) (.over (.var a)) G) st [] K:=by
 dsimp only[wpG,wpI,wpE];rw[ha];exact h
theorem c5d:rings.all (fun r=>five.all fun p=>r.contains p)=true:=by decide +kernel
theorem c3w(hr:r∈rings){p:Nat}(hp:p∈five):p∈r:=List.contains_iff_mem.mp (List.all_eq_true.mp (List.all_eq_true.mp c5d r hr) p hp)
theorem c9o{n:Nat}(hfl:fl.length=4)(hr:ring∈rings){on:Nat}{o0 o1 o2:OV}{t:List Nat}{DU:List e1l}(hDU:DU.length≤1000){K:Fl→St→Prop}
 (hK:K .next (a2l [s1,v1,v2,v3,v4,v5,v6,v7,v8,v9,.dat (.list (a0c ring)),v11,v12,v13,v14,v15,v16,v17,v18,v19,.own 3,v21,.dat (.str (mk t)),.dat (.list (a3e fl)),.dat (.int (on:Int))] 8 [o0,o1,o2,.lst (DU++[.list [.str (mk t),.list (d4o fl),.list (a0c (five.map fun p=>ring.getD ((ring.idxOf p+on)%5) 0))]])])) :
  a1f (a0y n) a0i L2.law.tl.tl.tl.tl.tl.tl.tl.tl.tl.tl.tl.tl.tl.tl.tl.tl.tl.tl.hd.body.tl.tl.tl (a2l [s1,v1,v2,v3,v4,v5,v6,v7,v8,v9,.dat (.list (a0c ring)),v11,v12,v13,v14,v15,v16,v17,v18,v19,.own 3,v21,.dat (.str (mk t)),.dat (.list (a3e fl)),.dat (.int (on:Int))] 8 [o0,o1,o2,.lst DU]) K:=by
 have hr5:=d1q ring hr;have f5:∀a:Nat,Int.fmod (a:Int) 5=((a%5:Nat):Int):=fun a=>a0p a 5;refine wq2 ?_;refine e0y (k:=3) (l:=DU) rfl rfl rfl ?_;refine e1a rfl ?_;refine a0r (g:=PyData.bool) (fun b=>.list [.bool b,.bool (!b),.bool true]) fl rfl (fun b hb acc K hacc hK=>?_) (by exact a0o (.l N0 (.k 1000000)) (.e N0 (.k 4)) hfl) fun st' g1 g2=>?_
 ·simp_all![]
  exact⟨hacc,hK⟩
 rw[show st'.own=_ from g1,show st'.hz=true from g2]
 refine d6p ?_;refine a0r (g:=fun(e:Nat)=>PyData.int (e:Int)) (fun p=>.int ((ring.getD ((ring.idxOf p+on)%5) 0:Nat):Int)) five rfl (fun p hp acc K hacc hK=>?_) (by decide) fun st'' g3 g4=>?_
 ·have hm:p∈ring:=c3w hr hp
  have hlt:(ring.idxOf p+on)%5<ring.length:=by rw[hr5]; exact Nat.mod_lt _ (by decide)
  have e:((ring.idxOf p:Nat):Int)+(on:Int)=((ring.idxOf p+on:Nat):Int):=rfl;simp_all![b7l hm,e,f5,a1d hlt,a2j hlt];exact⟨⟨rfl,a1x ring,by exact a0o (.l N0 (.k 1000000)) (.e N0 (.k 5)) hr5⟩,by decide,by exact a0o (.a (.l (.z (Int.neg 1000000)) (.c N0)) (.l (.c N0) (.z 1000000))) (.t N0 (.k 5)) (ml rfl),hacc,hK⟩
 rw[show st''.own=_ from g3,show st''.hz=true from g4]
 refine⟨show DU.length<1000000 by omega,?_⟩
 have e:(five.map fun p=>PyData.int ((ring.getD ((ring.idxOf p+on)%5) 0:Nat):Int))=a0c (five.map fun p=>ring.getD ((ring.idxOf p+on)%5) 0):=by unfold a0c; rw[List.map_map]; rfl
 rw[e];exact wq1 hK
noncomputable def c9r(cs:List Nat)(P:List (List Nat))(t:List Nat):List Bool:=P.map fun ix=>a4z (pcs (nmC cs) ix) t
noncomputable def c8n(cs:List Nat)(P:List (List Nat))(f:F)(ring:List Nat)(ix:List Nat):e1l:=.list [.str (mk (txt cs ix)),.list (d4o (c9r cs P (txt cs ix))),.list (a0c (five.map fun p=>ring.getD ((ring.idxOf p+(if f.ev ((c9r cs P (txt cs ix)).getD · false)=true then 1 else 0))%5) 0))]
inductive GI(cs:List Nat)(P T:List (List Nat))(f:F)(ring:List Nat)(vs:List V)(o0 o1 o2:OV):List (List Nat)→St→Prop
 |mk {rst} (done:List (List Nat)) (v21 v22 v23 v24:V):done++rst=T→GI cs P T f ring vs o0 o1 o2 rst (a2l (vs++[.own 3,v21,v22,v23,v24]) 8 [o0,o1,o2,.lst (done.map (c8n cs P f ring))])
theorem d7l{n:Nat}(hc:CsOK cs){P T:List (List Nat)}(hP:∀ix∈P,ix.length≤5∧∀p∈ix,p<3)(hPl:P.length=4)(hT:∀ix∈T,ix.length≤5∧∀p∈ix,p≠0∧p<3)(hTl:T.length≤10){f:F}(ok:f.Ok)(hn:f.dep≤n)(hr:ring∈rings){o0 o1 o2:OV}{Q:Fl→St→Prop}
 (h:∀v21 v22 v23 v24,a1f (a0y n) a0i L2.law.tl.tl.tl.tl.tl.tl.tl.tl.tl.tl.tl.tl.tl.tl.tl.tl.tl.tl.tl (a2l [s1,v1,v2,v3,.dat (.list (a0m signsL)),v5,v6,.dat (.list (rsD (cdL cs P))),.dat (.list (rsD (cdL cs T))),v9,.dat (.list (a0c ring)),.dat f.D,v12,v13,v14,v15,v16,v17,v18,v19,.own 3,v21,v22,v23,v24] 8 [o0,o1,o2,.lst (T.map (c8n cs P f ring))]) Q) :
  a1f (a0y n) a0i L2.law.tl.tl.tl.tl.tl.tl.tl.tl.tl.tl.tl.tl.tl.tl.tl.tl.tl (a2l [s1,v1,v2,v3,.dat (.list (a0m signsL)),v5,v6,.dat (.list (rsD (cdL cs P))),.dat (.list (rsD (cdL cs T))),v9,.dat (.list (a0c ring)),.dat f.D,v12,v13,v14,v15,v16,v17,v18,v19] 13 [o0,o1,o2]) Q:=by
 have hn2:2≤n:=Nat.le_trans (F.dep2 f) hn;have eT:rsD (cdL cs T)=T.map fun ix=>.list (a0c (ix.map (cs.getD · 0))):=by unfold rsD cdL; rw[List.map_map]; rfl
 refine wq2 ?_;simp_all![];refine wq2 ?_;refine wqf ?_;simp_all![];refine(show a6f _ (rsD (cdL cs T)) _ _ from ?_)
 generalize hTD:rsD (cdL cs T)=TD at *;rw[eT];refine a3o (g:=fun ix:List Nat=>PyData.list (a0c (ix.map (cs.getD · 0)))) (GI cs P T f ring [s1,v1,v2,v3,.dat (.list (a0m signsL)),v5,v6,.dat (.list (rsD (cdL cs P))),.dat (.list (T.map fun ix=>.list (a0c (ix.map (cs.getD · 0))))),v9,.dat (.list (a0c ring)),.dat f.D,v12,v13,v14,v15,v16,v17,v18,v19] o0 o1 o2) ?_ T _ (.mk [] _ _ _ _ rfl) ?_
 ·rintro ix rst st K' ⟨done,v21,v22,v23,v24,hd⟩ hK hRt
  have hdl:done.length≤10:=Nat.le_trans (b2j hd) hTl;obtain⟨g1,g2⟩:=hT ix (by rw[←hd]; simp)
  refine lqS ?_;refine c5v hc g1 g2 ?_;refine c4y hn2 hc (Nat.le_trans (b2r hc g1).1 (by decide)) hP (by exact a0o (.l N0 (.k 10)) (.e N0 (.k 4)) hPl) ?_
  refine d3b ok hn (by rw[List.length_map]; exact hPl) ?_
  refine c9o (by rw[List.length_map]; exact hPl) hr (by rw[List.length_map]; omega) ?_
  have:=hK _ (.mk (done++[ix]) (.dat (.list (a0c (ix.map (cs.getD · 0))))) (.dat (.str (mk (txt cs ix)))) (.dat (.list (a3e (c9r cs P (txt cs ix))))) (.dat (.int ((if f.ev ((c9r cs P (txt cs ix)).getD · false)=true then 1 else 0:Nat):Int))) (by rw[←hd,List.append_assoc]; rfl))
  rw[List.map_append]at this
  exact this
 ·rintro st ⟨done,v21,v22,v23,v24,hd⟩
  rw[List.append_nil]at hd;subst hd;rw[eT]at h;exact h v21 v22 v23 v24
theorem d4p(hc:CsOK cs)(ix:List Nat):txt cs ix=jn a5q (pcs (nmC cs) ix):=by
 rw[c3f];unfold txt
 congr 1
 refine List.map_congr_left fun p _=>?_
 by_cases h0:p=0
 ·subst h0
  rw[if_pos rfl];unfold nmC;rw[hc.c0,e0o]
 ·rw[if_neg h0]
theorem c1r(hc:CsOK cs){p:Nat}(hp:p<3):Spec.lookup (.int ((cs.getD p 0:Nat):Int)) a0i=some (.str (mk (nmC cs p))):=by
 unfold nmC
 rcases Nat.eq_zero_or_pos p with h0|h0
 ·subst h0
  rw[hc.c0];exact d4k (by decide) (by decide)
 ·obtain⟨a1,a2,_⟩:=hc.c p h0 hp
  exact d4k a1 a2
theorem b6i{n:Nat}(hc:CsOK cs){L:List (List Nat)}(hL:∀ix∈L,ix.length≤5∧∀p∈ix,p<3)(hLl:L.length≤10){ow:List OV}(hacc:acc.length<1000000){K:List e1l→St→Prop}(hK:K (acc++[.list (a0m (L.map (txt cs)))]) ((a2l [s1,v1,v2,v3,v4,v5,v6,v7,v8,v9,v10,v11,v12,v13,v14,v15,v16,v17,v18,v19,v20,v21,v22,v23,v24,.tab a0i] 7 ow).set 29 (.dat (.list (rsD (cdL cs L)))))) :
  lpF (a0y n) (.one 29) (.elt (.comp (.for (.one 30) (.over (.var 29)) (.elt (.me .join (.str "") (.cons (.comp (.for (.one 31) (.over (.var 30)) (.elt (.idx (.var 25) (.var 31))))) .nil)))))) (.list (rsD (cdL cs L))) ((a2l [s1,v1,v2,v3,v4,v5,v6,v7,v8,v9,v10,v11,v12,v13,v14,v15,v16,v17,v18,v19,v20,v21,v22,v23,v24,.tab a0i] 7 ow).set 29 v51) acc K:=by
 have eL:rsD (cdL cs L)=L.map fun ix=>.list (a0c (ix.map (cs.getD · 0))):=by unfold rsD cdL; rw[List.map_map]; rfl
 have eS:(L.map fun ix=>PyData.str (mk (txt cs ix)))=a0m (L.map (txt cs)):=by unfold a0m; rw[List.map_map]; rfl
 rw[eL]at hK ⊢;have look:=fun p h3=>c1r (p:=p) hc h3;generalize a0i=TK at *;refine lqF ?_;simp_all![];refine a0r (g:=fun ix:List Nat=>PyData.list (a0c (ix.map (cs.getD · 0)))) (fun ix=>.str (mk (txt cs ix))) L (by rfl) (fun ix hix acc K hacc hK=>?_) (by omega) fun st' g1 g2=>?_
 ·obtain⟨hl,hi⟩:=hL ix hix
  have eD:a0c (ix.map (cs.getD · 0))=ix.map fun p=>.int ((cs.getD p 0:Nat):Int):=by unfold a0c; rw[List.map_map]; rfl
  simp_all![];rw[eD];rw[eD]at hK;refine a0r (g:=fun p=>PyData.int ((cs.getD p 0:Nat):Int)) (fun p=>.str (mk (nmC cs p))) ix (by rfl) (fun p hp acc K hacc hK=>?_) (by omega) fun st' g1 g2=>?_
  ·simp_all![look p (hi p hp)]
   exact⟨hacc,hK⟩
  rw[show st'.own=_ from g1,show st'.hz=true from g2]
  have e5:(ix.map fun p=>PyData.str (mk (nmC cs p)))=(ix.map (nmC cs)).map fun s=>.str (mk s):=by rw[List.map_map]; rfl
  have htl:=(b2r hc hl).1;rw[e5,a7h];dsimp only;rw[c2v];exact⟨b1e (Nat.le_trans htl (by decide)),hacc,hK⟩
 rw[show st'.own=_ from g1,show st'.hz=true from g2,eS]
 exact⟨hacc,hK⟩
theorem d8y{n:Nat}(hc:CsOK cs){P T:List (List Nat)}(hP:∀ix∈P,ix.length≤5∧∀p∈ix,p<3)(hPl:P.length≤10)(hT:∀ix∈T,ix.length≤5∧∀p∈ix,p<3)(hTl:T.length≤10){ow:List OV}{Q:Fl→St→Prop}
 (h:a1f (a0y n) a0i L2.law.tl.tl.tl.tl.tl.tl.tl.tl.tl.tl.tl.tl.tl.tl.tl.tl.tl.tl.tl.tl.tl (a2l [s1,v1,v2,v3,v4,v5,v6,.dat (.list (rsD (cdL cs P))),.dat (.list (a0m (T.map (txt cs)))),v9,v10,v11,v12,v13,v14,v15,v16,v17,v18,v19,v20,v21,v22,v23,v24,.tab a0i,.dat (.list (a0m (P.map (txt cs))))] 6 ow) Q) :
  a1f (a0y n) a0i L2.law.tl.tl.tl.tl.tl.tl.tl.tl.tl.tl.tl.tl.tl.tl.tl.tl.tl.tl.tl (a2l [s1,v1,v2,v3,v4,v5,v6,.dat (.list (rsD (cdL cs P))),.dat (.list (rsD (cdL cs T))),v9,v10,v11,v12,v13,v14,v15,v16,v17,v18,v19,v20,v21,v22,v23,v24] 8 ow) Q:=by
 refine wq2 ?_;simp_all![];refine wq2 ?_;generalize hPD:rsD (cdL cs P)=PD at *;generalize hTD:rsD (cdL cs T)=TD at *;simp_all![];dsimp only[a1n];subst hPD hTD;refine b6i hc hP hPl (by decide) ?_
 refine b6i hc hT hTl (by exact lx rfl) ?_
 simp_all![];exact h
theorem d9p{v:Nat}(h:v<4096):vi 0 (oc v) v∧∀o∈oc v,o<128:=by
 unfold oc
 by_cases h6:63<v
 ·rw[if_pos h6]
  refine⟨⟨by exact a2a (.t (.p (.k 64) N0) (.k 256)) (.t N1 (.k 4096)) (.e (.p (.m 0 64 N0) N2) N1) h (Nat.div_add_mod _ 64),?_⟩,fun o ho=>?_⟩
  ·refine ifp (by omega) ⟨by exact a0o (.t N0 (.k 256)) (.t N0 (.k 64)) (ml rfl),?_⟩
   exact ifn (by omega) ⟨rfl,by omega⟩
  ·simp only[List.mem_cons,List.not_mem_nil,or_false]at ho
   exact lc4 4 [_,_,_,_] [] (.t N0 (.k 128)) (.t N1 (.k 4096)) (.b 1 (.e N0 (.p (.k 64) N2)) (.e N0 N3)) (.e (.p (.m 0 64 N2) N3) N1) (.t N3 (.k 64)) h ho (Nat.div_add_mod _ 64) (ml rfl)
 ·rw[if_neg h6]
  refine⟨⟨by exact a0o (.t N0 (.k 256)) (.n (.t (.k 63) N0)) h6,ifn (by omega) ⟨rfl,by omega⟩⟩,fun o ho=>?_⟩
  rw[List.mem_singleton.mp ho]; exact a0o (.t N0 (.k 128)) (.n (.t (.k 63) N0)) h6
theorem b6s:∀{vs:List Nat} {os:List Nat},(∀v∈vs,v<4096)→Flg (vs.flatMap oc) os→Enc os vs
 |[],os,_,h=>by
  match os,h with
  |[],_=>rfl
 |v::vs,os,hv,h=>by
  rw[List.flatMap_cons]at h;obtain⟨c1,c2,e,h1,h2⟩:=b3e h;obtain⟨o1,o2⟩:=d9p (hv v (.head _));exact⟨c1,c2,e,c8p o2 h1 o1,Nat.lt_of_lt_of_le (hv v (.head _)) (Nat.le_trans (show 4096≤2^12 by decide) (Nat.pow_le_pow_right (by decide) (by decide))),b6s (fun x hx=>hv x (.tail _ hx)) h2⟩
noncomputable def d6z(n5:Nat)(O:List Nat):List Nat:=((List.range O.length).zip O).map fun p=>p.2+128*(if ((p.1+n5)%3==0)=true then 1 else 0)
theorem d0z{n5:Nat}{TP:List Nat}(h:∀v∈TP,v<4096):Enc (d6z n5 (TP.flatMap oc)) TP:=by
 refine b6s h ?_
 have:=c1z (fun i=>(i+n5)%3==0) (TP.flatMap oc) 0
 rwa[←List.range_eq_range']at this
theorem d7k{n:Nat}{n0 n1 n2 n3 n4 n5 n6:Nat}{o1 o2 o3:OV}{O:List Nat}(hO:O.length≤10000){dP dT R:e1l}(hread:∀ow (Q':V→List OV→Prop),Q' (.dat R) ow→a0y n 16 true [] [.dat (.list (a0c (d6z n5 O))),.dat dP,.dat dT] ow Q'){Q:Fl→St→Prop}
 (h:a1f (a0y n) a0i L2.law.tl.tl.tl.tl.tl.tl.tl.tl.tl.tl.tl.tl.tl.tl.tl.tl.tl.tl.tl.tl.tl.tl (a2l [s1,.own 0,v2,v3,v4,v5,v6,v7,.dat dT,v9,v10,v11,v12,v13,v14,v15,v16,v17,v18,.dat (.list (a0c O)),v20,v21,v22,v23,v24,v25,.dat dP,.dat R] 5 [.lst [.int n0,.int n1,.int n2,.int n3,.int n4,.int n5,.int n6],o1,o2,o3]) Q) :
  a1f (a0y n) a0i L2.law.tl.tl.tl.tl.tl.tl.tl.tl.tl.tl.tl.tl.tl.tl.tl.tl.tl.tl.tl.tl.tl (a2l [s1,.own 0,v2,v3,v4,v5,v6,v7,.dat dT,v9,v10,v11,v12,v13,v14,v15,v16,v17,v18,.dat (.list (a0c O)),v20,v21,v22,v23,v24,v25,.dat dP] 6 [.lst [.int n0,.int n1,.int n2,.int n3,.int n4,.int n5,.int n6],o1,o2,o3]) Q:=by
 have hen:a8v (a0c O)=((List.range O.length).zip O).map b9v:=a7m _ _;have hil:=intsL_length O;generalize hOD:a0c O=OD at *;refine wq2 ?_;simp_all![];rw[hen];refine⟨by exact a1m (.l N0 (.k 1000000)) (.l N1 (.k 10000)) (.e N0 N1) hO hil,?_⟩
 refine a5z (g:=b9v) (fun p=>.int ((p.2+128*(if ((p.1+n5)%3==0)=true then 1 else 0):Nat):Int)) (fun st=>∃a b,st=((a2l [s1,.own 0,v2,v3,v4,v5,v6,v7,.dat dT,v9,v10,v11,v12,v13,v14,v15,v16,v17,v18,.dat (.list OD),v20,v21,v22,v23,v24,v25,.dat dP] 6 [.lst [.int n0,.int n1,.int n2,.int n3,.int n4,.int n5,.int n6],o1,o2,o3]).set 29 a).set 30 b) _ ?_ _ _ ⟨.undef,.undef,rfl⟩ ?_ ?_
 ·rintro⟨i,o⟩ hio st acc K ⟨a,b,rfl⟩ hacc hK
  have e1:((i:Int)+(n5:Int)).fmod 3=(((i+n5)%3:Nat):Int):=by rw[←Int.natCast_add]; exact a0p _ 3
  refine lqF ?_;unfold b9v;simp_all![];rw[e1];have e2:(o:Int)+128*b2i ((((i+n5)%3:Nat):Int)==0)=((o+128*(if ((i+n5)%3==0)=true then 1 else 0):Nat):Int):=by
   unfold b2i
   by_cases h0:(i+n5)%3=0
   ·rw[h0]; simp
   ·(rw[if_neg (by simp; omega)]; rw[if_neg (by simp; omega)]); simp
  rw[e2];exact⟨by decide,by decide,hacc,hK _ ⟨_,_,rfl⟩⟩
 ·simp; omega
 ·rintro st ⟨a,b,rfl⟩
  have e3:((List.range O.length).zip O).map (fun p=>PyData.int ((p.2+128*(if ((p.1+n5)%3==0)=true then 1 else 0):Nat):Int))=a0c (d6z n5 O):=by
   unfold d6z a0c;rw[List.map_map]; rfl
  rw[List.nil_append,e3];refine hread _ _ ⟨⟨_,rfl⟩,?_⟩;simp_all![];exact h
noncomputable def prL(VS:List Nat):List e1l:=VS.flatMap fun v=>[pr1 v,pr2 v]
theorem d7q{n:Nat}{ow:List OV}(hVl:VS.length≤1000){Q:Fl→St→Prop}
 (h:a1f (a0y n) a0i L2.law.tl.tl.tl.tl.tl.tl.tl.tl.tl.tl.tl.tl.tl.tl.tl.tl.tl.tl.tl.tl.tl.tl.tl (a2l [s1,v1,v2,v3,v4,v5,v6,v7,v8,v9,v10,v11,v12,v13,v14,v15,v16,.dat (.list (a0c VS)),v18,v19,v20,v21,v22,v23,v24,v25,v26,v27,.dat (.list (prL VS))] 4 ow) Q) :
  a1f (a0y n) a0i L2.law.tl.tl.tl.tl.tl.tl.tl.tl.tl.tl.tl.tl.tl.tl.tl.tl.tl.tl.tl.tl.tl.tl (a2l [s1,v1,v2,v3,v4,v5,v6,v7,v8,v9,v10,v11,v12,v13,v14,v15,v16,.dat (.list (a0c VS)),v18,v19,v20,v21,v22,v23,v24,v25,v26,v27] 5 ow) Q:=by
 have hil:=intsL_length VS;have eV:a0c VS=VS.map fun(e:Nat)=>PyData.int (e:Int):=rfl;refine wq2 ?_;simp_all![];refine a3l (g:=fun(e:Nat)=>PyData.int (e:Int)) (fun v=>[pr1 v,pr2 v]) (fun st=>∃a b,st=((a2l [s1,v1,v2,v3,v4,v5,v6,v7,v8,v9,v10,v11,v12,v13,v14,v15,v16,.dat (.list (a0c VS)),v18,v19,v20,v21,v22,v23,v24,v25,v26,v27] 5 ow).set 29 a).set 30 b) VS ?_ _ _ ⟨.undef,.undef,rfl⟩ ?_ ?_
 ·rintro v hv st acc K ⟨a,b,rfl⟩ hacc hK
  have hacc:acc.length+2≤1000000:=hacc;have hK:=hK _ ⟨.dat (.int (v:Int)),.dat (pr2 v),rfl⟩;generalize a0c VS=VD at *;refine lqF ?_;simp_all![];dsimp only[a1n];refine⟨⟨by decide,a0x (by decide)⟩,by decide,⟨by decide,a0x (by decide)⟩,by decide,?_⟩
  refine lqF ?_;simp_all![];refine⟨by exact a0o (.t N0 (.k 1000000)) (.l (.p N0 (.k 2)) (.k 1000000)) hacc,?_⟩
  refine lqF ?_;simp_all![];exact⟨Nat.lt_of_lt_of_le (Nat.lt_succ_self _) hacc,hK⟩
 ·rw[List.length_flatMap,List.length_nil]
  refine Nat.le_trans (Nat.add_le_add_left (a4c (m:=2) fun x hx=>?_) _) (by rw[List.length_map]; exact a0o (.l (.p (.k 0) (.m 0 2 N0)) (.k 1000000)) (.l N0 (.k 1000)) hVl)
  obtain⟨p,hp,rfl⟩:=List.mem_map.mp hx;exact Nat.le_refl _
 ·rintro st ⟨a,b,rfl⟩
  exact h
theorem d8d{n:Nat}{o0 o1 o2:OV}{R:e1l}{DU:List e1l}(hVl:VS.length≤1000)(hR:R=.list [.list (VS.flatMap paF),.list DU,.list [.int 0,.int 1,.int 2,.int 3,.int 0,.int 1,.int 2,.int 3,.int 0,.int 1,.int 2,.int 3]])(hsh:shp 10 R){Q:V→Prop}(h:Q (.dat (.bool true))) :
  a1f (a0y n) a0i L2.law.tl.tl.tl.tl.tl.tl.tl.tl.tl.tl.tl.tl.tl.tl.tl.tl.tl.tl.tl.tl.tl.tl.tl (a2l [s1,v1,v2,v3,v4,v5,v6,v7,v8,v9,v10,v11,v12,v13,v14,v15,v16,v17,v18,v19,.own 3,v21,v22,v23,v24,v25,v26,.dat R,.dat (.list (prL VS))] 4 [o0,o1,o2,.lst DU]) fun fl st=>Q (.dat (match fl with|.ret d=>d|.next=>.none)):=by
 have hpl:(prL VS).length≤2*VS.length:=by
  unfold prL;rw[List.length_flatMap];refine Nat.le_trans (a4c (m:=2) fun x hx=>?_) (by rw[List.length_map]; exact Nat.le_refl _)
  obtain⟨p,hp,rfl⟩:=List.mem_map.mp hx;exact Nat.le_refl _
 have ePA:(prL VS).map (fun d=>PyData.list [d,.bool true])=VS.flatMap paF:=by unfold prL; rw[List.map_flatMap]; rfl
 have hs:=a5c hsh (by decide)
 have he:=c6y hsh;refine wq2 ?_;simp_all![];have eM:(prL VS).map (fun d=>d)=prL VS:=List.map_id' _;generalize prL VS=PR at *;rw[←eM];refine a0r (g:=fun d:e1l=>d) (fun d=>.list [d,.bool true]) PR (by rfl) (fun d hd acc K hacc hK=>?_) (by exact a1m (.l N0 (.k 1000000)) (.l N1 (.k 1000)) (.l N0 (.m 0 2 N1)) hVl hpl) fun st' g1 g2=>?_
 ·simp_all![]
  exact⟨hacc,hK⟩
 rw[show st'.own=_ from g1,ePA]
 subst hR;refine⟨by decide,?_⟩
 refine(show b2c .eq (.list _) (.list _) _ from ?_)
 rw[c_eql];refine⟨⟨hs,hs⟩,?_⟩;refine(show Q (.dat (.bool (PyData.eqv (.list [.list (VS.flatMap paF),.list DU,.list [.int 0,.int 1,.int 2,.int 3,.int 0,.int 1,.int 2,.int 3,.int 0,.int 1,.int 2,.int 3]]) (.list [.list (VS.flatMap paF),.list DU,.list [.int 0,.int 1,.int 2,.int 3,.int 0,.int 1,.int 2,.int 3,.int 0,.int 1,.int 2,.int 3]])))) from ?_)
 rw[he];exact h
noncomputable def moL(RS:List (List Nat)):List (List Nat):=RS.flatMap moF
theorem c8j(b:Bool):∀(RS:List (List Nat)) (i:Nat),i<RS.length→(moL RS).getD (2*i+(if b=true then 1 else 0)) []=mvs (RS.getD i []) b
 |[]=>fun i h=>nomatch h
 |r::RS=>fun i h=>by
  cases i with
  |zero=>cases b <;> rfl
  |succ i=>
   have ih:=c8j b RS i (Nat.lt_of_succ_lt_succ h);rw[show 2*(i+1)+(if b=true then 1 else 0)=2*i+(if b=true then 1 else 0)+1+1 by omega]
   exact ih
theorem c1n(RS:List (List Nat)):(moL RS).length=2*RS.length:=by
 induction RS with
 |nil=>rfl
 |cons r RS ih=>show(moF r++moL RS).length=_; rw[List.length_append,ih,List.length_cons]; show 2+_=_; exact a3f (.e (.p (.k 2) (.m 0 2 N0)) (.m 0 2 (.p N0 O1)))
theorem c2p{b:Bool}{p:Nat}(hp:p∈five):(mvs r b).getD p 0=mv r b p:=by
 simp only[five,List.mem_cons,List.not_mem_nil,or_false]at hp
 rcases hp with rfl|rfl|rfl|rfl|rfl <;> rfl
theorem d8c(hRS:∀r∈RS,r∈rings)(hl:RS.length≤50):MvOK (moL RS) where
 len:=by rw[c1n]; exact a0o (.l (.m 0 2 N0) (.k 100)) (.l N0 (.k 50)) hl
 row:=fun m hm=>by
  obtain⟨r,hr,hm⟩:=List.mem_flatMap.mp hm;have key:∀b,(mvs r b).length=6∧∀p∈five,(mvs r b).getD p 0∈five:=fun b=>⟨rfl,fun p hp=>by
   rw[c2p hp]
   have:=a1z (hRS r hr) hp
   cases b
   ·exact this.1
   ·exact this.2.1⟩
  simp only[moF,List.mem_cons,List.not_mem_nil,or_false]at hm
  rcases hm with rfl|rfl
  ·exact key false
  ·exact key true
theorem b6t{t:Tn}(h1:t.1≤3):xT RS t%4=t.1∧xT RS t/4=2*RS.idxOf t.2.1+(if t.2.2=true then 1 else 0):=by
 unfold xT; split <;> omega
theorem c7t{RS:List (List Nat)}{fl:List Bool}(hRS:∀r∈RS,r∈rings):∀(TS:List Tn) (th:List Nat),(∀t∈TS,t.1≤3∧t.2.1∈RS)→(∀p∈th,p∈five)→(TS.map (xT RS)).foldl (b9q (moL RS) fl) th=th.map (act (fl.getD · false) TS)
 |[]=>fun th _ _=>(List.map_id' th).symm
 |t::TS=>fun th hT ht=>by
  obtain⟨h1,h2⟩:=hT t (.head _);obtain⟨x1,x2⟩:=b6t (RS:=RS) h1;have hi:RS.idxOf t.2.1<RS.length:=List.idxOf_lt_length_iff.mpr h2;have hm:(moL RS).getD (xT RS t/4) []=mvs t.2.1 t.2.2:=by
   rw[x2,c8j _ _ _ hi,List.getD_eq_getElem?_getD,List.getElem?_eq_getElem hi,Option.getD_some,List.getElem_idxOf hi]
  have hs:b9q (moL RS) fl th (xT RS t)=th.map fun p=>if fl.getD t.1 false=true then mv t.2.1 t.2.2 p else p:=by
   unfold b9q;rw[x1,hm];cases fl.getD t.1 false
   ·exact(List.map_id' th).symm
   ·exact List.map_congr_left fun p hp=>c2p (ht p hp)
  rw[List.map_cons,List.foldl_cons,hs,c7t hRS TS _ (fun u hu=>hT u (.tail _ hu)) ?_,List.map_map]
  ·rfl
  ·intro p hp
   obtain⟨q,hq,rfl⟩:=List.mem_map.mp hp
   have:=a1z (hRS _ h2) (ht q hq)
   cases fl.getD t.1 false
   ·exact ht q hq
   ·cases t.2.2
    ·exact this.1
    ·exact this.2.1
theorem c2d:rings.all (fun r=>five.all fun p=>r.getD ((r.idxOf p+0)%5) 0==p)=true:=by decide +kernel
theorem c6a(t:List Nat):a4z [[],[]] t=true:=by
 show(a3a t [0] []).contains t.length=true;rw[last_mem];exact⟨Nat.zero_le _,by simp⟩
theorem c9s(hRS:∀r∈RS,r∈rings){f:F}(hr:ring∈rings)(hT:∀t∈f.turns ring false,t.1≤3∧t.2.1∈RS){n2:Nat}(ix:List Nat):b5o (moL RS) ((f.turns ring false).map (xT RS)) (a9g cs (PX n2)) (txt cs ix)=c8n cs (PX n2) f ring ix:=by
 have efl:c7u (a9g cs (PX n2)) (txt cs ix)=c9r cs (PX n2) (txt cs ix):=rfl;unfold b5o c8n;rw[efl];have h3:(c9r cs (PX n2) (txt cs ix)).getD 3 false=true:=c6a (txt cs ix);generalize c9r cs (PX n2) (txt cs ix)=fl at *;rw[c7t hRS _ five hT fun _ h=>h];have htok:=F.turns_tok (told:=(fl.getD · false)) h3 f ring hr false;have e:five.map (act (fl.getD · false) (f.turns ring false))=five.map fun p=>ring.getD ((ring.idxOf p+(if f.ev (fl.getD · false)=true then 1 else 0))%5) 0:=by
  refine List.map_congr_left fun p hp=>?_;rw[htok p hp];cases f.ev (fl.getD · false)
  ·have:=List.all_eq_true.mp (List.all_eq_true.mp c2d ring hr) p hp
   rw[beq_iff_eq]at this
   exact this.symm
  ·rfl
 rw[e]
theorem c4x(hV:∀v∈VS,v<2^21)(hl:RS.length≤50):(d1j RS VS).length≤500:=by
 unfold d1j;rw[List.length_flatMap];refine Nat.le_trans (a4c (m:=9) fun x hx=>?_) (by rw[List.length_map,List.length_zip]; exact a1b (.l (.m 0 9 (.b 2 N0 N1)) (.k 500)) (.l N0 (.k 50)) hl)
 obtain⟨p,hp,rfl⟩:=List.mem_map.mp hx
 have:=b1y (r:=p.1) (hV p.2 (List.of_mem_zip hp).2)
 rw[List.length_cons]; exact a0o (.l (.p N0 O1) (.k 9)) (.l N0 (.k 8)) this
section
variable {RS:List (List Nat)} {VS:List Nat} {TS:List Tn} (hRS:∀r∈RS,r∈rings) (hl:RS.length≤50) (hVl:VS.length=RS.length) (hVS:∀v∈VS,v%5≠0∧v<2^21) (hT:∀t∈TS,t.1≤3∧t.2.1∈RS) (hTl:TS.length≤50)
include hl hT in
theorem d4v:∀t∈TS,xT RS t<3000∧xT RS t/4<(moL RS).length:=fun t ht=>by
 obtain⟨h1,h2⟩:=hT t ht;have hi:RS.idxOf t.2.1<RS.length:=List.idxOf_lt_length_iff.mpr h2
 have:=(b6t (RS:=RS) h1).2
 rw[c1n,this];unfold xT
 split <;> (first|exact lc3 3 [_,_,_] [] (.a (.t (.p (.p N0 (.m 0 8 N1)) (.k 4)) (.k 3000)) (.t (.p (.m 0 2 N1) O1) (.m 0 2 N2))) (.l N2 (.k 50)) (.l N0 (.k 3)) (.t N1 N2) hl h1 hi|exact lc3 3 [_,_,_] [] (.a (.t (.p (.p N0 (.m 0 8 N1)) (.k 0)) (.k 3000)) (.t (.p (.m 0 2 N1) (.k 0)) (.m 0 2 N2))) (.l N2 (.k 50)) (.l N0 (.k 3)) (.t N1 N2) hl h1 hi|omega)
include hRS hl hVS hT in
theorem d9b:∀b∈b7m RS VS TS,b.Ok:=fun b hb=>by
 rcases List.mem_append.mp hb with hb|hb
 ·obtain⟨p,hp,rfl⟩:=List.mem_map.mp hb
  have:=List.of_mem_zip hp
  exact⟨hRS _ this.1,hVS _ this.2⟩
 ·obtain⟨t,ht,rfl⟩:=List.mem_map.mp hb
  exact(d4v hl hT t ht).1
theorem c8i{α β γ:Type}(g:α→List γ):∀(a:List α) (b:List β),b.length=a.length→(a.zip b).flatMap (fun p=>g p.1)=a.flatMap g
 |[]=>fun b _=>rfl
 |x::a=>fun b h=>match b,h with
  |y::b,h=>congrArg (g x ++ ·) (c8i g a b (Nat.succ.inj h))
theorem c8t{α β γ:Type}(g:β→List γ):∀(a:List α) (b:List β),b.length=a.length→(a.zip b).flatMap (fun p=>g p.2)=b.flatMap g
 |[]=>fun b h=>match b,h with
  |[],_=>rfl
 |x::a=>fun b h=>match b,h with
  |y::b,h=>congrArg (g y ++ ·) (c8t g a b (Nat.succ.inj h))
theorem c1v{γ:Type}{g:Bk→List γ}(h:∀x,g (.tn x)=[]):∀(TS:List Tn),(TS.map fun t=>Bk.tn (xT RS t)).flatMap g=[]
 |[]=>rfl
 |t::TS=>by rw[List.map_cons,List.flatMap_cons,h,c1v h TS]; rfl
include hVl in
theorem d8v:(b7m RS VS TS).flatMap Bk.pa=VS.flatMap paF:=by
 unfold b7m;rw[List.flatMap_append,List.flatMap_map,c1v (fun _=>rfl),List.append_nil];exact c8t paF RS VS hVl
include hVl in
theorem d9i:(b7m RS VS TS).flatMap Bk.mo=moL RS:=by
 unfold b7m;rw[List.flatMap_append,List.flatMap_map,c1v (fun _=>rfl),List.append_nil];exact c8i moF RS VS hVl
theorem d8i:(b7m RS VS TS).flatMap Bk.tu=TS.map (xT RS):=by
 unfold b7m;rw[List.flatMap_append,List.flatMap_map,List.flatMap_map];have e:∀l:List (List Nat×Nat),(l.flatMap fun p=>Bk.tu (.sec p.1 p.2))=[]:=fun l=>by
  induction l with
  |nil=>rfl
  |cons p l ih=>rw[List.flatMap_cons,ih]; rfl
 rw[e,List.nil_append]
 induction TS with
 |nil=>rfl
 |cons t TS ih=>rw[List.flatMap_cons,ih]; rfl
end
theorem d9u{c1 c2:Nat}(hc:∀c∈[c1,c2],7≤c∧c≤54∧c≠23∧c≠52):CsOK [52,c1,c2] where
 len:=rfl
 c0:=rfl
 c:=fun p h1 h3=>by
  match p,h1,h3 with
  |1,_,_=>exact hc c1 (by simp)
  |2,_,_=>exact hc c2 (by simp)
theorem c1k(n k:Nat):(ixP n k).length≤5∧∀p∈ixP n k,p<3:=by
 refine⟨by simp[ixP],fun p hp=>?_⟩
 obtain⟨j,_,rfl⟩:=List.mem_map.mp hp;exact Nat.mod_lt _ (by decide)
theorem c0h(n m k:Nat):(ixT n m k).length≤5∧∀p∈ixT n m k,p≠0∧p<3:=by
 refine⟨by simp[ixT]; exact a0o (.l N0 (.k 5)) (.t N0 (.k 5)) (ml rfl),fun p hp=>?_⟩
 obtain⟨j,_,rfl⟩:=List.mem_map.mp hp;exact a0o (.a (.n (.e (.p O1 N0) (.k 0))) (.t (.p O1 N0) (.k 3))) (.t N0 (.k 2)) (ml rfl)
theorem d7y(n:Nat):∀ix∈PX n,ix.length≤5∧∀p∈ix,p<3:=fun ix h=>by
 simp only[PX,List.mem_cons,List.not_mem_nil,or_false]at h
 rcases h with rfl|rfl|rfl|rfl
 ·exact c1k n 0
 ·exact c1k n 1
 ·exact c1k n 2
 ·exact⟨by decide,by decide⟩
theorem d8m(n m:Nat):∀ix∈TI n m,ix.length≤5∧∀p∈ix,p≠0∧p<3:=fun ix h=>by
 simp only[TI,List.mem_cons,List.not_mem_nil,or_false]at h
 rcases h with rfl|rfl|rfl
 ·exact c0h n m 0
 ·exact c0h n m 1
 ·exact c0h n m 2
theorem b6y(l:List Nat):shp 1 (.list (a0c l)):=a2s fun d hd=>by obtain⟨i,_,rfl⟩:=List.mem_map.mp hd; exact b1r 0 _
theorem d4d(VS:List Nat):shp 3 (.list (VS.flatMap paF)):=a2s fun d hd=>by
 obtain⟨v,_,hd⟩:=List.mem_flatMap.mp hd;have tp:∀a b:Int,shp 2 (.list [.tuple [.int a,.int b],.bool true]):=fun a b=>by
  refine a1u (c2s fun d hd=>?_) (a1u (a6u 1 _) (b0w 1));simp only[List.mem_cons,List.not_mem_nil,or_false]at hd
  rcases hd with rfl|rfl <;> exact b1r 0 _
 simp only[paF,List.mem_cons,List.not_mem_nil,or_false]at hd
 rcases hd with rfl|rfl
 ·exact tp _ _
 ·exact tp _ _
theorem d1a(hc:CsOK cs){P:List (List Nat)}{f:F}{ix:List Nat}(hl:ix.length≤5):shp 3 (c8n cs P f ring ix):=by
 unfold c8n;refine a1u (d0a 2 (b2r hc hl).2) (a1u (a2s fun d hd=>?_) (a1u (a6o (b6y _) (by decide)) (b0w 2)))
 obtain⟨b,_,rfl⟩:=List.mem_map.mp hd;exact a1u (a6u 0 _) (a1u (a6u 0 _) (a1u (a6u 0 _) (b0w 0)))
theorem plain2:c7w:=by
 intro is hl;refine⟨by decide,fun _=>rfl,rfl,rfl,?_⟩
 refine d7v hl fun n0 n1 n2 n3 n4 n5 n6 v2 v3=>?_;refine d7m fun c1 c2 ps hc=>?_;refine d9g ?_;refine d8u fun ps2=>?_;have hr:a9r (n6%4) (n6/4%3) (n6/12%2)∈rings:=b9o (Nat.mod_lt _ (by decide)) (Nat.mod_lt _ (by decide)) (Nat.mod_lt _ (by decide))
 generalize a9r (n6%4) (n6/4%3) (n6/12%2)=ring at *;refine d9m (by decide) hr fun v14 v15 v16=>?_
 have ok:=d9u hc;have hTl3:(TI n3 n4).length=3:=rfl;have hTI:=d8m n3 n4;have hPX:=d7y n2;have hPl:(PX n2).length=4:=rfl;generalize [52,c1,c2]=cs at *;obtain⟨f1,f2,f3⟩:=b7i n0;have hL:=F.turns_good _ f1 ring hr false;generalize a4a n0=f at *;have hrep:=fun RS hRS hT ix=>c9s (RS:=RS) hRS (f:=f) hr hT (cs:=cs) (n2:=n2) ix;generalize hTS:f.turns ring false=TS at *;obtain⟨-,hmem,hRl,hRS⟩:=b6e TS [] (fun _ h=>nomatch h) fun t ht=>(hL.2 t ht).2;generalize TS.foldl b1m []=RS at *;have hTl:TS.length≤50:=Nat.le_trans hL.1 (Nat.le_trans f3 (by decide))
 have hRl:RS.length≤50:=by rw[List.length_nil]at hRl; exact lc3 3 [_,_,_] [] (.l N0 (.k 50)) (.l N1 (.k 32)) (.l N2 N1) (.l N0 (.p (.k 0) N2)) f3 hL.1 hRl
 have hT:∀t∈TS,t.1≤3∧t.2.1∈RS:=fun t ht=>⟨(hL.2 t ht).1,hmem t ht⟩;refine d5w (by omega) ?_
 obtain⟨hVl,hVS⟩:=c5y n5 RS.length;generalize a9x n5 RS.length=VS at *;refine d5q hRS hRl hVS ?_;have hsl:=c4x (RS:=RS) (fun v hv=>(hVS v hv).2) hRl;refine d6f hRl hTl hmem (by omega) ?_
 have hbf:=d1r RS VS TS;rw[←hbf];have hfl:(a4f (b7m RS VS TS)).length≤600:=by rw[hbf,List.length_append,List.length_map]; exact lc3 3 [_,_,_] [] (.l (.p N0 N1) (.k 600)) (.l N2 (.k 32)) (.l N1 N2) (.l N0 (.k 500)) f3 hL.1 hsl
 have hB:=d9b hRS hRl hVS hT;have hBl:(b7m RS VS TS).length≤1000:=by unfold b7m; rw[List.length_append,List.length_map,List.length_map,List.length_zip]; exact d2y (.l (.p (.b 2 N0 N1) N2) (.k 1000)) (.l N3 (.k 32)) (.l N2 N3) (.l N0 (.k 50)) f3 hL.1 hRl
 have hpa:=d8v (TS:=TS) hVl;have hmo:=d9i (TS:=TS) hVl;have htu:=d8i (RS:=RS) (VS:=VS) (TS:=TS);have hlt:∀x∈TS.map (xT RS),x/4<(moL RS).length:=fun x hx=>by
  obtain⟨t,ht,rfl⟩:=List.mem_map.mp hx;exact(d4v hRl hT t ht).2
 have htp:∀v∈a4f (b7m RS VS TS)++[0],v<4096:=fun v hv=>by
  rcases List.mem_append.mp hv with hv|hv
  ·obtain⟨b,hb,hv⟩:=List.mem_flatMap.mp hv
   have hok:=hB b hb;cases b with
   |sec r w=>
    rcases List.mem_cons.mp hv with rfl|hv
    ·decide
    ·have:=(b5c hok.1 hok.2.1 v hv).2; exact a0o (.t N0 (.k 4096)) (.t N0 (.k 256)) this
   |tn x=>
    have hok:x<3000:=hok;have hv:v∈[257+x]:=hv;rw[List.mem_singleton.mp hv]; exact a0o (.t (.p (.k 257) N0) (.k 4096)) (.t N0 (.k 3000)) hok
  ·rw[List.mem_singleton.mp hv]; decide
 generalize b7m RS VS TS=B at *;refine d5x (by rw[List.length_append,List.length_singleton]; exact a0o (.l (.p N0 O1) (.k 2000)) (.l N0 (.k 600)) hfl) ?_
 have henc:=d0z (n5:=n5) htp;refine d7l ok hPX hPl hTI (by rw[hTl3]; decide) f1 (Nat.le_trans f2 (by decide)) hr fun v21 v22 v23 v24=>?_
 refine d8y ok hPX (by rw[hPl]; decide) (fun ix h=>⟨(hTI ix h).1,fun p hp=>((hTI ix h).2 p hp).2⟩) (by rw[hTl3]; decide) ?_
 have hpl:(VS.flatMap paF).length≤999:=by
  rw[List.length_flatMap];refine Nat.le_trans (a4c (m:=2) fun x hx=>?_) (by rw[List.length_map]; exact a1m (.l (.m 0 2 N0) (.k 999)) (.l N1 (.k 50)) (.e N0 N1) hRl hVl)
  obtain⟨p,hp,rfl⟩:=List.mem_map.mp hx;exact Nat.le_refl _
 have eP:(PX n2).map (txt cs)=(a9g cs (PX n2)).map (jn a5q):=by unfold a9g; rw[List.map_map]; exact List.map_congr_left fun ix _=>d4p ok ix
 have hO:((a4f B++[0]).flatMap oc).length≤10000:=by
  rw[List.length_flatMap];refine Nat.le_trans (a4c (m:=2) fun x hx=>?_) (by rw[List.length_map,List.length_append,List.length_singleton]; exact a0o (.l (.m 0 2 (.p N0 O1)) (.k 10000)) (.l N0 (.k 600)) hfl)
  obtain⟨p,hp,rfl⟩:=List.mem_map.mp hx;unfold oc; split <;> simp
 have eDU:((TI n3 n4).map (txt cs)).map (b5o (moL RS) (TS.map (xT RS)) (a9g cs (PX n2)))=(TI n3 n4).map (c8n cs (PX n2) f ring):=by
  rw[List.map_map];exact List.map_congr_left fun ix _=>hrep RS hRS hT ix
 refine d7k (R:=.list [.list (VS.flatMap paF),.list ((TI n3 n4).map (c8n cs (PX n2) f ring)),.list (b8p ((TI n3 n4).map (txt cs)))]) hO (fun ow Q' hQ=>?_) ?_
 ·rw[eP]
  refine d4n (by decide) hB (by omega) hBl (by rw[hpa]; exact hpl) (by rw[hmo,c1n]; exact a0o (.l (.m 0 2 N0) (.k 999)) (.l N0 (.k 50)) hRl) (by rw[htu,List.length_map]; omega) (fun ps h=>?_) (by unfold a9g; rw[List.length_map]; exact hPl) hmo htu (d8c hRS hRl) hlt (by rw[List.length_map,hTl3]; decide) (fun t h=>?_) henc ?_
  ·obtain⟨ix,hix,rfl⟩:=List.mem_map.mp h
   exact(c2a ok (hPX ix hix).1).1
  ·obtain⟨ix,hix,rfl⟩:=List.mem_map.mp h
   exact Nat.le_trans (b2r ok (hTI ix hix).1).1 (by decide)
  ·rw[hpa,eDU]
   exact hQ
 refine d7q (by exact a1m (.l N0 (.k 1000)) (.l N1 (.k 50)) (.e N0 N1) hRl hVl) ?_
 have eas:b8p ((TI n3 n4).map (txt cs))=[.int 0,.int 1,.int 2,.int 3,.int 0,.int 1,.int 2,.int 3,.int 0,.int 1,.int 2,.int 3]:=rfl;refine d8d (by exact a1m (.l N0 (.k 1000)) (.l N1 (.k 50)) (.e N0 N1) hRl hVl) (by rw[eas]) ?_ (Q:=fun v=>v=.dat (.bool true)) rfl
 rw[eas];refine a6o (k:=5) (a1u (a6o (d4d VS) (by decide)) (a1u (a2s fun d hd=>?_) (a1u (a6o (b6y [0,1,2,3,0,1,2,3,0,1,2,3]) (by decide)) (b0w 4)))) (by decide)
 obtain⟨ix,hix,rfl⟩:=List.mem_map.mp hd;exact d1a ok (hTI ix hix).1
end Mw.Internal
set_option maxRecDepth 100000 in
theorem PySem.Challenge.cw_kl0251_02_holds : PySem.Challenge.rw_kl0251_02.Holds :=
  Mw.Internal.law2_of Mw.Internal.plain2
