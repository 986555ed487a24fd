import PyProof.Rows.All
import Wide.All
import OpenK.AllK
import Wide.FinOn
import Open.Boot
import PyProof.NoPylong
import PyProof.TableCode
import PyProof.ExcFactsAll.ValueError
import PyProof.Conv_bool
import PyProof.RangeFor
import PyProof.Rows.Range3
import PyProof.IsiPairs
import Lean
import PySem.Challenge.RW_ij0139_01
set_option maxRecDepth 100000
set_option genSizeOfSpec false
set_option genInjectivity false
set_option genSizeOf false
set_option linter.all false
set_option tactic.hygienic false
set_option Elab.async false
namespace Mine
noncomputable section
@[elab_as_elim] theorem rwm {α:Sort u} {a b:α} {P:α→Prop} (h:a=b) (e:P b):P a:=h▸e
@[elab_as_elim] theorem rwn {α:Sort u} {a b:α} {P:α→Prop} (h:b=a) (e:P b):P a:=h▸e
theorem y03{A B C:Prop}(h0:A)(h1:B)(h2:C):A∧B∧C:=⟨h0,h1,h2⟩
theorem y04{A B C D:Prop}(h0:A)(h1:B)(h2:C)(h3:D):A∧B∧C∧D:=⟨h0,h1,h2,h3⟩
theorem y05{A B C D E:Prop}(h0:A)(h1:B)(h2:C)(h3:D)(h4:E):A∧B∧C∧D∧E:=⟨h0,h1,h2,h3,h4⟩
theorem y11{A:a→Prop}(x:a)(h0:A x):∃x,A x:=⟨x,h0⟩
theorem y12{A B:a→Prop}(x:a)(h0:A x)(h1:B x):∃x,A x∧B x:=⟨x,h0,h1⟩
theorem y13{A B C:a→Prop}(x:a)(h0:A x)(h1:B x)(h2:C x):∃x,A x∧B x∧C x:=⟨x,h0,h1,h2⟩
theorem y14{A B C D:a→Prop}(x:a)(h0:A x)(h1:B x)(h2:C x)(h3:D x):∃x,A x∧B x∧C x∧D x:=⟨x,h0,h1,h2,h3⟩
theorem y21{A:a→b→Prop}(x:a)(y:b)(h0:A x y):∃x y,A x y:=⟨x,y,h0⟩
theorem y22{A B:a→b→Prop}(x:a)(y:b)(h0:A x y)(h1:B x y):∃x y,A x y∧B x y:=⟨x,y,h0,h1⟩
theorem y23{A B C:a→b→Prop}(x:a)(y:b)(h0:A x y)(h1:B x y)(h2:C x y):∃x y,A x y∧B x y∧C x y:=⟨x,y,h0,h1,h2⟩
theorem y24{A B C D:a→b→Prop}(x:a)(y:b)(h0:A x y)(h1:B x y)(h2:C x y)(h3:D x y):∃x y,A x y∧B x y∧C x y∧D x y:=⟨x,y,h0,h1,h2,h3⟩
theorem y32{A B:a→b→c→Prop}(x:a)(y:b)(z:c)(h0:A x y z)(h1:B x y z):∃x y z,A x y z∧B x y z:=⟨x,y,z,h0,h1⟩
theorem y34{A B C D:a→b→c→Prop}(x:a)(y:b)(z:c)(h0:A x y z)(h1:B x y z)(h2:C x y z)(h3:D x y z):∃x y z,A x y z∧B x y z∧C x y z∧D x y z:=⟨x,y,z,h0,h1,h2,h3⟩
theorem x02{A B:Prop}{Z:Prop}(h:A∧B)(k:A→B→Z):Z:=k h.1 h.2
theorem x03{A B C:Prop}{Z:Prop}(h:A∧B∧C)(k:A→B→C→Z):Z:=k h.1 h.2.1 h.2.2
theorem x04{A B C D:Prop}{Z:Prop}(h:A∧B∧C∧D)(k:A→B→C→D→Z):Z:=k h.1 h.2.1 h.2.2.1 h.2.2.2
theorem x05{A B C D E:Prop}{Z:Prop}(h:A∧B∧C∧D∧E)(k:A→B→C→D→E→Z):Z:=k h.1 h.2.1 h.2.2.1 h.2.2.2.1 h.2.2.2.2
theorem x11{A:a→Prop}{Z:Prop}(h:∃x,A x)(k:∀x,A x→Z):Z:=h.elim k
theorem x12{A B:a→Prop}{Z:Prop}(h:∃x,A x∧B x)(k:∀x,A x→B x→Z):Z:=h.elim fun x h=>x02 h (k x)
theorem x13{A B C:a→Prop}{Z:Prop}(h:∃x,A x∧B x∧C x)(k:∀x,A x→B x→C x→Z):Z:=h.elim fun x h=>x03 h (k x)
theorem x14{A B C D:a→Prop}{Z:Prop}(h:∃x,A x∧B x∧C x∧D x)(k:∀x,A x→B x→C x→D x→Z):Z:=h.elim fun x h=>x04 h (k x)
theorem x15{A B C D E:a→Prop}{Z:Prop}(h:∃x,A x∧B x∧C x∧D x∧E x)(k:∀x,A x→B x→C x→D x→E x→Z):Z:=h.elim fun x h=>x05 h (k x)
theorem x21{A:a→b→Prop}{Z:Prop}(h:∃x y,A x y)(k:∀x y,A x y→Z):Z:=h.elim fun x h=>x11 h (k x)
theorem x22{A B:a→b→Prop}{Z:Prop}(h:∃x y,A x y∧B x y)(k:∀x y,A x y→B x y→Z):Z:=h.elim fun x h=>x12 h (k x)
theorem x23{A B C:a→b→Prop}{Z:Prop}(h:∃x y,A x y∧B x y∧C x y)(k:∀x y,A x y→B x y→C x y→Z):Z:=h.elim fun x h=>x13 h (k x)
theorem x24{A B C D:a→b→Prop}{Z:Prop}(h:∃x y,A x y∧B x y∧C x y∧D x y)(k:∀x y,A x y→B x y→C x y→D x y→Z):Z:=h.elim fun x h=>x14 h (k x)
theorem x25{A B C D E:a→b→Prop}{Z:Prop}(h:∃x y,A x y∧B x y∧C x y∧D x y∧E x y)(k:∀x y,A x y→B x y→C x y→D x y→E x y→Z):Z:=h.elim fun x h=>x15 h (k x)
theorem x32{A B:a→b→c→Prop}{Z:Prop}(h:∃x y z,A x y z∧B x y z)(k:∀x y z,A x y z→B x y z→Z):Z:=h.elim fun x h=>x22 h (k x)
theorem x33{A B C:a→b→c→Prop}{Z:Prop}(h:∃x y z,A x y z∧B x y z∧C x y z)(k:∀x y z,A x y z→B x y z→C x y z→Z):Z:=h.elim fun x h=>x23 h (k x)
theorem x34{A B C D:a→b→c→Prop}{Z:Prop}(h:∃x y z,A x y z∧B x y z∧C x y z∧D x y z)(k:∀x y z,A x y z→B x y z→C x y z→D x y z→Z):Z:=h.elim fun x h=>x24 h (k x)
theorem x43{A B C:a→b→c→d→Prop}{Z:Prop}(h:∃x y z w,A x y z w∧B x y z w∧C x y z w)(k:∀x y z w,A x y z w→B x y z w→C x y z w→Z):Z:=h.elim fun x h=>x33 h (k x)
theorem x44{A B C D:a→b→c→d→Prop}{Z:Prop}(h:∃x y z w,A x y z w∧B x y z w∧C x y z w∧D x y z w)(k:∀x y z w,A x y z w→B x y z w→C x y z w→D x y z w→Z):Z:=h.elim fun x h=>x34 h (k x)
set_option compiler.extract_closed false
def mN (c : String) (e m : Nat) : Lean.Term := Lean.mkIdent (.mkSimple (c ++ e.repr ++ m.repr))
def mF (g : Nat → Lean.TSyntax `tactic) (n : Nat) (r : Lean.TSyntax `tactic) : Lean.MacroM Lean.Syntax := do pure (← (List.range n).foldrM (fun e (r : Lean.TSyntax `tactic) => `(tactic| first | $(g e):tactic | $r:tactic)) r).raw
def mA (s : Lean.Syntax) : Lean.MacroM Lean.Syntax :=
  if s[1].isOfKind ``Lean.Parser.Term.anonymousCtor then
    let a := s[1][1].getSepArgs
    mF (fun e => ⟨s.setArg 1 (Lean.Syntax.mkApp (mN "y" e (a.size - e)) ⟨a.toList.map .mk⟩)⟩) a.size ⟨s.setArg 1 (Lean.mkNode ``Lean.Parser.Term.paren #[Lean.mkAtom "(", s[1], Lean.mkAtom ")"])⟩
  else Lean.Macro.throwUnsupported
local macro_rules (kind := Lean.Parser.Tactic.exact) | s => mA s
local macro_rules (kind := Lean.Parser.Tactic.refine) | s => mA s
local macro_rules (kind := Lean.Parser.Tactic.obtain)
  | s => do
    let p := s[1][0][0][0]
    if p.isOfKind ``Lean.Parser.Tactic.rcasesPat.tuple then
      let a := p[1].getSepArgs
      let h : Lean.Term := ⟨s[3][1][0]⟩
      let b ← `(tactic| ((try clear ($h)); $(⟨Lean.mkNode ``Lean.Parser.Tactic.rintro #[Lean.mkAtom "rintro", Lean.mkNullNode (a.map fun q => Lean.mkNode ``Lean.Parser.Tactic.rintroPat.one #[Lean.mkNode ``Lean.Parser.Tactic.rcasesPat.paren #[Lean.mkAtom "(", q, Lean.mkAtom ")"]]), Lean.mkNullNode]⟩):tactic))
      let g ← `(tactic| refine ?_)
      mF (fun e => ⟨Lean.mkNode ``Lean.Parser.Tactic.paren #[Lean.mkAtom "(", Lean.mkNode ``Lean.Parser.Tactic.tacticSeq #[Lean.mkNode ``Lean.Parser.Tactic.tacticSeq1Indented #[Lean.mkNullNode #[g.raw.setArg 1 (Lean.Syntax.mkApp (mN "x" e (a.size - e)) #[h, ⟨g.raw[1]⟩]), Lean.mkNullNode, b]]], Lean.mkAtom ")"]⟩) a.size ⟨s.setArg 1 (Lean.mkNullNode #[Lean.mkNode ``Lean.Parser.Tactic.rcasesPatMed #[Lean.mkNullNode #[Lean.mkNode ``Lean.Parser.Tactic.rcasesPat.paren #[Lean.mkAtom "(", Lean.mkNode ``Lean.Parser.Tactic.rcasesPatLo #[s[1][0], Lean.mkNullNode], Lean.mkAtom ")"]]]])⟩
    else Lean.Macro.throwUnsupported
def mR (l : List Lean.Syntax) (z : Lean.TSyntax `tactic) : Lean.MacroM (Lean.TSyntax `tactic) := l.foldrM (fun r (z : Lean.TSyntax `tactic) => do
    let w : Lean.TSyntax `tactic := ⟨Lean.mkNode ``Lean.Parser.Tactic.rewriteSeq #[Lean.mkAtom "rewrite", Lean.mkNode ``Lean.Parser.Tactic.optConfig #[Lean.mkNullNode], Lean.mkNode ``Lean.Parser.Tactic.rwRuleSeq #[Lean.mkAtom "[", Lean.mkNullNode #[r], Lean.mkAtom "]"], Lean.mkNullNode]⟩
    let f : Lean.Term := Lean.mkIdent (if r[0].getNumArgs == 0 then `rwm else `rwn)
    let t : Lean.Term := ⟨r[1]⟩
    let k (x : Lean.Syntax) := x.isOfKind ``Lean.Parser.Term.syntheticHole || x.isOfKind ``Lean.Parser.Term.fun || x.isOfKind ``Lean.Parser.Term.byTactic
    let x ← if (t.raw.find? k).isSome then pure w else `(tactic| first | with_reducible refine $f $t ?_ | with_reducible refine $f ($t ..) ?_ | $w:tactic)
    `(tactic| ($x:tactic; $z:tactic))) z
local macro_rules (kind := Lean.Parser.Tactic.rwSeq)
  | s => do
    if s[3].getNumArgs == 0 then mR s[2][1].getSepArgs.toList (← `(tactic| try (with_reducible rfl))) else Lean.Macro.throwUnsupported
local macro_rules (kind := Lean.Parser.Tactic.cases)
  | s => do
    let e : Lean.Ident := ⟨s[1][0][1]⟩
    if s[1].getNumArgs + s[2].getNumArgs + s[3].getNumArgs == 1 && e.raw.isIdent then
      `(tactic| first | subst $e:ident | (injection $e:ident; done) | (injection $e with e1; subst e1) | (injection $e with e1 e2; subst e1; subst e2) | cases ($e))
    else Lean.Macro.throwUnsupported
section
open PySem PySem.W PyProof.Rows
theorem Gr:typeLookup (.type "ValueError") "__class__"=pure (some (.builtin "object.__class__")):=by rw[typeLookup_type,builtinLookup_eq_fast];kernel_rfl
theorem JM:isSubtype (.type "ValueError") (.type (".".intercalate ("object.__class__".cutAt '.').dropLast))=pure true:=by rw[PySem.F.owner_object_class,isSubtype_type];kernel_rfl
theorem rD:Slot "ValueError" "__getattribute__" "BaseException.__getattribute__":=
 .of (owner:="BaseException") (n:="__getattribute__") (by rw[typeLookup_type,builtinLookup_eq_fast];kernel_rfl) (by decide +kernel) (by decide +kernel) (by decide +kernel)
  (by first|exact .inl (by decide +kernel)|exact .inr (by decide +kernel)) (by rw[isSubtype_type];kernel_rfl)
theorem IM:entryFor table "BaseException.__getattribute__"=some Builtin.«object.__getattribute__»:=
 entryFor_alias (id':="object.__getattribute__") (by kernel_rfl) (by first|rfl|decide +kernel) (by decide +kernel) (by kernel_rfl)
theorem GQ(a b:Value):argsOk "BaseException.__getattribute__" ⟨[a,b],[]⟩:=by unfold argsOk;kernel_rfl
section
variable{prog:Program}{w:World}{A:Around}{E:Value->Shared->Prop}{h:Heap}{g:Array GenState}{d:Drawn}{t:Nat}{os:OsState}{a:Addr}{o:Obj}
theorem Cf{R:Result->Shared->Prop}(hx:h.get? a=some o)(hc:o.cls=.type "ValueError")(hq:R (.ok (.ret (.type "ValueError"))) ⟨h,g,d,t,os⟩):
  codeAny (model prog w) A (.call (.builtin "getset_descriptor.__get__") ⟨[.builtin "object.__class__",.ref a,.type "ValueError"],[]⟩) R ⟨h,g,d,t,os⟩:=by
 haveI hT:(⟨h,g,d,t,os⟩:Shared).TypeIs (.ref a) "ValueError":=⟨_,hx,hc⟩;haveI hT5:(⟨h,g,d,t,os⟩:Shared).TypeIs (.builtin "object.__class__") "getset_descriptor":=PySem.F.typeOf_object_class;haveI f8:=JM;refine codeAny_call_builtin PySem.F.slot_gs_get.plain PySem.F.entry_gs_get (PySem.F.slot_gs_get.check _ _ _ _ _ _ _ _ hT5 (PySem.F.args_gs_get _ _ _) ?_)
 repeat (any_goals (first|assumption|wp_step))
 refine⟨Code.quiet_builtin _ (by decide +kernel),codeAny_builtin PySem.F.entry_object_class ?_⟩
 repeat (any_goals (first|assumption|wp_step))
theorem EP(hx:h.get? a=some o)(hc:o.cls=.type "ValueError")(hq:Q (.done (.ret (.type "ValueError"))) ⟨h,g,d,t,os⟩):
  wpAny (model prog w) A (Builtin.«object.__getattribute__» ⟨[.ref a,.str "__class__" tk],[]⟩) Q E ⟨h,g,d,t,os⟩:=by
 haveI hT:(⟨h,g,d,t,os⟩:Shared).TypeIs (.ref a) "ValueError":=⟨_,hx,hc⟩;haveI hT5:(⟨h,g,d,t,os⟩:Shared).TypeIs (.builtin "object.__class__") "getset_descriptor":=PySem.F.typeOf_object_class;haveI f4:=Gr;haveI f5:=PySem.F.typeOf_object_class;haveI f6:=PySem.F.slot_gs_get.lookup;haveI f7:=PySem.F.slot_gs_set.lookup
 repeat (any_goals (first|assumption|wp_step))
 refine Cf hx hc ?_
 repeat (any_goals (first|assumption|wp_step))
theorem Hy(hx:h.get? a=some o)(hc:o.cls=.type "ValueError")(hq:R (.ok (.ret (.type "ValueError"))) ⟨h,g,d,t,os⟩):
  codeAny (model prog w) A (.call (.builtin "BaseException.__getattribute__") ⟨[.ref a,.str "__class__" tk],[]⟩) R ⟨h,g,d,t,os⟩:=
 codeAny_call_builtin rD.plain IM (rD.check _ _ _ _ _ _ _ _ (show(⟨h,g,d,t,os⟩:Shared).TypeIs (.ref a) "ValueError" from⟨_,hx,hc⟩) (GQ _ _) (EP hx hc hq))
theorem J4(hx:h.get? a=some o)(hc:o.cls=.type "ValueError")(hq:Q (.type "ValueError") ⟨h,g,d,t,os⟩):wpAny (model prog w) A (getAttrBy (.ref a) (.str "__class__" tk) false) Q E ⟨h,g,d,t,os⟩:=by
 haveI hT:(⟨h,g,d,t,os⟩:Shared).TypeIs (.ref a) "ValueError":=⟨_,hx,hc⟩;haveI f2:=rD.lookup;haveI f3:=rD.bind (.ref a)
 repeat (any_goals (first|assumption|wp_step))
 refine Hy hx hc ?_
 repeat (any_goals (first|assumption|wp_step))
theorem Cu{Q:Option Value->Shared->Prop}(hx:h.get? a=some o)(hc:o.cls=.type "ValueError")(hq:Q (some (.type "ValueError")) ⟨h,g,d,t+1,os⟩):wpAny (model prog w) A (getAttr? (.ref a) "__class__") Q E ⟨h,g,d,t,os⟩:=by
 unfold getAttr? getAttrBy?
 repeat (any_goals (first|assumption|with_reducible apply J4 hx hc|wp_step))
end
theorem Jo{K:Frag}:KitX K (.ref a) (.type "ValueError") (KitAt a "ValueError"):=
 kitx_of kitAt_ty (fun{_ _ _ _ _ s}p k=>by obtain⟨h,g,d,t,os⟩:=s;obtain⟨o,h1,h2⟩:=p;exact Cu h1 h2 k)
end
section
open PySem
inductive F where
|none|bool (b:Bool)|int (i:Int)|str (s:Str)
|list (xs:List F)|tup (xs:List F)|dict (es:List (Str×F))
|rng (a b c:Int)|fn (k:Nat)|bi (n:Str)|star (k:Nat)
inductive P where
|loc (i:Nat)|self|n2i|nd (x:Str)|suc (x:Str)|rd
inductive V where
|f (x:F)|p (p:P)|bnd (i:Nat)|vals|dview (es:List (Str×F))|lam
inductive AO where
|list (xs:List F)|dict (es:List (Str×F))|dl (es:List (Str×Nat))
|set (xs:List Str)|iters (its:List (Str×Nat))|itersD (its:List (Str×Nat))
structure aZ where
 np:Int
 succ:List Str
structure bW where
 n2i:List (Str×aZ)
 ready:Option (List Str)
 npo:Int
 nfin:Int
 pend:Option Str
inductive X where
|value (msg:Str)|cycle|stop
structure Sx where
 l:List (Str×V)
 q:Option bW
 h:List AO
 st:Nat:=0
inductive aG(α:Type) where
|ok (a:α) (s:Sx)|exc (x:X) (s:Sx)|bad
inductive Fl where
|next|brk|cont|ret (v:V)
noncomputable def jW:List Nat->List Nat->Bool
|[],[]=>true
|a::x,b::y=>match Nat.beq a b with
 |true=>jW x y
 |false=>false
|_,_=>false
noncomputable def ah(a b:Str):Bool:=jW a.cps.toList b.cps.toList
noncomputable def ad:List (Str×α)->Str->Option α
|[],_=>none
|(y,a)::r,x=>match ah x y with
 |true=>some a
 |false=>ad r x
noncomputable def ag:List (Str×α)->Str->α->List (Str×α)
|[],x,a=>[(x,a)]
|(y,b)::r,x,a=>match ah x y with
 |true=>(y,a)::r
 |false=>(y,b)::ag r x a
structure Ev where
 names:List (Str×NameKind)
 free:List (Str×V)
structure Fn where
 params:Arguments
 body:List Stmt
 scope:Scope
noncomputable def Kt(n:Str):Stmt->Option Fn
|.FunctionDef m a b _ _ _ s _ _ _=>match ah n m with
 |true=>some ⟨a,b,s⟩
 |false=>none
|_=>none
noncomputable def rn(n:Str):List Stmt->Option Fn
|[]=>none
|st::r=>match Kt n st with
 |some f=>some f
 |none=>rn n r
noncomputable def qJ(c:Str):List Stmt->List Stmt
|[]=>[]
|.ClassDef m _ _ b _ _ _ _ _ _ _::r=>match ah c m with
 |true=>b
 |false=>qJ c r
|_::r=>qJ c r
noncomputable def jU:Fn:=⟨⟨[],[],none,[],[],none,[]⟩,[],⟨.function,[],false,false,[]⟩⟩
noncomputable def bp(n:Str):Fn:=match rn n PySem.Challenge.pw_ij0139_01.main.body with
|some f=>f
|none=>jU
noncomputable def fh(n:Str):Fn:=match rn n (qJ "TopologicalSorter" PySem.Challenge.pw_ij0139_01.main.body)with
|some f=>f
|none=>jU
noncomputable def du(c:Str):Fn:=match rn "__init__" (qJ c PySem.Challenge.pw_ij0139_01.main.body)with
|some f=>f
|none=>jU
noncomputable def eU:List (Str×Fn):=[
 ("_law_steps",bp "_law_steps"),("_law_deed",bp "_law_deed"),("_law_ring",bp "_law_ring"),("_law_runs",bp "_law_runs"),
 ("_law_reads",bp "_law_reads"),("_law_takes",bp "_law_takes"),("_law_free",bp "_law_free"),("_law_refusal",bp "_law_refusal"),
 ("_law_words",bp "_law_words"),("_law_obeys",bp "_law_obeys"),("law",bp "law"),
 ("translate",bp "translate"),("_translate",bp "_translate"),("_join_translated_parts",bp "_join_translated_parts"),("escape",bp "escape"),
 ("TopologicalSorter",jU),("_NodeInfo",jU),("CycleError",jU),
 ("add",fh "add"),("prepare",fh "prepare"),("get_ready",fh "get_ready"),("is_active",fh "is_active"),("done",fh "done"),
 ("_get_nodeinfo",fh "_get_nodeinfo"),("_find_cycle",fh "_find_cycle")]
noncomputable def ql:List (Str×Nat):=[("_law_steps",0),("_law_deed",1),("_law_ring",2),("_law_runs",3),("_law_reads",4),("_law_takes",5),("_law_free",6),("_law_refusal",7),
 ("_law_words",8),("_law_obeys",9),("law",10),("translate",11),("_translate",12),("_join_translated_parts",13),("escape",14),("TopologicalSorter",15),("_NodeInfo",16),("CycleError",17)]
noncomputable def gP:List (Str×Nat):=[("add",18),("prepare",19),("get_ready",20),("is_active",21),("done",22),("_get_nodeinfo",23),("_find_cycle",24)]
noncomputable def builtins:List Str:=["len","range","sum","set","iter","tuple","bool","isinstance","str","object","ValueError","StopIteration","_twin_re_1","_special_chars_map"]
noncomputable def aO:List Str->Str->Bool
|[],_=>false
|y::r,x=>match ah x y with
 |true=>true
 |false=>aO r x
noncomputable def glob(x:Str):Option V:=match ad ql x with
|some k=>some (.f (.fn k))
|none=>match ah x "_NODE_OUT" with
 |true=>some (.f (.int (-1)))
 |false=>match ah x "_NODE_DONE" with
  |true=>some (.f (.int (-2)))
  |false=>match aO builtins x with
   |true=>some (.f (.bi x))
   |false=>none
noncomputable def om:List Str->Bool
|[]=>true
|x::r=>match aO r x with
 |true=>false
 |false=>om r
noncomputable def aw:Nat:=100000
noncomputable def place(n:Nat)(i:Int):Option Nat:=match i with
|.ofNat k=>match Nat.ble k aw with
 |true=>some k
 |false=>none
|.negSucc k=>match Nat.ble (k+1) n,Nat.ble k aw with
 |true,true=>some (n-(k+1))
 |_,_=>none
noncomputable def uo(n:Nat)(i:Int):Nat:=match i with
|.ofNat k=>Nat.min k n
|.negSucc k=>n-(k+1)
noncomputable def cut(xs:List α)(lo hi:Option Int):List α:=
 let a:=match lo with|some i=>uo xs.length i|none=>0
 let b:=match hi with|some i=>uo xs.length i|none=>xs.length
 (xs.take b).drop a
noncomputable def dH(s:Str)(lo hi:Option Int):Str:=⟨(cut s.cps.toList lo hi).toArray⟩
noncomputable def eh(xs:List α):Nat->List α
|0=>[]
|n+1=>xs++eh xs n
noncomputable def eV(a b:Str):Str:=⟨(a.cps.toList++b.cps.toList).toArray⟩
noncomputable def lV:List F->Int->Option Int
|[],acc=>some acc
|.int i::r,acc=>lV r (acc+i)
|_::_,_=>none
noncomputable def A5:V->Option F
|.f x=>some x
|_=>none
noncomputable def bc:List α->Nat->α->List α
|[],_,_=>[]
|_::r,0,a=>a::r
|x::r,n+1,a=>x::bc r n a
noncomputable def aq:List α->Nat->Option α
|[],_=>none
|x::_,0=>some x
|_::r,n+1=>aq r n
noncomputable def fP:List (Str×Nat)->Nat->Bool
|[],_=>false
|(_,k)::r,j=>match Nat.beq k j with
 |true=>true
 |false=>fP r j
noncomputable def sH(o:Option AO)(j:Nat):Bool:=match o with
|some (.dl es)=>fP es j
|_=>false
noncomputable def refs(i:Nat):V->Bool
|.p (.loc j)=>Nat.beq i j
|.bnd j=>Nat.beq i j
|_=>false
noncomputable def noRef(i:Nat):List (Str×V)->Bool
|[]=>true
|(_,v)::r=>match refs i v with
 |true=>false
 |false=>noRef i r
end
section
open PySem PySem.W PyProof.Rows PySem.SeqAt
structure aN where
 prog:Program
 w:World
 B:Heap
 tabs:List (Addr×Addr)
 fa:Nat->Addr
 blt:Str->Option Value
 os:OsState
 K:Frag
noncomputable def aN.tabA(b:aN):List Addr:=b.tabs.map (·.2)
noncomputable abbrev aN.M(b:aN):Model:=model b.prog b.w
noncomputable abbrev aN.kd(b:aN):=PySem.strKind b.prog b.w
noncomputable abbrev aV(xs:List Value)(n:Nat):Obj:={cls:=.type "list",data:=.seq xs.toArray n}
noncomputable abbrev iN(xs:List Value)(n:Nat):Obj:={cls:=.type "tuple",data:=.seq xs.toArray n}
noncomputable abbrev ng(id:String)(self:Value)(T:String):Obj:={cls:=.type T,data:=.fields #[.builtin id,self]}
noncomputable def DictO(b:aN)(o:Obj)(kvs:List (Str×Value)):Prop:=∃es ep,o.ExactDict/\o.data=.dict es ep/\PySem.KeysOf b.kd es/\PySem.Pairs b.kd es.toList kvs/\(kvs.map (·.1)).Nodup
theorem DictO.at{h:Heap}(x:DictO b o kvs)(e:h.get? a=some o):h.DictOf b.kd a kvs:=let ⟨es,ep,r⟩:=x;⟨o,es,ep,e,r⟩
theorem DictO.of{h:Heap}(x:h.DictOf b.kd a kvs):∃o,h.get? a=some o/\DictO b o kvs:=let ⟨o,es,ep,e,r⟩:=x;⟨o,e,es,ep,r⟩
structure Z where
 f:Addr->Option Obj
 st:Nat->Option Addr
structure Z.Le(z z':Z):Prop where
 f:∀a o,z.f a=some o->z'.f a=some o
 st:∀k a,z.st k=some a->z'.st k=some a
theorem Z.Le.refl(z:Z):z.Le z:=⟨fun u_ u_ h=>h,fun u_ u_ h=>h⟩
theorem Z.Le.trans{z z' z'':Z}(x:z.Le z')(y:z'.Le z''):z.Le z'':=⟨fun a o h=>y.f a o (x.f a o h),fun k a h=>y.st k a (x.st k a h)⟩
noncomputable def dA:Value->Tok
|.int _ t=>t
|.str _ t=>t
|_=>0
inductive lm(z:Z)(T:String)(v:Value)(vs:List Value):Prop
|mk (a:Addr) (n:Nat):v=.ref a->z.f a=some {cls:=.type T,data:=.seq vs.toArray n}->lm z T v vs
inductive n9(b:aN)(z:Z)(v:Value)(kvs:List (Str×Value)):Prop
|mk (a:Addr) (o:Obj):v=.ref a->(a==sysModules)=false->z.f a=some o->DictO b o kvs->n9 b z v kvs
inductive lQ(z:Z)(i j k:Int)(v:Value):Prop
|mk (a:Addr) (t u w:Tok):v=.ref a->z.f a=some {cls:=.type "range",data:=.fields #[.int i t,.int j u,.int k w]}->lQ z i j k v
inductive lI(z:Z)(k:Nat)(v:Value):Prop
|mk (a:Addr):v=.ref a->z.st k=some a->lI z k v
mutual
noncomputable def FR(b:aN)(z:Z)(x:F)(v:Value):Prop:=match x with
|.none=>v=.none
|.bool k=>v=.bool k
|.int i=>v=.int i (dA v)
|.str t=>v=.str t (dA v)
|.list xs=>∃vs,lm z "list" v vs/\FRs b z xs vs
|.tup xs=>∃vs,lm z "tuple" v vs/\FRs b z xs vs
|.dict es=>∃kvs,n9 b z v kvs/\DRs b z es kvs
|.rng i j k=>lQ z i j k v
|.fn k=>v=.ref (b.fa k)
|.bi n=>b.blt n=some v
|.star k=>lI z k v
noncomputable def FRs(b:aN)(z:Z)(xs:List F)(vs:List Value):Prop:=match xs with
|[]=>vs=[]
|x::xs=>∃v us,vs=v::us/\FR b z x v/\FRs b z xs us
noncomputable def DRs(b:aN)(z:Z)(es:List (Str×F))(kvs:List (Str×Value)):Prop:=match es with
|[]=>kvs=[]
|(k,x)::es=>∃v r,kvs=(k,v)::r/\FR b z x v/\DRs b z es r
end
theorem lm.mono(s:z.Le z')(h:lm z T v vs):lm z' T v vs:=by cases h with|mk a n e h=>exact⟨a,n,e,s.f _ _ h⟩
theorem n9.mono(s:z.Le z')(h:n9 b z v kvs):n9 b z' v kvs:=by cases h with|mk a o e h1 h2 h3=>exact⟨a,o,e,h1,s.f _ _ h2,h3⟩
theorem lQ.mono(s:z.Le z')(h:lQ z i j k v):lQ z' i j k v:=by cases h with|mk a t u w e h=>exact⟨a,t,u,w,e,s.f _ _ h⟩
theorem lI.mono(s:z.Le z')(h:lI z k v):lI z' k v:=by cases h with|mk a e h=>exact⟨a,e,s.st _ _ h⟩
mutual
theorem FR.mono(s:z.Le z')(h:FR b z x v):FR b z' x v:=match x,h with
|.none,h=>h
|.bool _,h=>h
|.int _,h=>h
|.str _,h=>h
|.list _,h=>h.imp fun u_ r=>⟨r.1.mono s,FRs.mono s r.2⟩
|.tup _,h=>h.imp fun u_ r=>⟨r.1.mono s,FRs.mono s r.2⟩
|.dict _,h=>h.imp fun u_ r=>⟨r.1.mono s,DRs.mono s r.2⟩
|.rng _ _ _,h=>lQ.mono s h
|.fn _,h=>h
|.bi _,h=>h
|.star _,h=>lI.mono s h
theorem FRs.mono(s:z.Le z')(h:FRs b z xs vs):FRs b z' xs vs:=match xs,h with
|[],h=>h
|_::_,h=>h.imp fun u_ h=>h.imp fun u_ r=>⟨r.1,FR.mono s r.2.1,FRs.mono s r.2.2⟩
theorem DRs.mono(s:z.Le z')(h:DRs b z es kvs):DRs b z' es kvs:=match es,h with
|[],h=>h
|(_,_)::_,h=>h.imp fun u_ h=>h.imp fun u_ r=>⟨r.1,FR.mono s r.2.1,DRs.mono s r.2.2⟩
end
inductive aE where
|p (p:P)|L|cell (n:Str)|sub (i k:Nat)|sd|ndd (x:Str)|tab (k:Nat)|exc (k:Nat)
structure Gh where
 z:Z
 at_:aE->Option Addr
 ob:aE->Obj
noncomputable def eY(o:Obj):Nat:=match o.data with
|.dict es _=>es.size
|_=>0
noncomputable def Dg(o o':Obj):Prop:=o'=o\/eY o < eY o'
theorem Dg.trans(x:Dg o o')(y:Dg o' o''):Dg o o'':=by
 rcases x with rfl|x
 ·exact y
 ·rcases y with rfl|y
  ·exact .inr x
  ·exact .inr (Nat.lt_trans x y)
structure Gh.Le(g g':Gh):Prop where
 z:g.z.Le g'.z
 n:∀a,g.at_ (.p .n2i)=some a->Dg (g.ob (.p .n2i)) (g'.ob (.p .n2i))
 p:∀p a,g.at_ (.p p)=some a->g'.at_ (.p p)=some a
theorem Gh.Le.refl(g:Gh):g.Le g:=⟨.refl _,fun u_ u_=>.inl rfl,fun u_ u_ h=>h⟩
theorem Gh.Le.trans{g g' g'':Gh}(x:g.Le g')(y:g'.Le g''):g.Le g'':=⟨x.z.trans y.z,fun a h=>(x.n a h).trans (y.n a (x.p _ a h)),fun p a h=>y.p p a (x.p p a h)⟩
inductive g8(g:Gh)(p:P)(v:Value):Prop
|mk (a:Addr):v=.ref a->g.at_ (.p p)=some a->g8 g p v
inductive lH(g:Gh)(i:Nat)(v:Value):Prop
|mk (a q:Addr):v=.ref q->g.at_ (.p (.loc i))=some a->g.z.f q=some (ng "list.append" (.ref a) "builtin_function_or_method")->lH g i v
inductive mf(g:Gh)(v:Value):Prop
|mk (a q:Addr):v=.ref q->g.at_ (.p .n2i)=some a->g.z.f q=some {cls:=.type "dict_values",data:=.fields #[.ref a]}->mf g v
inductive mJ(b:aN)(z:Z)(v:Value)(kvs:List (Str×Value)):Prop
|mk (q d:Addr) (o:Obj):v=.ref q->z.f q=some {cls:=.type "dict_values",data:=.fields #[.ref d]}->z.f d=some o->DictO b o kvs->mJ b z v kvs
inductive lM(z:Z)(v:Value):Prop
|mk (l:Addr) (o:Obj):v=.ref l->z.f l=some o->o.cls=.type "function"->lM z v
noncomputable def VV(b:aN)(g:Gh)(x:V)(v:Value):Prop:=match x with
|.f x=>FR b g.z x v
|.p p=>g8 g p v
|.bnd i=>lH g i v
|.vals=>mf g v
|.dview es=>∃kvs,mJ b g.z v kvs/\DRs b g.z es kvs
|.lam=>lM g.z v
theorem g8.mono(s:g.Le g')(h:g8 g p v):g8 g' p v:=by cases h with|mk a e h=>exact⟨a,e,s.p _ _ h⟩
theorem lH.mono(s:g.Le g')(h:lH g i v):lH g' i v:=by cases h with|mk a q e h r=>exact⟨a,q,e,s.p _ _ h,s.z.f _ _ r⟩
theorem mf.mono(s:g.Le g')(h:mf g v):mf g' v:=by cases h with|mk a q e h r=>exact⟨a,q,e,s.p _ _ h,s.z.f _ _ r⟩
theorem mJ.mono(s:z.Le z')(h:mJ b z v kvs):mJ b z' v kvs:=by cases h with|mk q d o e h r t=>exact⟨q,d,o,e,s.f _ _ h,s.f _ _ r,t⟩
theorem lM.mono(s:z.Le z')(h:lM z v):lM z' v:=by cases h with|mk l o e h r=>exact⟨l,o,e,s.f _ _ h,r⟩
theorem VV.mono(s:g.Le g')(h:VV b g x v):VV b g' x v:=match x,h with
|.f _,h=>FR.mono s.z h
|.p _,h=>g8.mono s h
|.bnd _,h=>lH.mono s h
|.vals,h=>mf.mono s h
|.dview _,h=>h.imp fun u_ r=>⟨r.1.mono s.z,DRs.mono s.z r.2⟩
|.lam,h=>lM.mono s.z h
theorem i9:ad ((y,a)::r) x=match ah x y with
|true=>some a
|false=>ad r x:=rfl
theorem gf:ag ((y,b)::r) x a=match ah x y with
|true=>(y,a)::r
|false=>(y,b)::ag r x a:=rfl
theorem D0:jW x x=true:=by
 induction x with
|nil=>rfl
|cons a x ih=>show(match Nat.beq a a with|true=>jW x x|false=>false)=true;rw[Nat.beq_refl];exact ih
theorem CY:∀{y:List Nat},jW x y=true->x=y:=by
 induction x with
|nil=>intro y h;cases y with
 |nil=>rfl
 |cons b y=>exact absurd (show false=true from h) Bool.false_ne_true
|cons a x ih=>intro y h;cases y with
 |nil=>exact absurd (show false=true from h) Bool.false_ne_true
 |cons b y=>
   haveI h:(match Nat.beq a b with|true=>jW x y|false=>false)=true:=h;cases q:Nat.beq a b with
  |true=>rw[q]at h;rw[Nat.eq_of_beq_eq_true q,ih h]
  |false=>rw[q]at h;exact absurd h Bool.false_ne_true
theorem CX:jW x y=true↔x=y:=⟨CY,fun h=>h▸D0⟩
theorem bD:ah a b=true↔a=b:=by
 unfold ah;rw[CX];constructor
 ·intro h;cases a;cases b;simp only[Str.mk.injEq];exact Array.toList_inj.mp h
 ·rintro rfl;rfl
theorem bU(a:Str):ah a a=true:=bD.mpr rfl
theorem gQ(h:a≠b):ah a b=false:=by
 cases q:ah a b with
|false=>rfl
|true=>exact absurd (bD.mp q) h
inductive oz(b:aN)(a:Addr)(f:Fn)(d:Value):Prop
|mk (o:Obj) (fd:FuncData) (c:Addr) (oc:Obj) (vs:Array Value) (t:Tok):b.B.get? a=some o->a∉b.tabA->o.data=.func fd->fd.scope=f.scope->fd.params=f.params->fd.body=.stmts f.body->fd.globals=mainGlobals->fd.builtins=builtinsNs ->
  fd.closure=[]->fd.defaults=d->fd.code=.ref c->b.B.get? c=some oc->c∉b.tabA->oc.data=.fields vs->vs[1]?=some (.str fd.qualname t)->oz b a f d
noncomputable abbrev wR(b:aN)(k:Nat)(f:Fn):Prop:=oz b (b.fa k) f .none
noncomputable def tK(b:aN)(C:Addr)(f:Fn)(d:Value):Prop:=makesIn b.K C=true/\∃a,findIn b.K (.ref C) "__init__"=some (some (.ref a))/\typeIn b.K (.ref a)=some (.type "function")/\oz b a f d
noncomputable def kU:List (Str×Value):=[("len",.builtin "len"),("range",.type "range"),("sum",.builtin "sum"),("set",.type "set"),("iter",.builtin "iter"),("tuple",.type "tuple"),("bool",.type "bool"),("isinstance",.builtin "isinstance"),
 ("str",.type "str"),("object",.type "object"),("ValueError",.type "ValueError"),("StopIteration",.type "StopIteration")]
noncomputable def iV:List Nat:=[14,14,4,1,1,9,0,64,0,1342177280,0,0,0,0,0,17,0,13,11,9,0,64,0,1342177280,0,0,0,0,0,17,1,1]
structure ib(b:aN):Prop where
 blts:∀p∈kU,b.blt p.1=some p.2
 keep:keepIn b.K (.ref (b.fa 15))=true/\keepIn b.K (.ref (b.fa 16))=true
 cyc:∃(nm q:Str)(N:Addr)(bs bm:List Value)(hd:Bool)(sn:List Str)(sub:List Value)(ab:Bool)(col:Option Bool)(dd:Option Addr)(k0 k1 k2 k3 k5:Option Value)(newId initId:String)(mN:Str->Option Value),
  b.B.get? (b.fa 17)=some (excClassObj nm q (b.fa 17) N bs bm hd sn sub ab col dd k0 k1 k2 k3 k5 newId)/\b.fa 17∉b.tabA/\b.B.Ns N mN/\mN "__init__"=none/\ExcBaseFacts "ValueError" newId initId bm
 cycNot:kitCls b.K (.type "ValueError") (.ref (b.fa 17))=some false
 bmod:∃mg bm ob,BMod b.B mainGlobals mg bm ob
 scm:∃a f,b.blt "_special_chars_map"=some (.ref a)/\b.B.MapOf (intKind b.prog b.w) a f/\(a==sysModules)=false/\a∉b.tabA/\(∃t,f 93=some (.str ⟨#[92,93]⟩ t))/\(∃t,f 124=some (.str ⟨#[92,124]⟩ t))/\f 33=none/\f 97=none
 twin:∃a T n pv fv,b.blt "_twin_re_1"=some (.ref a)/\b.B.get? a=some {cls:=.type "re.Pattern",data:=.fields #[pv,fv,rawInt 1,.none,.none,.ref T,rawInt 0]}/\IsT b.B T (iV.map fun(w:Nat)=>rawInt w).toArray n/\a∉b.tabA/\T∉b.tabA
 glob:∃mg mb,b.B.Ns mainGlobals mg/\b.B.Ns builtinsNs mb/\∀x v,glob x=some v->∃y val,v=.f y/\(mg x=some val\/(mg x=none/\mb x=some val))/\∀z,FR b z y val
 tabs:∀a∈b.tabA,∃vs,b.B.get? a=some {cls:=.none,data:=.fields vs}
 codes:∀p∈b.tabs,∃o,b.B.get? p.1=some o
 tabsNd:(b.tabs.map (·.2)).Nodup
 tabAt:∀p∈b.tabs,∃ps,b.B.TableAt p.1 p.2 ps
 coded:∀k nm f,aq eU k=some (nm,f)->k≠15->k≠16->k≠17->∃o fd c P,b.B.get? (b.fa k)=some o/\o.data=.func fd/\fd.code=.ref c/\(c,P)∈b.tabs
 nolimit:b.B.NoLimit
 sys:∃o,b.B.get? sysModules=some o
 fn:∀k nm f,aq eU k=some (nm,f)->k≠15->k≠16->k≠17->wR b k f
 kIn:∀a o,b.K.lookup a=some o->b.B.get? a=some o/\a∉b.tabA
 sInit:∃d,tK b (b.fa 15) (du "TopologicalSorter") (.ref d)/\IsT b.B d #[.none] 0/\d∉b.tabA
 nInit:tK b (b.fa 16) (du "_NodeInfo") .none
 sGet:plainGet b.K (b.fa 15) ""=true
 sSet:findIn b.K (.ref (b.fa 15)) "__setattr__"=some (some (.builtin "object.__setattr__"))
 sOver:plainOver b.K (b.fa 15)=true
 sDict:hasDictIn b.K (b.fa 15)=true
 sName:∀n∈(["_node2info","_ready_nodes","_npassedout","_nfinished"]:List Str),findIn b.K (.ref (b.fa 15)) n=some none
 sMeth:∀p∈gP,findIn b.K (.ref (b.fa 15)) p.1=some (some (.ref (b.fa p.2)))/\typeIn b.K (.ref (b.fa p.2))=some (.type "function")/\specialIn b.K (.ref (b.fa p.2)) "__get__"=some (some (.builtin "function.__get__")) /\
  takesIn b.K (.ref (b.fa p.2))=some false/\fnIn b.K (b.fa p.2)=true
 nGet:plainGet b.K (b.fa 16) ""=true
 nSet:findIn b.K (.ref (b.fa 16)) "__setattr__"=some (some (.builtin "object.__setattr__"))
 nOver:plainOver b.K (b.fa 16)=true
 nCls:isClsIn b.K (b.fa 16)=true
 nSlot:∀p∈([("node",0),("npredecessors",1),("successors",2)]:List (Str×Nat)),∃a,findIn b.K (.ref (b.fa 16)) p.1=some (some (.ref a))/\specialIn b.K (.ref a) "__get__"=some (some (.builtin "member_descriptor.__get__")) /\
  takesIn b.K (.ref a)=some true/\slotIn b.K a (b.fa 16)=some p.2/\typeIn b.K (.ref a)=some (.type "member_descriptor")
noncomputable abbrev pw:Program:=PySem.Challenge.pw_ij0139_01
noncomputable def D8:List Nat:=[201,206,211,216,221,228,233,238,245,250,255,170,189,196,182,154,57,72,104,109,116,123,137,97,144]
noncomputable def dU(k:Nat):Addr:=match aq D8 k with
|some a=>a
|none=>0
noncomputable def cg:List (Addr×Addr):=[(200,198),(205,203),(210,208),(215,213),(220,218),(227,223),(232,230),(237,235),(244,240),(249,247),(254,252),(169,165),(188,184),(195,191),(181,177),(103,99),(108,106),(115,111),(122,118),(136,132),(96,92),(143,139)]
noncomputable def vn:List Addr:=[53,56,57,58,59,60,71,72,90,97,104,109,116,123,137,144,153,154]
noncomputable def dF(h:Heap):Frag:=vn.filterMap fun a=>(h.get? a).map fun o=>(a,o)
noncomputable def mB:List Nat:=[0,1,2,3,4,5,6,7,8,9,10,11,12,13,14,18,19,20,21,22,23,24]
noncomputable def kC(k:Nat):Fn:=match aq eU k with
|some p=>p.2
|none=>jU
noncomputable def jA:List (Addr×Fn×Value):=(53,du "_NodeInfo",.none)::(90,du "TopologicalSorter",.ref 83)::mB.map fun k=>(dU k,kC k,.none)
noncomputable def xi(h:Heap)(a:Addr):Option FuncData:=(h.get? a).bind fun o=>match o.data with
|.func fd=>some fd
|_=>none
noncomputable def tH(h:Heap)(a:Addr):Option (Value×Array Value):=(h.get? a).bind fun o=>match o.data with
|.fields vs=>some (o.cls,vs)
|_=>none
noncomputable def mo(v:Option Value):Option Str:=match v with
|some (.str q _)=>some q
|_=>none
noncomputable def kN(v:Value):Nat:=match v with
|.str _ _=>1
|.int _ _=>2
|.bool _=>3
|_=>0
noncomputable def yT(h:Heap)(a:Addr):Option ((Scope×Arguments×FuncBody×List (Str×Addr)×Value)×Addr×Addr×Value×Option Str):=(xi h a).bind fun fd=>(tH h (a-1)).map fun p=>
 ((fd.scope,fd.params,fd.body,fd.closure,fd.defaults),fd.globals,fd.builtins,fd.code,if mo p.2[1]?=some fd.qualname then none else some fd.qualname)
noncomputable def wY(h:Heap)(p:Addr×Addr):Option ((Value×Option Value×Value)×Nat×Nat×Nat×Nat):=(tH h p.1).map fun q=>((q.1,q.2[11]?,q.2.getD 11 .none),kN (q.2.getD 18 .none),kN (q.2.getD 7 .none),kN (q.2.getD 9 .none),kN (q.2.getD 10 .none))
noncomputable def Ap(e:DictEntry):Bool:=match e.key with
|.int i _=>decide (e.hash=hashInt i)
|_=>false
noncomputable def JU(h:Heap)(a:Addr):Option ((Value×Option Addr×Array (Option Value))×Bool×Option Str×Option Str×Option Value×Option Value):=(h.get? a).bind fun o=>match o.data with
|.dict es _=>some ((o.cls,o.dict,o.slots),es.toList.all Ap,mo (findBy (fun(k:Int)v=>v.isInt k) es 93),mo (findBy (fun(k:Int)v=>v.isInt k) es 124),findBy (fun(k:Int)v=>v.isInt k) es 33,findBy (fun(k:Int)v=>v.isInt k) es 97)
|_=>none
noncomputable def jI(h:Heap)(x:Str):Option Value:=match h.nsMap mainGlobals x with
|some v=>some v
|none=>h.nsMap builtinsNs x
noncomputable def wN(K:Frag):List Bool:=[
 keepIn K (.ref 154),keepIn K (.ref 57),decide (kitCls K (.type "ValueError") (.ref 72)=some false),
 makesIn K 154,decide (findIn K (.ref 154) "__init__"=some (some (.ref 90))),decide (typeIn K (.ref 90)=some (.type "function")),
 makesIn K 57,decide (findIn K (.ref 57) "__init__"=some (some (.ref 53))),decide (typeIn K (.ref 53)=some (.type "function")),
 plainGet K 154 "",decide (findIn K (.ref 154) "__setattr__"=some (some (.builtin "object.__setattr__"))),plainOver K 154,hasDictIn K 154,
 (["_node2info","_ready_nodes","_npassedout","_nfinished"]:List Str).all (fun n=>decide (findIn K (.ref 154) n=some none)),
 gP.all (fun p=>decide (findIn K (.ref 154) p.1=some (some (.ref (dU p.2))))&&(decide (typeIn K (.ref (dU p.2))=some (.type "function"))&&(decide (specialIn K (.ref (dU p.2)) "__get__"=some (some (.builtin "function.__get__"))) &&
  (decide (takesIn K (.ref (dU p.2))=some false)&&fnIn K (dU p.2))))),
 plainGet K 57 "",decide (findIn K (.ref 57) "__setattr__"=some (some (.builtin "object.__setattr__"))),plainOver K 57,isClsIn K 57,
 ([("node",0,58),("npredecessors",1,59),("successors",2,60)]:List (Str×Nat×Nat)).all (fun p=>decide (findIn K (.ref 57) p.1=some (some (.ref p.2.2)))&&(decide (specialIn K (.ref p.2.2) "__get__"=some (some (.builtin "member_descriptor.__get__"))) &&
  (decide (takesIn K (.ref p.2.2)=some true)&&(decide (slotIn K p.2.2 57=some p.2.1)&&decide (typeIn K (.ref p.2.2)=some (.type "member_descriptor"))))))]
noncomputable def qD(h:Heap):List Bool:=[
 h.isNs mainGlobals,h.isNs builtinsNs,h.isNs cStatics,(h.nsMap cStatics "sys.recursionlimit").isNone,h.isNs 71,(h.nsMap 71 "__init__").isNone,(h.get? sysModules).isSome,
 ql.all (fun p=>decide (h.nsMap mainGlobals p.1=some (.ref (dU p.2)))),decide (h.nsMap mainGlobals "_NODE_OUT"=some (.int (-1) 292)),decide (h.nsMap mainGlobals "_NODE_DONE"=some (.int (-2) 295)),
 kU.all (fun p=>decide (jI h p.1=some p.2)),decide (jI h "_twin_re_1"=some (.ref 163)),decide (jI h "_special_chars_map"=some (.ref 172)),
 decide (h.nsMap mainGlobals "__builtins__"=some (.ref 4))]
noncomputable def objs(h:Heap):List (Option Obj):=h.get? 72::h.get? 163::h.get? 162::h.get? 83::h.get? 4::cg.map fun p=>h.get? p.2
noncomputable abbrev Ob:Type:=(List Bool×List Bool×Bool)×List (Option ((Scope×Arguments×FuncBody×List (Str×Addr)×Value)×Addr×Addr×Value×Option Str))×List (Option ((Value×Option Value×Value)×Nat×Nat×Nat×Nat))×Option ((Value×Option Addr×Array (Option Value))×Bool×Option Str×Option Str×Option Value×Option Value)×List (Option Obj)
noncomputable def cE(s:Shared):Ob:=((wN (dF s.heap),qD s.heap,Nat.blt 0 s.toks),jA.map (fun p=>yT s.heap p.1),cg.map (wY s.heap),JU s.heap 172,objs s.heap)
noncomputable def Ei:Obj:=excClassObj "CycleError" "CycleError" 72 71 [.type "ValueError"] [.type "ValueError",.type "Exception",.type "BaseException",.type "object"] true [] [] false none none (some (.ref 63)) none (some (.str "CycleError" 334)) (some (.str "CycleError" 342)) (some (.bool true)) "ValueError.__new__"
noncomputable def xE:List (Option Obj):=some Ei::some {cls:=.type "re.Pattern",data:=.fields #[.str "([&~|])" 474,.int 32 509,rawInt 1,.none,.none,.ref 162,rawInt 0]} ::
 some {cls:=.type "tuple",dict:=none,data:=.seq (iV.map fun(w:Nat)=>rawInt w).toArray 0,slots:=#[]}::some {cls:=.type "tuple",dict:=none,data:=.seq #[.none] 0,slots:=#[]} ::
 some {cls:=.type "module",dict:=some builtinsNs,data:=.plain}::cg.map fun u_=>some {cls:=.none,data:=.fields #[]}
noncomputable def cH(_:World):Ob:=((List.replicate 20 true,List.replicate 14 true,true),jA.map (fun p=>some ((p.2.1.scope,p.2.1.params,.stmts p.2.1.body,[],p.2.2),mainGlobals,builtinsNs,.ref (p.1-1),none)),
 cg.map (fun p=>some ((.type "code",some (.ref p.2),.ref p.2),1,2,3,2)),some ((.type "dict",none,#[]),true,some ⟨#[92,93]⟩,some ⟨#[92,124]⟩,none,none),xE)
noncomputable def vw:Program:=view pw [0,28]
noncomputable def lT:List Str:=["_wall","_NODE_OUT","_NODE_DONE","_NodeInfo","CycleError","TopologicalSorter","_twin_re_1","translate","_special_chars_map","escape","_translate","_join_translated_parts","_law_steps","_law_deed","_law_ring","_law_runs","_law_reads","_law_takes","_law_free","_law_refusal","_law_words","_law_obeys"]
noncomputable def aI(P:Params)(k:Str)(t:Tok)(v:Value):DictEntry:=⟨PyData.keyHash P k,.str k t,v⟩
noncomputable def iL(P:Params):Heap:={objs:=#[
 boot_o_0 P,
 ⟨.type "dict",none,.dict #[aI P "builtins" 162 (.ref 4),aI P "__main__" 163 (.ref 5),aI P "_sre" 244 (.ref 12)] 3,#[]⟩,
 ⟨.none,none,.dict #[aI P "\x69mport.loaded._sre" 183 (.bool true),aI P "class._frozen_importlib.BuiltinImporter" 185 (.ref 14),aI P "watched.\x69mport" 206 (.ref 18),aI P "class._frozen_importlib.ModuleSpec" 216 (.ref 22),aI P "sys.modules.booked-epoch" 245 (.int 3 0),aI P "\x69mport.later-laid._sre" 270 (.bool true),aI P "watched.library" 272 (.ref 27),aI P "watched.library-objects" 0 (.str ⟨#[12]⟩ 0),aI P "watched.library-deep._sre" 273 (.str ⟨#[4,0,0,11,4,0,0,11,4,0,0,3,4,0,0,11,8,4,100,105,99,116,2]⟩ 0)] 9,#[]⟩,
 ⟨.type "dict",none,.dict #[aI P "__name__" 165 (.str "__main__" 164),aI P "__doc__" 166 (.none),aI P "__package__" 167 (.none),aI P "__loader__" 168 (.builtin "__main__.__loader__#opaque"),aI P "__spec__" 169 (.none),aI P "__annotations__" 170 (.ref 6),aI P "__builtins__" 171 (.ref 4),aI P "__file__" 173 (.str "/claim/cut.py" 172),aI P "__cached__" 174 (.none),aI P "_sre" 275 (.ref 12)] 10,#[]⟩,
 boot_o_4 P,
 boot_o_5 P,
 boot_o_6 P,
 boot_o_7 P,
 boot_o_8 P,
 boot_o_9 P,
 boot_o_10 P,
 ⟨.type "dict",none,.dict #[aI P "__name__" 247 (.str "_sre" 246),aI P "__doc__" 248 (.none),aI P "__package__" 250 (.str "" 249),aI P "__loader__" 251 (.builtin "off-the-table:_sre.__loader__:shared#opaque"),aI P "__spec__" 252 (.builtin "off-the-table:_sre.__spec__:shared#opaque"),aI P "compile" 253 (.builtin "_sre.compile"),aI P "template" 254 (.builtin "off-the-table:_sre.template:shared#opaque"),aI P "getcodesize" 255 (.builtin "off-the-table:_sre.getcodesize:shared#opaque"),aI P "ascii_iscased" 256 (.builtin "off-the-table:_sre.ascii_iscased:shared#opaque"),aI P "unicode_iscased" 257 (.builtin "off-the-table:_sre.unicode_iscased:shared#opaque"),aI P "ascii_tolower" 258 (.builtin "off-the-table:_sre.ascii_tolower:shared#opaque"),aI P "unicode_tolower" 259 (.builtin "off-the-table:_sre.unicode_tolower:shared#opaque"),aI P "MAGIC" 261 (.int 20230612 260),aI P "CODESIZE" 263 (.int 4 262),aI P "MAXREPEAT" 265 (.int 4294967295 264),aI P "MAXGROUPS" 267 (.int 1073741823 266),aI P "copyright" 269 (.str " SRE 2.2.2 Copyright (c) 1997-2002 by Secret Labs AB " 268)] 17,#[]⟩,
 ⟨.type "module",some 11,.plain,#[]⟩,
 ⟨.type "dict",none,.dict #[aI P "__module__" 189 (.str "_frozen_importlib" 186),aI P "__firstlineno__" 190 (.int 971 187),aI P "__doc__" 191 (.builtin "_frozen_importlib.BuiltinImporter.__doc__:str#opaque"),aI P "_ORIGIN" 192 (.str "built-in" 188),aI P "find_spec" 193 (.builtin "_frozen_importlib.BuiltinImporter.find_spec#opaque"),aI P "create_module" 194 (.builtin "_frozen_importlib.BuiltinImporter.create_module#opaque"),aI P "exec_module" 195 (.builtin "_frozen_importlib.BuiltinImporter.exec_module#opaque"),aI P "get_code" 196 (.builtin "_frozen_importlib.BuiltinImporter.get_code#opaque"),aI P "get_source" 197 (.builtin "_frozen_importlib.BuiltinImporter.get_source#opaque"),aI P "is_package" 198 (.builtin "_frozen_importlib.BuiltinImporter.is_package#opaque"),aI P "load_module" 199 (.builtin "_frozen_importlib.BuiltinImporter.load_module#opaque"),aI P "__static_attributes__" 200 (.ref 15),aI P "__dict__" 202 (.ref 16),aI P "__weakref__" 204 (.ref 17)] 14,#[]⟩,
 ⟨.type "type",none,.cls {name:="BuiltinImporter",bases:=[.type "object"],mro:=[.ref 14,.type "object"],ns:=13,qualname:="BuiltinImporter",hasDict:=true,slotNames:=[],subclasses:=[],abstract:=false,collection:=none,hasDel:=false},#[]⟩,
 ⟨.type "tuple",none,.seq #[] 0,#[]⟩,
 ⟨.type "getset_descriptor",none,.fields #[.str "__dict__" 201,.ref 14,.builtin "function.__dict__",.builtin "function.__dict__#set"],#[]⟩,
 ⟨.type "getset_descriptor",none,.fields #[.str "__weakref__" 203,.ref 14,.builtin "ExceptionGroup.__weakref__",.none],#[]⟩,
 ⟨.none,none,.seq #[.int 13 0,.str ⟨#[6,189,10,95,95,109,111,100,117,108,101,95,95,6,186,17,95,102,114,111,122,101,110,95,105,109,112,111,114,116,108,105,98,6,190,15,95,95,102,105,114,115,116,108,105,110,101,110,111,95,95,4,187,0,971,6,191,7,95,95,100,111,99,95,95,9,52,95,102,114,111,122,101,110,95,105,109,112,111,114,116,108,105,98,46,66,117,105,108,116,105,110,73,109,112,111,114,116,101,114,46,95,95,100,111,99,95,95,58,115,116,114,35,111,112,97,113,117,101,6,192,7,95,79,82,73,71,73,78,6,188,8,98,117,105,108,116,45,105,110,6,193,9,102,105,110,100,95,115,112,101,99,9,50,95,102,114,111,122,101,110,95,105,109,112,111,114,116,108,105,98,46,66,117,105,108,116,105,110,73,109,112,111,114,116,101,114,46,102,105,110,100,95,115,112,101,99,35,111,112,97,113,117,101,6,194,13,99,114,101,97,116,101,95,109,111,100,117,108,101,9,54,95,102,114,111,122,101,110,95,105,109,112,111,114,116,108,105,98,46,66,117,105,108,116,105,110,73,109,112,111,114,116,101,114,46,99,114,101,97,116,101,95,109,111,100,117,108,101,35,111,112,97,113,117,101,6,195,11,101,120,101,99,95,109,111,100,117,108,101,9,52,95,102,114,111,122,101,110,95,105,109,112,111,114,116,108,105,98,46,66,117,105,108,116,105,110,73,109,112,111,114,116,101,114,46,101,120,101,99,95,109,111,100,117,108,101,35,111,112,97,113,117,101,6,196,8,103,101,116,95,99,111,100,101,9,49,95,102,114,111,122,101,110,95,105,109,112,111,114,116,108,105,98,46,66,117,105,108,116,105,110,73,109,112,111,114,116,101,114,46,103,101,116,95,99,111,100,101,35,111,112,97,113,117,101,6,197,10,103,101,116,95,115,111,117,114,99,101,9,51,95,102,114,111,122,101,110,95,105,109,112,111,114,116,108,105,98,46,66,117,105,108,116,105,110,73,109,112,111,114,116,101,114,46,103,101,116,95,115,111,117,114,99,101,35,111,112,97,113,117,101,6,198,10,105,115,95,112,97,99,107,97,103,101,9,51,95,102,114,111,122,101,110,95,105,109,112,111,114,116,108,105,98,46,66,117,105,108,116,105,110,73,109,112,111,114,116,101,114,46,105,115,95,112,97,99,107,97,103,101,35,111,112,97,113,117,101,6,199,11,108,111,97,100,95,109,111,100,117,108,101,9,52,95,102,114,111,122,101,110,95,105,109,112,111,114,116,108,105,98,46,66,117,105,108,116,105,110,73,109,112,111,114,116,101,114,46,108,111,97,100,95,109,111,100,117,108,101,35,111,112,97,113,117,101,6,200,21,95,95,115,116,97,116,105,99,95,97,116,116,114,105,98,117,116,101,115,95,95,4,0,0,15,6,202,8,95,95,100,105,99,116,95,95,4,0,0,16,6,204,11,95,95,119,101,97,107,114,101,102,95,95,4,0,0,17]⟩ 0,.bool true,.bool true,.str "" 205,.int 21 0,.str ⟨#[6,227,10,95,95,109,111,100,117,108,101,95,95,6,217,17,95,102,114,111,122,101,110,95,105,109,112,111,114,116,108,105,98,6,228,15,95,95,102,105,114,115,116,108,105,110,101,110,111,95,95,4,218,0,562,6,229,7,95,95,100,111,99,95,95,9,47,95,102,114,111,122,101,110,95,105,109,112,111,114,116,108,105,98,46,77,111,100,117,108,101,83,112,101,99,46,95,95,100,111,99,95,95,58,115,116,114,35,111,112,97,113,117,101,6,230,8,95,95,105,110,105,116,95,95,9,44,95,102,114,111,122,101,110,95,105,109,112,111,114,116,108,105,98,46,77,111,100,117,108,101,83,112,101,99,46,95,95,105,110,105,116,95,95,35,111,112,97,113,117,101,6,231,8,95,95,114,101,112,114,95,95,9,44,95,102,114,111,122,101,110,95,105,109,112,111,114,116,108,105,98,46,77,111,100,117,108,101,83,112,101,99,46,95,95,114,101,112,114,95,95,35,111,112,97,113,117,101,6,232,6,95,95,101,113,95,95,9,42,95,102,114,111,122,101,110,95,105,109,112,111,114,116,108,105,98,46,77,111,100,117,108,101,83,112,101,99,46,95,95,101,113,95,95,35,111,112,97,113,117,101,6,233,6,99,97,99,104,101,100,9,42,95,102,114,111,122,101,110,95,105,109,112,111,114,116,108,105,98,46,77,111,100,117,108,101,83,112,101,99,46,99,97,99,104,101,100,35,111,112,97,113,117,101,6,234,6,112,97,114,101,110,116,9,42,95,102,114,111,122,101,110,95,105,109,112,111,114,116,108,105,98,46,77,111,100,117,108,101,83,112,101,99,46,112,97,114,101,110,116,35,111,112,97,113,117,101,6,235,12,104,97,115,95,108,111,99,97,116,105,111,110,9,48,95,102,114,111,122,101,110,95,105,109,112,111,114,116,108,105,98,46,77,111,100,117,108,101,83,112,101,99,46,104,97,115,95,108,111,99,97,116,105,111,110,35,111,112,97,113,117,101,6,236,21,95,95,115,116,97,116,105,99,95,97,116,116,114,105,98,117,116,101,115,95,95,4,0,0,23,6,238,8,95,95,100,105,99,116,95,95,4,0,0,24,6,240,11,95,95,119,101,97,107,114,101,102,95,95,4,0,0,25,6,241,8,95,95,104,97,115,104,95,95,0]⟩ 0,.bool true,.bool true,.str "" 242] 1,#[]⟩,
 ⟨.type "list",none,.seq #[] 0,#[]⟩,
 ⟨.type "dict",none,.dict #[aI P "name" 208 (.str "_sre" 207),aI P "loader" 209 (.ref 14),aI P "origin" 210 (.str "built-in" 184),aI P "loader_state" 211 (.none),aI P "submodule_search_locations" 212 (.none),aI P "_uninitialized_submodules" 213 (.ref 19),aI P "_set_fileattr" 214 (.bool false),aI P "_cached" 215 (.none),aI P "_initializing" 243 (.bool false)] 9,#[]⟩,
 ⟨.type "dict",none,.dict #[aI P "__module__" 227 (.str "_frozen_importlib" 217),aI P "__firstlineno__" 228 (.int 562 218),aI P "__doc__" 229 (.builtin "_frozen_importlib.ModuleSpec.__doc__:str#opaque"),aI P "__init__" 230 (.builtin "_frozen_importlib.ModuleSpec.__init__#opaque"),aI P "__repr__" 231 (.builtin "_frozen_importlib.ModuleSpec.__repr__#opaque"),aI P "__eq__" 232 (.builtin "_frozen_importlib.ModuleSpec.__eq__#opaque"),aI P "cached" 233 (.builtin "_frozen_importlib.ModuleSpec.cached#opaque"),aI P "parent" 234 (.builtin "_frozen_importlib.ModuleSpec.parent#opaque"),aI P "has_location" 235 (.builtin "_frozen_importlib.ModuleSpec.has_location#opaque"),aI P "__static_attributes__" 236 (.ref 23),aI P "__dict__" 238 (.ref 24),aI P "__weakref__" 240 (.ref 25),aI P "__hash__" 241 (.none)] 13,#[]⟩,
 ⟨.type "type",none,.cls {name:="ModuleSpec",bases:=[.type "object"],mro:=[.ref 22,.type "object"],ns:=21,qualname:="ModuleSpec",hasDict:=true,slotNames:=[],subclasses:=[],abstract:=false,collection:=none,hasDel:=false},#[]⟩,
 ⟨.type "tuple",none,.seq #[.str "_cached" 219,.str "_set_fileattr" 220,.str "_uninitialized_submodules" 221,.str "loader" 222,.str "loader_state" 223,.str "name" 224,.str "origin" 225,.str "submodule_search_locations" 226] 0,#[]⟩,
 ⟨.type "getset_descriptor",none,.fields #[.str "__dict__" 237,.ref 22,.builtin "function.__dict__",.builtin "function.__dict__#set"],#[]⟩,
 ⟨.type "getset_descriptor",none,.fields #[.str "__weakref__" 239,.ref 22,.builtin "ExceptionGroup.__weakref__",.none],#[]⟩,
 ⟨.ref 22,some 20,.plain,#[]⟩,
 ⟨.none,none,.seq #[.int 11 0,.str ⟨#[6,247,8,95,95,110,97,109,101,95,95,6,246,4,95,115,114,101,6,248,7,95,95,100,111,99,95,95,0,6,250,11,95,95,112,97,99,107,97,103,101,95,95,6,249,0,6,251,10,95,95,108,111,97,100,101,114,95,95,4,0,0,14,6,252,8,95,95,115,112,101,99,95,95,4,0,0,26,6,253,7,99,111,109,112,105,108,101,9,12,95,115,114,101,46,99,111,109,112,105,108,101,6,254,8,116,101,109,112,108,97,116,101,9,13,95,115,114,101,46,116,101,109,112,108,97,116,101,6,255,11,103,101,116,99,111,100,101,115,105,122,101,9,16,95,115,114,101,46,103,101,116,99,111,100,101,115,105,122,101,6,256,13,97,115,99,105,105,95,105,115,99,97,115,101,100,9,18,95,115,114,101,46,97,115,99,105,105,95,105,115,99,97,115,101,100,6,257,15,117,110,105,99,111,100,101,95,105,115,99,97,115,101,100,9,20,95,115,114,101,46,117,110,105,99,111,100,101,95,105,115,99,97,115,101,100,6,258,13,97,115,99,105,105,95,116,111,108,111,119,101,114,9,18,95,115,114,101,46,97,115,99,105,105,95,116,111,108,111,119,101,114,6,259,15,117,110,105,99,111,100,101,95,116,111,108,111,119,101,114,9,20,95,115,114,101,46,117,110,105,99,111,100,101,95,116,111,108,111,119,101,114,6,261,5,77,65,71,73,67,4,260,0,20230612,6,263,8,67,79,68,69,83,73,90,69,4,262,0,4,6,265,9,77,65,88,82,69,80,69,65,84,4,264,0,4294967295,6,267,9,77,65,88,71,82,79,85,80,83,4,266,0,1073741823,6,269,9,99,111,112,121,114,105,103,104,116,6,268,53,32,83,82,69,32,50,46,50,46,50,32,67,111,112,121,114,105,103,104,116,32,40,99,41,32,49,57,57,55,45,50,48,48,50,32,98,121,32,83,101,99,114,101,116,32,76,97,98,115,32,65,66,32]⟩ 0,.bool true,.bool false,.str "_sre" 271] 0,#[]⟩]}
noncomputable def DX:List Obj:=[⟨.type "tuple",none,.seq #[] 0,#[]⟩,⟨.none,none,.fields #[],#[]⟩,
 ⟨.type "code",none,.fields #[.str "<module>" 277,.str "<module>" 278,.str "/claim/cut.py" 279,.int 1 0,.int 0 0,.int 0 0,.int 0 0,.int 0 0,.ref 28,.bool false,.int 276 0,.ref 29,.none,.none,.none,.none,.int 280 0,.int 1 0,.str "/claim/cut.py" 281],#[]⟩,
 ⟨.type "frame",none,.plain,#[some (.ref 30),some (.ref 3),some (.ref 3),none,some (.str "__main__" 164),none,some (.ref 0)]⟩]
noncomputable def Hx(l:List Obj):BT:=(l.foldl (fun(p:BT×Nat)o=>(p.1.ins p.2 o,p.2+1)) (.nil,0)).1
noncomputable def Gs(P:Params):BT:=Hx ((iL P).objs.toList++DX)
noncomputable def rI:List Stmt:=behindTheImports pw
noncomputable def sQ:Env:={scope:=pw.main.scope,locals:=mainNs,globals:=mainNs,cells:=[],code:=.ref 30,frame:=some 31}
noncomputable abbrev wf(w:World)(a b:Bool):World:=(w.withFollow "special-get-raises" b).withFollow "comprehension-iter-twice" a
noncomputable def sB(w:World)(os:OsState):SharedT:=⟨Gs w.params,32,{},#[],{},282,os⟩
noncomputable abbrev cB:Code:=.body rI sQ
theorem El(w:World):(fencedOpening treeTable pw w 5800).map (fun s=>(s.heap,s.gens,s.drawn,s.toks))=some (iL w.params,#[],{},276):=by kernel_rfl
theorem Jh(w:World):((iL w.params).isNs mainGlobals&&(#[]:Array GenState).size==0,(iL w.params).objs.size,(iL w.params).nsMap mainGlobals "__annotations__")=(true,28,some (.ref 6)):=by kernel_rfl
theorem F8(w:World):(fun os=>topGo treeTable pw w 28 (some (.ref 6)) 12 ⟨iL w.params,#[],{},276,os⟩ (topStub pw))=fun os=>some ((sB w os).abs,⟨denote treeTable cB,cB,default,[topFrame default]⟩):=by kernel_rfl
theorem G1(w:World)(s:Shared):segRun treeTable pw w 28 (some (.ref 6)) 1 1 s (blockOf rI sQ cB default [topFrame default])=some (.next,s,cB,default):=by kernel_rfl
theorem FC(w:World)(s:Shared)(p:Pos):topRun treeTable pw w 28 (some (.ref 6)) 9 s ⟨doneF .next,cB,p,[topFrame default]⟩=some s:=by
 obtain⟨h,g,d,t,os⟩:=s
 kernel_rfl
noncomputable def uO(w:World)(s:Shared):Bool:=staticsOk (importedModules pw.main.body) (iL w.params) s.heap&&namesBound pw s.heap&&gensDone s&&laidKept (iL w.params) s.heap
noncomputable abbrev Lf(w:World):Prop:=(fun os=>(segRunT treeTable pw w 28 (some (.ref 6)) 1 5000 (sB w os) (piecesOf rI sQ cB default [topFrame default])).map (fun r=>((r.1,r.2.2.1),uO w r.2.1.abs,openSeen vw lT (importedModules pw.main.body) (fun u_=>true) true r.2.1.abs,cE r.2.1.abs)))=fun u_=>some ((.next,cB),true,openGood vw lT,cH w)
theorem IB(w:World):Lf (wf w false false):=by kernel_rfl
theorem Kz(w:World):Lf (wf w false true):=by kernel_rfl
theorem I8(w:World):Lf (wf w true false):=by kernel_rfl
theorem Ce(w:World):Lf (wf w true true):=by kernel_rfl
theorem FX:LeftO pw vw lT (fun u_=>true) cE cH 5800:=fun w=>by
 have h:Lf w:=byRow2 "comprehension-iter-twice" (P:=Lf) (byRow2 "special-get-raises" (P:=fun w=>Lf (w.withFollow "comprehension-iter-twice" false)) IB Kz) (byRow2 "special-get-raises" (P:=fun w=>Lf (w.withFollow "comprehension-iter-twice" true)) I8 Ce) w;obtain⟨s,hs,hv⟩:=Option.map_eq_some_iff.mp (El w);obtain⟨e1,e2,e3,e4⟩:s.heap=_/\s.gens=_/\s.drawn=_/\s.toks=_:=by simpa only[Prod.mk.injEq]using hv
 obtain⟨o0_,h1,h2⟩:=Option.map_eq_some_iff.mp (congrFun h s.os);obtain⟨f,ap,c,p⟩:=o0_;obtain⟨⟨rfl,rfl⟩,t1,t2,t3⟩:(f=.next/\c=cB)/\uO w ap.abs=true/\openSeen vw lT (importedModules pw.main.body) (fun u_=>true) true ap.abs=openGood vw lT/\cE ap.abs=cH w:=by simpa only[Prod.mk.injEq]using h2
 have r:=go_top (congrFun (F8 w) s.os) (piece_block (G1 w _) (rI.append_nil▸piece_app (segRun_of h1) (piece_nil (FC w ap.abs p))));obtain⟨z1,z2,z3⟩:_/\_/\_:=by simpa only[Prod.mk.injEq]using Jh w
 have t:topFrom treeTable pw w 5800 s=some ap.abs:=by rw[show s=⟨iL w.params,#[],{},276,s.os⟩ by rw[<- e1,<-e2,<-e3,<-e4]];unfold topFrom;dsimp only;rw[z1,z2,z3,topRun_mono (5800-5022) _ _ _ _ r];show(match uO w ap.abs with|true=>some ap.abs|false=>none)=_;rw[t1]
 unfold openEnds;rw[hs];show(topFrom treeTable pw w 5800 s).map _=_;rw[t];exact congrArg some (Prod.ext t2 t3)
open Classical in
noncomputable def Gh.set(g:Gh)(T:aE)(a:Option Addr)(o:Obj):Gh:={g with at_:=fun T'=>if T'=T then a else g.at_ T',ob:=fun T'=>if T'=T then o else g.ob T'}
open Classical in
noncomputable def Z.add(z:Z)(a:Addr)(o:Obj):Z:={z with f:=fun a'=>if a'=a then some o else z.f a'}
noncomputable def Gh.fz(g:Gh)(a:Addr)(o:Obj):Gh:={g with z:=g.z.add a o}
section
variable{g:Gh}{T T':aE}{a:Option Addr}{o:Obj}{x y:Addr}
theorem Gh.at_same:(g.set T a o).at_ T=a:=if_pos rfl
theorem Gh.at_ne(h:T'≠T):(g.set T a o).at_ T'=g.at_ T':=if_neg h
theorem Gh.ob_same:(g.set T a o).ob T=o:=if_pos rfl
theorem Gh.ob_ne(h:T'≠T):(g.set T a o).ob T'=g.ob T':=if_neg h
theorem Z.add_same{z:Z}:(z.add x o).f x=some o:=if_pos rfl
theorem Z.add_ne{z:Z}(h:y≠x):(z.add x o).f y=z.f y:=if_neg h
theorem Z.add_le{z:Z}(h:z.f x=none):z.Le (z.add x o):=⟨fun a o' e=>(Z.add_ne fun q=>by rw[q,h]at e;cases e).trans e,fun u_ u_ e=>e⟩
theorem Gh.fz_le(h:g.z.f x=none):g.Le (g.fz x o):=⟨Z.add_le h,fun u_ u_=>.inl rfl,fun u_ u_ e=>e⟩
theorem Gh.set_le(h:g.at_ T=a)(hn:T=.p .n2i->Dg (g.ob T) o:=by intro z;cases z):g.Le (g.set T a o):=⟨.refl _,fun c e=>by
 by_cases q:aE.p .n2i=T
 ·rw[q,Gh.ob_same];exact hn q.symm
 ·exact .inl (Gh.ob_ne q),fun p c e=>by
 by_cases q:aE.p p=T
 ·rw[q,Gh.at_same,<-h,<-q];exact e
 ·exact(Gh.at_ne q).trans e⟩
theorem Gh.new_le(h:g.at_ T=none):g.Le (g.set T a o):=⟨.refl _,fun c e=>.inl (Gh.ob_ne fun q=>by rw[q,h]at e;cases e),fun p c e=>(Gh.at_ne fun q=>by rw[q,h]at e;cases e).trans e⟩
end
noncomputable def ni(k:Option NameKind):NameKind->Prop
|.local=>k=some .local
|.cell=>k=some .cell
|.free=>k=some .free\/k=some .cell
|.globalImplicit=>k=some .globalImplicit
|.globalExplicit=>False
structure ca(b:aN)(A:Around)(env:Env)(e:Ev)(X:Addr->Option Obj)(fs:List Addr)(n:Nat):Prop where
 depth:A.depth+3*n+3 < recursionLimit
 units:A.units+20*n+20 < cLine
 frames:∃fenv outer,A.frames=some (fenv::outer)/\fenv.frame=env.frame/\(∀f∈fenv::outer,f.scope.kind≠.module/\f.frame.isSome=true)/\fs=(fenv::outer).filterMap (·.frame)
 fn:env.scope.kind=.function
 glo:env.globals=mainGlobals
 blt:env.builtins=builtinsNs
 kinds:∀n k,ad e.names n=some k->ni (env.kindOf n) k
 dbg:∀n k,ad e.names n=some k->(n==("__debug__":Str))=false/\(n==("__classdict__":Str))=false
 code:ad e.free "<lambda>"=none->∃p∈b.tabs,env.code=.ref p.1
 frm:∀a∈fs,a=env.locals\/∃o es ep,X a=some o/\o.data=.dict es ep
structure Fr where
 b:aN
 ok:ib b
 A:Around
 env:Env
 e:Ev
 E:Value->Shared->Prop
 X:Addr->Option Obj
 fs:List Addr
 n:Nat
 k:ca b A env e X fs n
structure HC(c:Fr)(g:Gh)(s:Shared):Prop where
 zf:∀a o,g.z.f a=some o->s.heap.get? a=some o
 at_:∀T a,g.at_ T=some a->s.heap.get? a=some (g.ob T)
 inj:∀T T' a,g.at_ T=some a->g.at_ T'=some a->T=T'
 nz:∀T a,g.at_ T=some a->g.z.f a=none
 xz:∀a o,c.X a=some o->g.z.f a=none/\∀T,g.at_ T≠some a
 xs:∀a o,c.X a=some o->∃sl,s.heap.get? a=some {o with slots:=sl}/\(a∉c.fs->sl=o.slots)
 base:∀a o,c.b.B.get? a=some o->a∉c.b.tabA->g.z.f a=some o
 tabs:∀T a,g.at_ T=some a->a∈c.b.tabA->∃k,T=.tab k
 old:OldK c.b.B s.heap
 os:s.os=c.b.os
 gens:AllBare s.gens
 tk:0 < s.toks
section
variable{c:Fr}{g:Gh}{s s':Shared}{T:aE}{a:Addr}{o:Obj}
theorem HC.keeps(h:HC c g s)(hk:∀a o,s.heap.get? a=some o->s'.heap.get? a=some o)(ho:s'.os=s.os)(hg:s'.gens=s.gens)(ht:0 < s'.toks):HC c g s':=
 ⟨fun a o e=>hk a o (h.zf a o e),fun T a e=>hk a _ (h.at_ T a e),h.inj,h.nz,h.xz,fun a o e=>let ⟨sl,q,r⟩:=h.xs a o e;⟨sl,hk a _ q,r⟩,h.base,h.tabs,h.old.step_keeps hk,ho.trans h.os,hg▸h.gens,ht⟩
theorem HC.noB(h:HC c g s)(e:g.at_ T=some a)(hT:∀k,T≠.tab k):c.b.B.get? a=none:=by
 cases q:c.b.B.get? a with
|none=>rfl
|some o=> haveI:=h.base a o q fun m=>let ⟨k,e⟩:=h.tabs T a e m;hT k e;rw[h.nz T a e]at this;cases this
theorem sI(K:OldK cW h)(hk:∀b o o',cW.get? b=some o->h.get? b=some o'->h'.get? b=some o'):OldK cW h':=by
 refine⟨fun b o e=>?_,fun b o e=>let ⟨o',ho'⟩:=K.there b o e;⟨o',hk b o o' e ho'⟩⟩;rcases K.old b o e with x|⟨t,hc,vs,more,hv,x⟩|⟨rfl,hc,⟨o',es,n,ho',r⟩,z⟩
 ·exact .inl (hk _ _ _ e x)
 ·exact .inr (.inl ⟨t,hc,vs,more,hv,hk _ _ _ e x⟩)
 ·exact .inr (.inr ⟨rfl,hc,⟨o',es,n,hk _ _ _ e ho',r⟩,fun key=>by rw[OldK.staticOf_congr ((hk _ _ _ e ho').trans ho'.symm) key];exact z key⟩)
theorem HC.upd(h:HC c g s)(e:g.at_ T=some a)(hT:∀k,T≠.tab k)(hs:∀x,x≠a->s'.heap.get? x=s.heap.get? x)(hn:s'.heap.get? a=some o)(ho:s'.os=s.os)(hg:s'.gens=s.gens)(ht:s.toks<=s'.toks):HC c (g.set T (some a) o) s':=by
 have aa:∀T' x,(g.set T (some a) o).at_ T'=some x->g.at_ T'=some x:=fun T' x q=>by
  by_cases z:T'=T
  ·rw[z,Gh.at_same]at q;rw[z,e];exact q
  ·exact(Gh.at_ne z).symm.trans q
 refine⟨fun x o' q=>(hs x fun z=>?_).trans (h.zf x o' q),fun T' x q=>?_,fun T₁ T₂ x dk dm=>h.inj _ _ x (aa _ _ dk) (aa _ _ dm),fun T' x q=>h.nz _ _ (aa _ _ q),fun x o' q=>⟨(h.xz x o' q).1,fun T' z=>(h.xz x o' q).2 T' (aa _ _ z)⟩,
  fun x o' q=>let ⟨sl,q1,r⟩:=h.xs x o' q;⟨sl,(hs x fun z=>(h.xz x o' q).2 T (z▸e)).trans q1,r⟩,h.base,fun T' x q=>h.tabs T' x (aa _ _ q),sI h.old fun x o' mq q1 q2=>(hs x fun z=>?_).trans q2,ho.trans h.os,hg▸h.gens,Nat.lt_of_lt_of_le h.tk ht⟩
 ·have:=h.nz T a e;rw[<- z]at this;exact absurd ((show g.z.f x=some o' from q).symm.trans this) (fun w=>by cases w)
 ·have q':=aa _ _ q;by_cases z:T'=T
  ·rw[z,e]at q';cases q';rw[z,Gh.ob_same];exact hn
  ·rw[Gh.ob_ne z];exact(hs x fun w=>z (h.inj _ _ _ q' (w▸e))).trans (h.at_ _ _ q')
 ·rw[z,h.noB e hT]at q1;cases q1
theorem HC.fresh(h:HC c g s)(e:s.heap.get? a=none):g.z.f a=none/\(∀T,g.at_ T≠some a)/\c.X a=none:=by
 refine⟨?_,fun T q=>?_,?_⟩
 ·cases q:g.z.f a with
 |none=>rfl
 |some o=>rw[h.zf a o q]at e;cases e
 ·rw[h.at_ T a q]at e;cases e
 ·cases q:c.X a with
 |none=>rfl
 |some o=>obtain⟨sl,q,_⟩:=h.xs a o q;rw[q]at e;cases e
theorem HC.frz(h:HC c g s)(e:s.heap.get? a=none)(hk:∀a o,s.heap.get? a=some o->s'.heap.get? a=some o)(hn:s'.heap.get? a=some o)(ho:s'.os=s.os)(hg:s'.gens=s.gens)(ht:s.toks<=s'.toks):HC c (g.fz a o) s':=by
 haveI K:=h.keeps hk ho hg (Nat.lt_of_lt_of_le h.tk ht);obtain⟨f1,f2,f3⟩:=h.fresh e;haveI nz:∀x,g.z.f x=none->x≠a->(g.fz a o).z.f x=none:=fun x q z=>(Z.add_ne z).trans q;refine⟨fun x o' q=>?_,K.at_,K.inj,fun T x q=>nz x (h.nz T x q) fun z=>f2 T (z▸q),fun x o' q=>⟨nz x (h.xz x o' q).1 fun z=>?_,(h.xz x o' q).2⟩,K.xs,fun x o' q m=>(Gh.fz_le f1).z.f _ _ (h.base x o' q m),K.tabs,K.old,K.os,K.gens,K.tk⟩
 ·by_cases z:x=a
  ·rw[z]at q ⊢;rw[show(g.fz a o).z.f a=some o from Z.add_same]at q;cases q;exact hn
  ·exact K.zf x o' ((Z.add_ne z).symm.trans q)
 ·rw[z,f3]at q;cases q
theorem HC.place(h:HC c g s)(hn:s.heap.get? a=some o)(f:g.z.f a=none/\(∀T,g.at_ T≠some a)/\c.X a=none)(hT:a∉c.b.tabA):HC c (g.set T (some a) o) s:=by
 obtain⟨f1,f2,f3⟩:=f;have aa:∀T' x,(g.set T (some a) o).at_ T'=some x->(T'=T/\x=a)\/(T'≠T/\g.at_ T'=some x):=fun T' x q=>by
  by_cases z:T'=T
  ·rw[z,Gh.at_same]at q;cases q;exact .inl ⟨z,rfl⟩
  ·exact .inr ⟨z,(Gh.at_ne z).symm.trans q⟩
 refine⟨h.zf,fun T' x q=>?_,fun T₁ T₂ x dk dm=>?_,fun T' x q=>?_,fun x o' q=>⟨(h.xz x o' q).1,fun T' z=>?_⟩,h.xs,h.base,fun T' x q m=>?_,h.old,h.os,h.gens,h.tk⟩
 ·rcases aa _ _ q with⟨z,w⟩|⟨z,w⟩
  ·rw[z,w,Gh.ob_same];exact hn
  ·rw[Gh.ob_ne z];exact h.at_ _ _ w
 ·rcases aa _ _ dk with⟨z,w⟩|⟨z,w⟩<;>rcases aa _ _ dm with⟨z',w'⟩|⟨z',w'⟩
  ·exact z.trans z'.symm
  ·exact absurd (w▸w') (f2 _)
  ·exact absurd (w'▸w) (f2 _)
  ·exact h.inj _ _ _ w w'
 ·rcases aa _ _ q with⟨_,w⟩|⟨_,w⟩
  ·rw[w];exact f1
  ·exact h.nz _ _ w
 ·rcases aa _ _ z with⟨_,w⟩|⟨_,w⟩
  ·rw[w,f3]at q;cases q
  ·exact(h.xz x o' q).2 _ w
 ·rcases aa _ _ q with⟨_,w⟩|⟨_,w⟩
  ·exact absurd (w▸m) hT
  ·exact h.tabs _ _ w m
theorem HC.own(h:HC c g s)(e:s.heap.get? a=none)(hk:∀a o,s.heap.get? a=some o->s'.heap.get? a=some o)(hn:s'.heap.get? a=some o)(ho:s'.os=s.os)(hg:s'.gens=s.gens)(ht:s.toks<=s'.toks)(hT:a∉c.b.tabA):HC c (g.set T (some a) o) s':=
 (h.keeps hk ho hg (Nat.lt_of_lt_of_le h.tk ht)).place hn (h.fresh e) hT
end
inductive oN(o:Obj)(m:Str->Option Value):Prop
|mk (es:Array DictEntry) (ep:Nat):o.data=.dict es ep->StrKeys es->(∀x,nsFind es x=m x)->oN o m
inductive gn(o:Obj)(l:List (Str×Value)):Prop
|mk (es:Array DictEntry) (ep:Nat):o.data=.dict es ep->StrKeys es->(∀x,nsFind es x=ad l x)->es.size<=l.length->gn o l
inductive cA(b:aN)(g:Gh)(p:P)(xs:List F):Prop
|mk (a:Addr) (vs:List Value) (n:Nat):g.at_ (.p p)=some a->g.ob (.p p)=aV vs n->FRs b g.z xs vs->cA b g p xs
inductive iQ(b:aN)(g:Gh)(p:P)(es:List (Str×F)):Prop
|mk (a:Addr) (kvs:List (Str×Value)):g.at_ (.p p)=some a->DictO b (g.ob (.p p)) kvs->DRs b g.z es kvs->iQ b g p es
noncomputable def G5(b:aN)(a:Addr)(o:Obj)(us:List Str):Prop:=∃S:Str->Bool,(∀x,S x=aO us x)/\∀h:Heap,h.get? a=some o->h.SetOf b.kd a S us.length
inductive lW(b:aN)(g:Gh)(p:P)(us:List Str):Prop
|mk (a:Addr):g.at_ (.p p)=some a->G5 b a (g.ob (.p p)) us->lW b g p us
noncomputable def fS(g:Gh):List (Str×Nat)->List (Str×Value)->Prop
|[],kvs=>kvs=[]
|(k,j)::es,kvs=>∃v r,kvs=(k,v)::r/\g8 g (.loc j) v/\fS g es r
inductive ke(b:aN)(g:Gh)(i:Nat)(es:List (Str×Nat)):Prop
|mk (a:Addr) (kvs:List (Str×Value)):g.at_ (.p (.loc i))=some a->DictO b (g.ob (.p (.loc i))) kvs->fS g es kvs->ke b g i es
noncomputable abbrev cy(l:Addr)(p:Nat):Obj:={cls:=.type "list_iterator",data:=.fields #[.ref l,.int p 0]}
inductive qh(g:Gh)(i j:Nat)(x:Str)(p:Nat)(v:Value):Prop
|mk (l it mw:Addr):g.at_ (.p (.suc x))=some l->v=.ref mw->g.z.f mw=some (ng "list_iterator.__next__" (.ref it) "method-wrapper")->g.at_ (.sub i j)=some it->g.ob (.sub i j)=cy l p->qh g i j x p v
noncomputable def dN(g:Gh)(i:Nat):Nat->List (Str×Nat)->List Value->Prop
|_,[],vs=>vs=[]
|j,(x,p)::its,vs=>∃v r,vs=v::r/\qh g i j x p v/\dN g i (j+1) its r
inductive gJ(g:Gh)(i:Nat)(its:List (Str×Nat))(more:List Value):Prop
|mk (a:Addr) (vs:List Value) (n:Nat):g.at_ (.p (.loc i))=some a->g.ob (.p (.loc i))=aV (vs++more) n->dN g i 0 its vs->gJ g i its more
noncomputable def OR(b:aN)(g:Gh)(i:Nat):Option AO->Prop
|none=>g.at_ (.p (.loc i))=none
|some (.list xs)=>cA b g (.loc i) xs
|some (.dict es)=>iQ b g (.loc i) es
|some (.dl es)=>ke b g i es
|some (.set us)=>lW b g (.loc i) us
|some (.iters its)=>gJ g i its []
|some (.itersD its)=>∃v,gJ g i its [v]
noncomputable abbrev kP(b:aN)(x:Str)(np:Int)(tx tn:Tok)(d l:Addr):Obj:={cls:=.ref (b.fa 16),dict:=some d,data:=.plain,slots:=#[some (.str x tx),some (.int np tn),some (.ref l)]}
noncomputable abbrev gY:Obj:={cls:=.type "dict",data:=.dict #[]}
inductive ch(b:aN)(g:Gh)(x:Str)(nd:aZ)(v:Value):Prop
|mk (a d l:Addr) (tx tn:Tok):v=.ref a->g.at_ (.p (.nd x))=some a->g.ob (.p (.nd x))=kP b x nd.np tx tn d l->g.at_ (.ndd x)=some d->g.ob (.ndd x)=gY->g.at_ (.p (.suc x))=some l->cA b g (.suc x) (nd.succ.map F.str)->ch b g x nd v
noncomputable def ck(b:aN)(g:Gh):List (Str×aZ)->List (Str×Value)->Prop
|[],kvs=>kvs=[]
|(x,nd)::r,kvs=>∃v t,kvs=(x,v)::t/\ch b g x nd v/\ck b g r t
inductive vD(b:aN)(g:Gh)(r:List Str)(rd:Value):Prop
|mk (l:Addr):rd=.ref l->g.at_ (.p .rd)=some l->cA b g .rd (r.map F.str)->vD b g r rd
noncomputable def gi(b:aN)(g:Gh):Option (List Str)->Value->Prop
|none,rd=>rd=.none/\g.at_ (.p .rd)=none
|some r,rd=>vD b g r rd
noncomputable def gC(b:aN)(g:Gh)(ns:List (Str×aZ)):Option Str->Prop
|none=>True
|some u=>ad ns u=none/\∃v,ch b g u ⟨0,[]⟩ v
noncomputable def gF(g:Gh)(q:bW):Prop:=∀x,ad q.n2i x=none->q.pend≠some x->g.at_ (.p (.nd x))=none/\g.at_ (.p (.suc x))=none
noncomputable def sL(n2i:Addr)(rd:Value)(q:bW)(tp tf:Tok):List (Str×Value):=[("_node2info",.ref n2i),("_ready_nodes",rd),("_npassedout",.int q.npo tp),("_nfinished",.int q.nfin tf)]
inductive SR(b:aN)(g:Gh)(q:bW):Prop
|mk (a d n2i:Addr) (tp tf:Tok) (rd:Value) (kvs:List (Str×Value)):g.at_ (.p .self)=some a->g.ob (.p .self)={cls:=.ref (b.fa 15),dict:=some d,data:=.plain}->g.at_ .sd=some d->gn (g.ob .sd) (sL n2i rd q tp tf)->g.at_ (.p .n2i)=some n2i ->
  DictO b (g.ob (.p .n2i)) kvs->ck b g q.n2i kvs->gi b g q.ready rd->gC b g q.n2i q.pend->gF g q->SR b g q
noncomputable def eH(b:aN)(g:Gh):Option bW->Prop
|none=>∀p a,g.at_ (.p p)=some a->∃i,p=.loc i
|some q=>SR b g q
structure db(c:Fr)(l:List (Str×V))(g:Gh):Prop where
 L:g.at_ .L=some c.env.locals
 ns:∃m,oN (g.ob .L) m/\∀n v,ad c.e.names n=some .local->ad l n=some v->∃val,m n=some val/\VV c.b g v val
 cell:∀n,ad c.e.names n=some .cell->∃a cv,c.env.cells.lookup n=some a/\g.at_ (.cell n)=some a/\(g.ob (.cell n)).data=.cell cv/\∀v,ad l n=some v->∃val,cv=some val/\VV c.b g v val
 free:∀n v,ad c.e.names n=some .free->ad c.e.free n=some v->∃a o val,c.env.cells.lookup n=some a/\c.X a=some o/\o.data=.cell (some val)/\VV c.b g v val
inductive hZ(z:Z)(c:Value):Prop
|mk (a:Addr) (o:Obj) (vs:Array Value) (q:Str) (t:Tok):c=.ref a->z.f a=some o->o.data=.fields vs->vs[1]?=some (.str q t)->hZ z c
inductive kA(z:Z)(o:Obj)(p:Addr×Addr):Prop
|mk (ps:Array Value):o={cls:=.none,data:=.fields ps}->(∀h:Heap,(∀a o,z.f a=some o->h.get? a=some o)->h.get? p.2=some o->h.IsCode p.1 p.2 ps/\h.TableAt p.1 p.2 ps) ->
  (∀pos c,codeAmong pos ps.toList=some c->hZ z c)->kA z o p
structure aW(c:Fr)(σ:Sx)(g:Gh):Prop where
 fr:db c σ.l g
 loc:∀i,OR c.b g i (aq σ.h i)
 srt:eH c.b g σ.q
 tab:∀k p,c.b.tabs[k]?=some p->g.at_ (.tab k)=some p.2/\kA g.z (g.ob (.tab k)) p
 st:∀k,σ.st<=k->g.z.st k=none
noncomputable def e8(S:aE->Prop)(g g':Gh):Prop:=∀T,S T->g'.at_ T=g.at_ T/\g'.ob T=g.ob T
noncomputable def aE.own(i:Nat):aE->Prop
|.p (.loc j)=>j=i
|.sub j _=>j=i
|_=>False
noncomputable def aE.srt:aE->Prop
|.p (.loc _)=>False
|.p _=>True
|.sd=>True
|.ndd _=>True
|_=>False
noncomputable def aE.nds:aE->Prop
|.p (.nd _)=>True
|.p (.suc _)=>True
|.ndd _=>True
|_=>False
theorem aE.nds_srt{T:aE}(h:T.nds):T.srt:=by
 cases T with
|p p=>cases p<;>first|exact h.elim|trivial
|ndd _=>trivial
|_=>exact h.elim
noncomputable def aE.frm:aE->Prop
|.L=>True
|.cell _=>True
|_=>False
section
variable{c:Fr}{σ:Sx}
theorem cA.eq(z:g.z.Le g'.z)(e:g'.at_ (.p p)=g.at_ (.p p)/\g'.ob (.p p)=g.ob (.p p))(h:cA b g p xs):cA b g' p xs:=by cases h with|mk a vs n k1 k2 k3=>exact .mk a vs n (e.1.trans k1) (e.2.trans k2) (FRs.mono z k3)
theorem ch.eq(z:g.z.Le g'.z)(e:e8 aE.nds g g')(r:ch b g x nd v):ch b g' x nd v:=by
 cases r with|mk a d l tx tn h1 h2 h3 h4 h5 h6 h7=>
 haveI e1:=e (.p (.nd x)) trivial;haveI e2:=e (.ndd x) trivial;haveI e3:=e (.p (.suc x)) trivial;exact .mk a d l tx tn h1 (e1.1.trans h2) (e1.2.trans h3) (e2.1.trans h4) (e2.2.trans h5) (e3.1.trans h6) (h7.eq z e3)
theorem ck.eq(z:g.z.Le g'.z)(e:e8 aE.nds g g'):∀{ns:List (Str×aZ)}{kvs:List (Str×Value)},ck b g ns kvs->ck b g' ns kvs:=by
 intro ns
 induction ns with
|nil=> intro _ h;exact h
|cons p_ _ ih=> obtain⟨_,_⟩:=p_;intro _ h;exact h.imp fun u_ h=>h.imp fun u_ r=>⟨r.1,ch.eq z e r.2.1,ih r.2.2⟩
theorem gi.eq(z:g.z.Le g'.z)(e:g'.at_ (.p .rd)=g.at_ (.p .rd)/\g'.ob (.p .rd)=g.ob (.p .rd))(r:gi b g o rd):gi b g' o rd:=by
 cases o with
|none=>exact⟨r.1,e.1.trans r.2⟩
|some _=>cases r with|mk l h1 h2 h3=>exact .mk l h1 (e.1.trans h2) (h3.eq z e)
theorem SR.upd(r:SR b g q)(e1:g'.at_ (.p .self)=g.at_ (.p .self)/\g'.ob (.p .self)=g.ob (.p .self))(e2:g'.at_ .sd=g.at_ .sd)(e3:g'.at_ (.p .n2i)=g.at_ (.p .n2i)/\g'.ob (.p .n2i)=g.ob (.p .n2i))
  (k:∀n2i rd tp tf,gn (g.ob .sd) (sL n2i rd q tp tf)->∃tp' tf',gn (g'.ob .sd) (sL n2i rd q' tp' tf')) (nodes:∀kvs,(kvs.map (·.1)).Nodup->ck b g q.n2i kvs->ck b g' q'.n2i kvs) (rdy:∀rd,gi b g q.ready rd->gi b g' q'.ready rd) (pd:gC b g q.n2i q.pend->gC b g' q'.n2i q'.pend) (fr:gF g q->gF g' q'):SR b g' q':=by
 cases r with|mk a d n2i tp tf rd kvs h1 h2 h3 h4 h5 h6 h7 h8 h9 h10=>
 obtain⟨tp',tf',h4⟩:=k n2i rd tp tf h4;haveI nd:=h6;obtain⟨_,_,_,_,_,_,nd⟩:=nd;exact .mk a d n2i tp' tf' rd kvs (e1.1.trans h1) (e1.2.trans h2) (e2.trans h3) h4 (e3.1.trans h5) (e3.2▸h6) (nodes kvs nd h7) (rdy rd h8) (pd h9) (fr h10)
theorem gC.eq(z:g.z.Le g'.z)(e:e8 aE.nds g g')(r:gC b g ns o):gC b g' ns o:=by
 cases o with
|none=>trivial
|some u=>exact⟨r.1,r.2.imp fun u_ h=>ch.eq z e h⟩
theorem gF.eq(e:e8 aE.nds g g')(r:gF g q):gF g' q:=fun x h p=>⟨(e (.p (.nd x)) trivial).1.trans (r x h p).1,(e (.p (.suc x)) trivial).1.trans (r x h p).2⟩
theorem eH.eq(z:g.z.Le g'.z)(e:e8 aE.srt g g')(r:eH b g q):eH b g' q:=by
 cases q with
|none=>
  intro p a q;cases p with
 |loc i=>exact⟨i,rfl⟩
 |self=>exact r .self a ((e (.p .self) trivial).1.symm.trans q)
 |n2i=>exact r .n2i a ((e (.p .n2i) trivial).1.symm.trans q)
 |rd=>exact r .rd a ((e (.p .rd) trivial).1.symm.trans q)
 |nd x=>exact r (.nd x) a ((e (.p (.nd x)) trivial).1.symm.trans q)
 |suc x=>exact r (.suc x) a ((e (.p (.suc x)) trivial).1.symm.trans q)
|some q=> haveI r:SR b g q:=r;haveI e2:=e .sd trivial;exact r.upd (e (.p .self) trivial) e2.1 (e (.p .n2i) trivial) (fun u_ u_ tp tf h=>⟨tp,tf,e2.2▸h⟩) (fun u_ u_ h=>ck.eq z (fun T t=>e T (aE.nds_srt t)) h) (fun u_ h=>gi.eq z (e (.p .rd) trivial) h) (gC.eq z fun T t=>e T (aE.nds_srt t)) (gF.eq fun T t=>e T (aE.nds_srt t))
theorem dN.eq(z:g.z.Le g'.z)(e:∀x l,g.at_ (.p (.suc x))=some l->g'.at_ (.p (.suc x))=some l)(k:∀j,g'.at_ (.sub i j)=g.at_ (.sub i j)/\g'.ob (.sub i j)=g.ob (.sub i j)):∀{its:List (Str×Nat)}{j:Nat}{vs:List Value},dN g i j its vs->dN g' i j its vs:=by
 intro its
 induction its with
|nil=> intro _ _ h;exact h
|cons p_ _ ih=> obtain⟨_,_⟩:=p_;intro _ _ h;exact h.imp fun u_ h=>h.imp fun u_ r=>⟨r.1,by cases r.2.1 with|mk l it mw h1 h2 h3 h4 h5=>exact .mk l it mw (e _ l h1) h2 (z.f _ _ h3) ((k _).1.trans h4) ((k _).2.trans h5),ih r.2.2⟩
theorem EV:fP ((k,j)::r) j=true:=by show(match Nat.beq j j with|true=>true|false=>fP r j)=true;rw[show Nat.beq j j=true from Nat.beq_refl j]
theorem Kb(h:fP r i=true):fP ((k,j)::r) i=true:=by
 show(match Nat.beq j i with|true=>true|false=>fP r i)=true;cases Nat.beq j i with
|true=>rfl
|false=>exact h
theorem fS.eq:∀{es:List (Str×Nat)}{kvs:List (Str×Value)},(∀j a,fP es j=true->g.at_ (.p (.loc j))=some a->g'.at_ (.p (.loc j))=some a)->fS g es kvs->fS g' es kvs:=by
 intro es
 induction es with
|nil=> intro _ _ h;exact h
|cons p_ _ ih=> obtain⟨_,j⟩:=p_;intro _ e h;exact h.imp fun u_ h=>h.imp fun u_ r=>⟨r.1,by cases r.2.1 with|mk a h1 h2=>exact⟨a,h1,e j a EV h2⟩,ih (fun i a u=>e i a (Kb u)) r.2.2⟩
theorem OR.eq(z:g.z.Le g'.z)(e:∀p a,(∀j,p=.loc j->sH o j=true)->g.at_ (.p p)=some a->g'.at_ (.p p)=some a)(k:∀T,T.own i->g'.at_ T=g.at_ T/\g'.ob T=g.ob T)(r:OR b g i o):OR b g' i o:=by
 haveI e1:=k (.p (.loc i)) rfl;haveI kk:=fun j=>k (.sub i j) rfl;haveI es:=fun x l=>e (.suc x) l fun u_ q=>by cases q
 cases o with
|none=>exact e1.1.trans r
|some o=>
  cases o with
 |list xs=>exact cA.eq z e1 r
 |dict es=>cases r with|mk a kvs h1 h2 h3=>exact .mk a kvs (e1.1.trans h1) (e1.2▸h2) (DRs.mono z h3)
 |dl es=>cases r with|mk a kvs h1 h2 h3=>exact .mk a kvs (e1.1.trans h1) (e1.2▸h2) (fS.eq (fun j a u=>e (.loc j) a fun i q=>by cases q;exact u) h3)
 |set us=>cases r with|mk a h1 h2=>exact .mk a (e1.1.trans h1) (e1.2▸h2)
 |iters its=>cases r with|mk a vs n h1 h2 h3=>exact .mk a vs n (e1.1.trans h1) (e1.2.trans h2) (dN.eq z es kk h3)
 |itersD its=>obtain⟨v,r⟩:=r;cases r with|mk a vs n h1 h2 h3=>exact⟨v,.mk a vs n (e1.1.trans h1) (e1.2.trans h2) (dN.eq z es kk h3)⟩
theorem db.mono(s:g.Le g')(e:e8 aE.frm g g')(h:db c l g):db c l g':=by obtain⟨m,h1,h2⟩:=h.ns;refine⟨(e .L trivial).1.trans h.L,⟨m,(e .L trivial).2▸h1,fun n v k q=>let ⟨val,r,t⟩:=h2 n v k q;⟨val,r,VV.mono s t⟩⟩,fun n k=>?_,fun n v k q=>let ⟨a,o,val,r1,r2,r3,r4⟩:=h.free n v k q;⟨a,o,val,r1,r2,r3,VV.mono s r4⟩⟩;obtain⟨a,cv,r1,r2,r3,r4⟩:=h.cell n k;exact⟨a,cv,r1,(e (.cell n) trivial).1.trans r2,(e (.cell n) trivial).2▸r3,fun v q=>let ⟨val,r,t⟩:=r4 v q;⟨val,r,VV.mono s t⟩⟩
theorem hZ.mono{c:Value}(s:z.Le z')(h:hZ z c):hZ z' c:=by cases h with|mk a o vs q t h1 h2 h3 h4=>exact .mk a o vs q t h1 (s.f _ _ h2) h3 h4
theorem kA.mono(s:z.Le z')(h:kA z o p):kA z' o p:=by
 cases h with|mk ps h1 h2 h3=>
 exact .mk ps h1 (fun h k=>h2 h fun a o q=>k a o (s.f a o q)) fun pos c q=>(h3 pos c q).mono s
theorem FY{T:aE}(h:T.own j)(k:T.own i):j=i:=by
 cases T with
|p p=>cases p<;>first|exact h.symm.trans k|exact h.elim
|sub _ _=>exact h.symm.trans k
|_=>exact h.elim
theorem zg{T:aE}(h:T.own j):¬(T.srt\/T.frm):=by
 cases T with
|p p=>cases p<;>first|exact h.elim|exact fun k=>k.elim id id
|sub _ _=>exact fun k=>k.elim id id
|_=>exact h.elim
theorem aW.frz(r:aW c σ g)(s:g.Le g')(e:∀T,g'.at_ T=g.at_ T/\g'.ob T=g.ob T)(z:g'.z.st=g.z.st):aW c σ g':=
 ⟨r.fr.mono s fun T u_=>e T,fun i=>OR.eq s.z (fun p a u_=>s.p p a) (fun T u_=>e T) (r.loc i),eH.eq s.z (fun T u_=>e T) r.srt,fun k p h=>let ⟨h1,h2⟩:=r.tab k p h;⟨(e _).1.trans h1,(e _).2▸h2.mono s.z⟩,fun k h=>(congrFun z k).trans (r.st k h)⟩
theorem wm:∀{l:List α}{i:Nat}{x:α},aq l i=some x->aq (bc l i a) i=some a:=@fun b c d e=>match b,c,d,e with
|[],_,_,h=>by cases h
|_::_,0,_,_=>rfl
|_::r,n+1,_,h=>wm (l:=r) h
theorem xB:∀{l:List α}{i j:Nat},j≠i->aq (bc l i a) j=aq l j:=@fun b c d e=>match b,c,d,e with
|[],_,_,_=>rfl
|_::_,0,0,h=>absurd rfl h
|_::_,0,_+1,_=>rfl
|_::_,_+1,0,_=>rfl
|_::r,n+1,m+1,h=>xB (l:=r) fun q=>h (by rw[q])
theorem aW.locG(r:aW c σ g)(s:g.Le g')(e:∀T,¬T.own i->g'.at_ T=g.at_ T/\g'.ob T=g.ob T)(z:g'.z.st=g.z.st)(h:aq σ.h i=some ao)(o:OR c.b g' i (some ao')):aW c {σ with h:=bc σ.h i ao'} g':=by
 refine⟨r.fr.mono s fun T t=>e T fun q=>?_,fun j=>?_,eH.eq s.z (fun T t=>e T fun q=>?_) r.srt,fun k p h=>let ⟨h1,h2⟩:=r.tab k p h;⟨(e (.tab k) id).1.trans h1,(e (.tab k) id).2▸h2.mono s.z⟩,fun k h=>(congrFun z k).trans (r.st k h)⟩
 ·cases T<;>first|exact q|exact t
 ·by_cases q:j=i
  ·subst q;rw[wm h];exact o
  ·show OR c.b g' j (aq (bc σ.h i ao') j);rw[xB q];exact OR.eq s.z (fun p a u_=>s.p p a) (fun T t=>e T fun u=>q (FY t u)) (r.loc j)
 ·cases T with
 |p y=>cases y<;>first|exact q|exact t
 |_=>first|exact q|exact t
theorem aW.srtG(r:aW c σ g)(s:g.Le g')(e:∀T,¬T.srt->g'.at_ T=g.at_ T/\g'.ob T=g.ob T)(z:g'.z.st=g.z.st)(o:SR c.b g' q):aW c {σ with q:=some q} g':=by refine⟨r.fr.mono s fun T t=>e T fun q=>?_,fun j=>OR.eq s.z (fun p a u_=>s.p p a) (fun T t=>e T fun u=>zg t (.inl u)) (r.loc j),o,fun k p h=>let ⟨h1,h2⟩:=r.tab k p h;⟨(e (.tab k) id).1.trans h1,(e (.tab k) id).2▸h2.mono s.z⟩,fun k h=>(congrFun z k).trans (r.st k h)⟩;cases T<;>first|exact q|exact t
theorem aW.frmG(r:aW c σ g)(s:g.Le g')(e:∀T,¬T.frm->g'.at_ T=g.at_ T/\g'.ob T=g.ob T)(z:g'.z.st=g.z.st)(o:db c l g'):aW c {σ with l:=l} g':=
 ⟨o,fun j=>OR.eq s.z (fun p a u_=>s.p p a) (fun T t=>e T fun u=>zg t (.inr u)) (r.loc j),eH.eq s.z (fun T t=>e T fun q=>by cases T<;>first|exact q|exact t) r.srt,fun k p h=>let ⟨h1,h2⟩:=r.tab k p h;⟨(e (.tab k) id).1.trans h1,(e (.tab k) id).2▸h2.mono s.z⟩,fun k h=>(congrFun z k).trans (r.st k h)⟩
end
structure Dy(c:Fr)(σ:Sx) where
 g:Gh
 s:Shared
 h:HC c g s
 r:aW c σ g
noncomputable def Le(d:Dy c σ)(d':Dy c af):Prop:=d.g.Le d'.g
noncomputable def VD(d:Dy c σ)(v:V)(val:Value):Prop:=VV c.b d.g v val
noncomputable abbrev Wp(c:Fr)(m:Sem α)(Q:α->Shared->Prop)(s:Shared):Prop:=wpAny c.b.M c.A m Q c.E s
section
variable{c:Fr}{σ af Lr:Sx}
theorem Le.refl(d:Dy c σ):Le d d:=Gh.Le.refl _
theorem Le.trans(x:Le d d')(y:Le d' d''):Le d d'':=Gh.Le.trans x y
theorem VD.mono(x:Le d d')(h:VD d v val):VD d' v val:=VV.mono x h
noncomputable def Dy.keeps(d:Dy c σ){s':Shared}(hk:∀a o,d.s.heap.get? a=some o->s'.heap.get? a=some o)(ho:s'.os=d.s.os)(hg:s'.gens=d.s.gens)(ht:0 < s'.toks):Dy c σ:=⟨d.g,s',d.h.keeps hk ho hg ht,d.r⟩
noncomputable def Dy.tok(d:Dy c σ)(t:Nat)(ht:d.s.toks<=t:=by lia):Dy c σ:=d.keeps (s':={d.s with toks:=t}) (fun u_ u_ h=>h) rfl rfl (Nat.lt_of_lt_of_le d.h.tk ht)
noncomputable def Dy.push(d:Dy c σ)(o:Obj)(ho:o.isFreed=false):Dy c σ:=
 have hn:(d.s.heap.push o).get? d.s.heap.objs.size=some o:=Heap.get?_push_size _ ho;have e:=Heap.get?_none_of_le (h:=d.s.heap) (Nat.le_refl _)
 ⟨d.g.fz d.s.heap.objs.size o,{d.s with heap:=d.s.heap.push o},d.h.frz e (fun a o' q=>Heap.get?_push_of_some _ q) hn rfl rfl (Nat.le_refl _),d.r.frz (Gh.fz_le (d.h.fresh e).1) (fun u_=>⟨rfl,rfl⟩) rfl⟩
end
noncomputable def jG(b:aN):X->Value
|.value _=>.type "ValueError"
|.cycle=>.ref (b.fa 17)
|.stop=>.type "StopIteration"
inductive bI(b:aN)(fr:Option Addr)(g:Gh)(x:X)(a:Addr):Prop
|mk (vs:Array Value):g.at_ (.exc 0)=some a->(g.ob (.exc 0)).cls=jG b x->(g.ob (.exc 0)).data=.fields vs->(∀t,x=.value t->∃T n tk,vs[0]?=some (.ref T)/\g.z.f T=some (iN [.str t tk] n)) ->
  ((vs[1]?=some .none/\g.at_ (.exc 1)=none)\/(∃T ts fl,vs[1]?=some (.ref T)/\g.at_ (.exc 1)=some T/\(g.ob (.exc 1)).data=.fields ts/\ts[3]?=some fl/\(fl=.none\/∃L,fr=some L/\fl=rawInt L)))->bI b fr g x a
noncomputable def aB(d:Dy c σ)(R:aN->Gh->α->β->Prop)(r:aG α)(Q:β->Shared->Prop):Prop:=match r with
|.ok v af=>∀(d':Dy c af)(val:β),Le d d'->R c.b d'.g v val->Q val d'.s
|.exc x af=>c.A.handled=none/\∀(d':Dy c af)(a:Addr),Le d d'->bI c.b c.env.frame d'.g x a->c.E (.ref a) d'.s
|.bad=>False
noncomputable def aG.bnd(r:aG α)(f:α->Sx->aG β):aG β:=match r with
|.ok a s=>f a s
|.exc x s=>.exc x s
|.bad=>.bad
structure In(c:Fr)(e:Ev)(n:Nat):Prop where
 e:c.e=e
 n:n<=c.n
 h:c.A.handled=none
section
variable{c:Fr}{σ af:Sx}
theorem aB.after(x:Le d d')(p:aB d R r Q):aB d' R r Q:=by
 cases r with
|ok v s=>exact fun d'' val y=>p d'' val (x.trans y)
|exc z s=>exact⟨p.1,fun d'' a y=>p.2 d'' a (x.trans y)⟩
|bad=>exact p
theorem aB.bnd(p:aB d R' (r.bnd f) Q')(h:∀v af(d':Dy c af)val,Le d d'->R c.b d'.g v val->aB d' R' (f v af) Q'->Q val d'.s):aB d R r Q:=by
 cases r with
|ok v s=>exact fun d' val x rv=>h v s d' val x rv (p.after x)
|exc z s=>exact p
|bad=>exact p
end
noncomputable def SE(e:Ev)(n:Nat)(x:Expr)(σ:Sx)(r:aG V):Prop:=∀(c:Fr),In c e n->∀(d:Dy c σ)(Q:Value->Shared->Prop),aB d VV r Q->Wp c (eval x c.env) Q d.s
inductive bt(e:Ev)(y:Str)(σ:Sx)(v:V):Prop
|loc:ad e.names y=some .local->ad σ.l y=some v->bt e y σ v
|cell:ad e.names y=some .cell->ad σ.l y=some v->bt e y σ v
|free:ad e.names y=some .free->ad e.free y=some v->bt e y σ v
|glob:ad e.names y=some .globalImplicit->glob y=some v->bt e y σ v
section
variable{c:Fr}{σ af:Sx}{e:Ev}{y:Str}{v:V}
theorem HC.ns(h:HC c g s)(e:g.at_ T=some a)(n:oN (g.ob T) m):s.heap.Ns a m:=by cases n with|mk es ep h1 h2 h3=>exact⟨_,es,ep,h.at_ T a e,h1,h2,h3⟩
theorem HC.b(h:HC c g s)(e:c.b.B.get? a=some o)(n:a∉c.b.tabA):s.heap.get? a=some o:=h.zf _ _ (h.base _ _ e n)
theorem HC.bns(h:HC c g s)(n:c.b.B.Ns a m):s.heap.Ns a m:=by obtain⟨o,es,ep,ho,hd,r⟩:=n;refine⟨o,es,ep,h.b ho fun q=>?_,hd,r⟩;obtain⟨vs,e⟩:=c.ok.tabs a q;rw[e]at ho;cases ho;cases hd
theorem yu(k:bt e y σ v)(i:c.e=e)(d:Dy c σ)(h:∀val,VD d v val->Q val d.s):Wp c (loadName c.env y) Q d.s:=by
 subst i;haveI fn:=c.k.fn;cases k with
|loc h1 h2=> obtain⟨m,r1,r2⟩:=d.r.fr.ns;obtain⟨val,e1,e2⟩:=r2 y v h1 h2;exact wpAny_loadName_local fn (c.k.kinds y _ h1) (d.h.ns d.r.fr.L r1) e1 (h val e2)
|cell h1 h2=> obtain⟨a,cv,e1,e2,e3,e4⟩:=d.r.fr.cell y h1;obtain⟨val,rfl,e5⟩:=e4 v h2;exact wpAny_loadName_cell fn (c.k.kinds y _ h1) e1 ⟨_,d.h.at_ _ _ e2,e3⟩ (h val e5)
|free h1 h2=>
  obtain⟨a,o,val,e1,e2,e3,e4⟩:=d.r.fr.free y v h1 h2;obtain⟨sl,e5,_⟩:=d.h.xs a o e2;rcases c.k.kinds y _ h1 with kd|kd
  ·exact wpAny_loadName_free fn kd e1 ⟨_,e5,e3⟩ (h val e4) (c.k.dbg y _ h1).2
  ·exact wpAny_loadName_cell fn kd e1 ⟨_,e5,e3⟩ (h val e4)
|glob h1 h2=>
  obtain⟨mg,mb,G,B,H⟩:=c.ok.glob;obtain⟨z,val,rfl,hval,hfr⟩:=H y v h2;haveI k:=c.k;rw[loadName_read fn (k.kinds y _ h1)];haveI G':d.s.heap.Ns c.env.globals mg:=by rw[k.glo];exact d.h.bns G
  rcases hval with q|⟨q1,q2⟩
  ·exact Calls.loadGlobal_global G' q (h val (hfr _))
  ·exact Calls.loadGlobal_builtin G' q1 (by rw[k.blt];exact d.h.bns B) q2 (h val (hfr _))
theorem bt.dbg(k:bt e y σ v)(i:c.e=e):(y==("__debug__":Str))=false:=by
 subst i;cases k with
|loc h _=>exact(c.k.dbg y _ h).1
|cell h _=>exact(c.k.dbg y _ h).1
|free h _=>exact(c.k.dbg y _ h).1
|glob h _=>exact(c.k.dbg y _ h).1
theorem ei(k:bt e y σ v)(i:c.e=e)(d:Dy c σ)(h:∀val,VD d v val->Q val d.s):Wp c (eval (.Name y pos) c.env) Q d.s:=wpAny_Name (yu k i d h) (k.dbg i)
theorem ae(k:bt e y σ v):SE e n (.Name y pos) σ (.ok v σ):=fun u_ i d u_ p=>ei k i.e d fun val r=>p d val (.refl d) r
end
section
variable{c:Fr}
theorem Gh.set_at{g:Gh}(h:g.at_ T=a):(g.set T a o).at_ T'=g.at_ T':=by
 by_cases q:T'=T
 ·rw[q,Gh.at_same,h]
 ·exact Gh.at_ne q
theorem Gh.set_out{g:Gh}(h:T'≠T):(g.set T a o).at_ T'=g.at_ T'/\(g.set T a o).ob T'=g.ob T':=⟨Gh.at_ne h,Gh.ob_ne h⟩
theorem Dy.hset(d:Dy c σ)(e:d.g.at_ T=some a)(hT:∀k,T≠.tab k)(hs:Heap.SameBut a d.s.heap h')(hn:h'.get? a=some o)(ht:d.s.toks<=t):HC c (d.g.set T (some a) o) {d.s with heap:=h',toks:=t}:=
 d.h.upd e hT (fun x q=>hs.2 x q) hn rfl rfl ht
end
inductive bF(e:Ev)(y:Str):Prop
|loc:ad e.names y=some .local->bF e y
|cell:ad e.names y=some .cell->bF e y
theorem dB:∀{l:List (Str×α)},ad (ag l x a) y=if y=x then some a else ad l y:=by
 intro l
 induction l with
|nil=>
  show(match ah y x with|true=>some a|false=>none)=_;by_cases h:y=x
  ·rw[h,bU,if_pos rfl]
  ·rw[gQ h,if_neg h];rfl
|cons p_ r ih=>
  obtain⟨z,b⟩:=p_;rw[gf,i9 (x:=y)];cases q:ah x z with
 |true=>
   haveI:=bD.mp q;subst this;dsimp only;rw[i9];by_cases h:y=x
   ·rw[h,bU,if_pos rfl]
   ·rw[gQ h,if_neg h]
 |false=>
   dsimp only;rw[i9];cases p:ah y z with
  |true=> haveI:=bD.mp p;subst this;rw[if_neg (fun h=>by rw[h,bU]at q;cases q)]
  |false=>exact ih
section
variable{c:Fr}{y:Str}{v:V}{val:Value}
theorem Ip(m:Str->Option Value)(s:g.Le g')(r:VV c.b g v val)(hl:ad (ag l y v) n=some u)(h:ad l n=some u->∃u',m n=some u'/\VV c.b g u u'):∃u',(if n=y then some val else m n)=some u'/\VV c.b g' u u':=by
 rw[dB]at hl;by_cases q:n=y
 ·rw[if_pos q]at hl ⊢;cases hl;exact⟨val,rfl,VV.mono s r⟩
 ·rw[if_neg q]at hl ⊢;obtain⟨u',e1,e2⟩:=h hl;exact⟨u',e1,VV.mono s e2⟩
theorem kj(k:bF e y)(i:c.e=e)(d:Dy c σ)(r:VD d v val){Q:Unit->Shared->Prop}(h:∀d':Dy c {σ with l:=ag σ.l y v},Le d d'->Q () d'.s):Wp c (storeName c.env y val) Q d.s:=by
 subst i;have F:=d.r.fr;cases k with
|loc h1=>
  obtain⟨m,r1,r2⟩:=F.ns;refine wpAny_storeName_local (c.k.kinds y _ h1) (d.h.ns F.L r1) (fun h' hn hs=>?_) (by rw[c.k.fn];rfl);obtain⟨o,es,ep,ho,q1,q2,q3⟩:=hn;have s:=Gh.set_le (o:=o) F.L;refine h ⟨_,_,d.hset F.L (fun u_ q=>by cases q) hs ho (Nat.le_succ _),d.r.frmG s (fun T t=>Gh.set_out fun q=>t (q▸trivial)) rfl ⟨(Gh.set_at F.L).trans F.L,⟨_,?_,fun n u q hl=>Ip m s r hl (r2 n u q)⟩,fun n q=>?_,fun n u q hl=>?_⟩⟩ s
  ·rw[Gh.ob_same];exact⟨es,ep,q1,q2,q3⟩
  ·obtain⟨a,cv,e1,e2,e3,e4⟩:=F.cell n q;have ne:¬n=y:=fun z=>by rw[z,h1]at q;cases q
   exact⟨a,cv,e1,(Gh.set_at F.L).trans e2,by rw[Gh.ob_ne (by simp)];exact e3,fun u hl=>by rw[dB,if_neg ne]at hl;obtain⟨u',a1,a2⟩:=e4 u hl;exact⟨u',a1,VV.mono s a2⟩⟩
  ·obtain⟨a,o,u',e1,e2,e3,e4⟩:=F.free n u q hl;exact⟨a,o,u',e1,e2,e3,VV.mono s e4⟩
|cell h1=>
  obtain⟨a,cv,e1,e2,e3,e4⟩:=F.cell y h1;refine wpAny_storeName_cell c.k.fn (c.k.kinds y _ h1) e1 ⟨_,d.h.at_ _ _ e2,e3⟩ (fun h' hn hs=>?_);obtain⟨o,ho,hd⟩:=hn;have s:=Gh.set_le (o:=o) e2;refine h ⟨_,_,d.hset e2 (fun u_ q=>by cases q) hs ho (Nat.le_refl _),d.r.frmG s (fun T t=>Gh.set_out fun q=>t (q▸trivial)) rfl ⟨(Gh.set_at e2).trans F.L,?_,fun n q=>?_,fun n u q hl=>?_⟩⟩ s
  ·obtain⟨m,r1,r2⟩:=F.ns;refine⟨m,by rw[Gh.ob_ne (by simp)];exact r1,fun n u q hl=>?_⟩;haveI ne:¬n=y:=fun z=>by rw[z,h1]at q;cases q
   rw[dB,if_neg ne]at hl;obtain⟨u',a1,a2⟩:=r2 n u q hl;exact⟨u',a1,VV.mono s a2⟩
  ·by_cases z:n=y
   ·subst z;exact⟨a,_,e1,(Gh.set_at e2).trans e2,by rw[Gh.ob_same];exact hd,fun u hl=>by rw[dB,if_pos rfl]at hl;cases hl;exact⟨val,rfl,VV.mono s r⟩⟩
   ·obtain⟨a',cv',f1,f2,f3,f4⟩:=F.cell n q;exact⟨a',cv',f1,(Gh.set_at e2).trans f2,by rw[Gh.ob_ne (fun w=>z (by cases(w);rfl))];exact f3,fun u hl=>by rw[dB,if_neg z]at hl;obtain⟨u',a1,a2⟩:=f4 u hl;exact⟨u',a1,VV.mono s a2⟩⟩
  ·obtain⟨a',o',u',f1,f2,f3,f4⟩:=F.free n u q hl;exact⟨a',o',u',f1,f2,f3,VV.mono s f4⟩
end
theorem VV.int(h:VV b g (.f (.int i)) v):v=.int i (dA v):=h
theorem VV.str(h:VV b g (.f (.str x)) v):v=.str x (dA v):=h
theorem FRs.length:∀{xs:List F}{vs:List Value},FRs b z xs vs->vs.length=xs.length:=@fun a c d=>match a,c,d with
|[],_,e=>congrArg List.length (show _=_ from e)
|_::_,_,⟨_,_,e,_,r⟩=>(congrArg List.length e).trans (congrArg (·+1) (FRs.length r))
theorem FRs.append:∀{xs ys:List F}{vs us:List Value},FRs b z xs vs->FRs b z ys us->FRs b z (xs++ys) (vs++us):=@fun a c d f g i=>match a,c,d,f,g,i with
|[],_,_,_,e,r=>(show _=_ from e)▸r
|_::_,_,_,us,⟨v,vs,e,h,r⟩,t=>⟨v,vs++us,congrArg (·++us) e,h,FRs.append r t⟩
theorem FRs.snoc(r:FRs b z xs vs)(a:FR b z x v):FRs b z (xs++[x]) (vs++[v]):=FRs.append r ⟨v,[],rfl,a,rfl⟩
inductive uf{c:Fr}{σ:Sx}(d:Dy c σ)(xs:List F):Value->Prop
|mk (l:Addr) (vs:List Value) (n:Nat):IsL d.s.heap l vs.toArray n->FRs c.b d.g.z xs vs->uf d xs (.ref l)
theorem cA.v{d:Dy c σ}(h:cA c.b d.g p xs)(e:d.g.at_ (.p p)=some a):uf d xs (.ref a):=by
 cases h with|mk a' vs n h1 h2 h3=>
 rw[e]at h1;cases h1;exact⟨a,vs,n,(d.h.at_ _ _ e).trans (congrArg some h2),h3⟩
theorem w0:∀{ns:List (Str×aZ)}{kvs:List (Str×Value)},ck b g ns kvs->ad ns x=some nd->∃v,ch b g x nd v/\(x,v)∈kvs:=by
 intro ns
 induction ns with
|nil=> intro _ _ h;cases h
|cons p_ r ih=>
  obtain⟨y,n⟩:=p_;intro _ N h;obtain⟨v,kvs,rfl,h2,h3⟩:=N;rw[i9]at h;cases q:ah x y with
 |true=>rw[q]at h;cases h;cases bD.mp q;exact⟨v,h2,.head _⟩
 |false=>rw[q]at h;exact(ih h3 h).imp fun u r=>⟨r.1,.tail _ r.2⟩
inductive eQ(σ:Sx)(xs:List F):P->Prop
|loc (i:Nat):aq σ.h i=some (.list xs)->eQ σ xs (.loc i)
|suc (x:Str) (q:bW) (nd:aZ):σ.q=some q->ad q.n2i x=some nd->xs=nd.succ.map F.str->eQ σ xs (.suc x)
|rd (q:bW) (r:List Str):σ.q=some q->q.ready=some r->xs=r.map F.str->eQ σ xs .rd
noncomputable def nH(σ:Sx)(p:P):Option {xs // eQ σ xs p}:=match p with
|.loc i=>match h:aq σ.h i with
 |some (.list xs)=>some ⟨xs,.loc i h⟩
 |_=>none
|.suc x=>match h:σ.q with
 |some q=>match h2:ad q.n2i x with
  |some nd=>some ⟨_,.suc x q nd h h2 rfl⟩
  |none=>none
 |none=>none
|.rd=>match h:σ.q with
 |some q=>match h2:q.ready with
  |some r=>some ⟨_,.rd q r h h2 rfl⟩
  |none=>none
 |none=>none
|_=>none
theorem eQ.at_(h:eQ σ xs p)(d:Dy c σ):cA c.b d.g p xs:=by
 cases h with
|loc i h=>haveI:=d.r.loc i;rw[h]at this;exact this
|suc x q nd h1 h2 h3=>
  haveI:=d.r.srt;rw[h1]at this;cases this with|mk _ _ _ _ _ _ kvs _ _ _ _ _ _ N _ _ _=>
  obtain⟨v,N,_⟩:=w0 N h2;cases N with|mk _ _ _ _ _ _ _ _ _ _ _ L=>exact h3▸L
|rd q r h1 h2 h3=>
  haveI:=d.r.srt;rw[h1]at this;cases this with|mk _ _ _ _ _ _ _ _ _ _ _ _ _ _ R _ _=>
  rw[h2]at R;cases R with|mk _ _ _ R=>exact h3▸R
inductive bV(σ:Sx)(xs:List F):V->Prop
|f:bV σ xs (.f (.list xs))
|p (p:P):eQ σ xs p->bV σ xs (.p p)
theorem bV.v{v:V}(h:bV σ xs v)(d:Dy c σ)(r:VD d v val):uf d xs val:=by
 cases h with
|f=>obtain⟨vs,⟨a,n,rfl,h1⟩,h2⟩:=r;exact⟨a,vs,n,d.h.zf _ _ h1,h2⟩
|p p h=>obtain⟨a,rfl,e⟩:=r;exact(h.at_ d).v e
noncomputable def ds(op:Operator)(x y:V)(σ:Sx)(r:aG V):Prop:=∀(c:Fr)(d:Dy c σ)(a b:Value),VD d x a->VD d y b->∀Q,aB d VV r Q->Wp c (binaryOp op a b) Q d.s
theorem eg{d:Dy c σ}(p:aB d VV (.ok (.f (.int i)) σ) Q)(h:d.s.toks<=k):Q (.int i t) {d.s with toks:=k}:=p (d.tok k h) _ (Gh.Le.refl _) rfl
theorem g7{d:Dy c σ}(p:aB d VV (.ok (.f (.str x)) σ) Q)(h:d.s.toks<=k):Q (.str x t) {d.s with toks:=k}:=p (d.tok k h) _ (Gh.Le.refl _) rfl
theorem eB:ds .Add (.f (.int i)) (.f (.int j)) σ (.ok (.f (.int (i+j))) σ):=fun u_ u_ u_ u_ ra rb u_ p=>by rw[ra.int,rb.int];exact P.add_int (eg p (Nat.le_succ _))
theorem qX:ds .Sub (.f (.int i)) (.f (.int j)) σ (.ok (.f (.int (i-j))) σ):=fun u_ u_ u_ u_ ra rb u_ p=>by rw[ra.int,rb.int];exact P.sub_int (eg p (Nat.le_succ _))
theorem xj(h1:decide (-1152921504606846976 < i)=true)(h2:decide (i < 1152921504606846976)=true):ds .Mult (.f (.int i)) (.f (.int j)) σ (.ok (.f (.int (i*j))) σ):=fun u_ u_ u_ u_ ra rb u_ p=>by rw[ra.int,rb.int];exact P.mul_int (eg p (Nat.le_succ _)) (IntMulOk.of_left (intBits_le_64 (Int.le_of_lt (Int.lt_trans (by decide) (of_decide_eq_true h1))) (Int.lt_trans (of_decide_eq_true h2) (by decide))))
theorem Dd(h1:decide (0 < j)=true)(h2:decide (j.natAbs < 1073741824)=true):ds .FloorDiv (.f (.int i)) (.f (.int j)) σ (.ok (.f (.int (Int.fdiv i j))) σ):=fun u_ u_ u_ u_ ra rb u_ p=>by rw[ra.int,rb.int];exact floordiv_int (Int.ne_of_gt (of_decide_eq_true h1)) (eg p (Nat.le_succ _)) (.inl (PyProof.noPylong_small (of_decide_eq_true h2)))
theorem A0(h1:decide (0 < j)=true):ds .Mod (.f (.int i)) (.f (.int j)) σ (.ok (.f (.int (Int.fmod i j))) σ):=fun u_ u_ u_ u_ ra rb u_ p=>by rw[ra.int,rb.int];exact mod_int' (Int.ne_of_gt (of_decide_eq_true h1)) (eg p (Nat.le_succ _))
theorem H8:aw<=sizeLine:=by decide +kernel
theorem fits(h:Nat.ble n aw=true):n<=sizeLine:=Nat.le_trans (Nat.le_of_ble_eq_true h) H8
theorem lB(h:Nat.ble n aw=true):(n:Int) < 2 ^ 63:=Int.lt_of_le_of_lt (Int.ofNat_le.mpr (Nat.le_of_ble_eq_true h)) (by decide)
theorem eJ(x:Str):x.length=x.cps.toList.length:=by simp[Str.length]
theorem iz{x y:Str}(h:x.cps.toList=y.cps.toList):x=y:=by cases x;cases y;simp only[Str.mk.injEq];exact Array.toList_inj.mp h
theorem AN(xs:Array α):∀(n:Nat)(acc:Array α),((List.replicate n xs).foldl (·++·) acc).toList=acc.toList++eh xs.toList n:=by
 intro n
 induction n with
|zero=> intro acc;simp[eh]
|succ n ih=> intro acc;rw[List.replicate_succ,List.foldl_cons,ih];simp[eh]
theorem tj:∀n:Nat,eh ([]:List α) n=[]:=@fun a=>match a with
|0=>rfl
|n+1=>tj n
theorem xM(xs:List α):∀n:Nat,(eh xs n).length=xs.length*n:=@fun a=>match a with
|0=>rfl
|n+1=>by rw[eh,List.length_append,xM xs n,Nat.mul_succ,Nat.add_comm]
theorem tE:100*100<=sizeLine:=by decide +kernel
theorem FRs.rep(r:FRs b z xs vs):∀n:Nat,FRs b z (eh xs n) (eh vs n):=@fun a=>match a with
|0=>rfl
|n+1=>FRs.append r (FRs.rep r n)
section
variable{c:Fr}{σ:Sx}
theorem mD{d:Dy c σ}(p:aB d VV (.ok (.f (.list xs)) σ) Q)(h:FRs c.b d.g.z xs vs):Q (.ref d.s.heap.objs.size) {d.s with heap:=d.s.heap.push (aV vs n)}:=
 p (d.push _ rfl) _ (Gh.fz_le (d.h.fresh (Heap.get?_none_of_le (Nat.le_refl _))).1) ⟨vs,⟨_,n,rfl,Z.add_same⟩,FRs.mono (Z.add_le (d.h.fresh (Heap.get?_none_of_le (Nat.le_refl _))).1) h⟩
theorem gy{d:Dy c σ}(p:aB d VV (.ok v σ) Q)(h:VD d v val):Q val d.s:=p d val (Le.refl d) h
variable{i j:Int}{x y:Str}
theorem w5(h0:Nat.ble j.toNat 64=true)(h1:decide (0<=j)=true)(h2:decide (0<=i)=true)(h3:decide (i<=100)=true):ds .Pow (.f (.int i)) (.f (.int j)) σ (.ok (.f (.int (i ^ j.toNat))) σ):=fun u_ u_ u_ u_ ra rb u_ p=>by
 rw[ra.int,rb.int];refine pow_int (of_decide_eq_true h1) ?_ (eg p (Nat.le_succ _));haveI h4:=of_decide_eq_true h1;haveI hb:(Builtin.Int.intBits i:Int)<=64:=Int.ofNat_le.mpr (intBits_le_64 (Int.lt_of_lt_of_le (by decide) (of_decide_eq_true h2)) (Int.lt_of_le_of_lt (of_decide_eq_true h3) (by decide)));haveI hj:j<=64:=by rw[<- Int.toNat_of_nonneg h4];exact Int.ofNat_le.mpr (Nat.le_of_ble_eq_true h0)
 exact Int.le_trans (Int.mul_le_mul hb hj h4 (by decide)) (show(64:Int)*64<=2 ^ 27 by decide)
set_option tactic.hygienic true in
theorem gd(h:Nat.ble (x.cps.toList.length+y.cps.toList.length) aw=true):ds .Add (.f (.str x)) (.f (.str y)) σ (.ok (.f (.str (eV x y))) σ):=fun u_ d u_ u_ ra rb u_ p=>by
 rw[ra.str,rb.str];refine P.add_str ?_
 split
 ·rename_i hx;haveI:eV x y=y:=iz (by simp[eV,List.length_eq_zero_iff.mp (show x.cps.toList.length=0 by rw[<- eJ];exact beq_iff_eq.mp hx)]);rw[this]at p;exact gy p (rb.str.symm▸rb)
 ·split
  ·rename_i hy;haveI:eV x y=x:=iz (by simp[eV,List.length_eq_zero_iff.mp (show y.cps.toList.length=0 by rw[<- eJ];exact beq_iff_eq.mp hy)]);rw[this]at p;exact gy p (ra.str.symm▸ra)
  ·haveI:eV x y=x++y:=iz (by simp[eV,Str.cps_append]);rw[this]at p;exact⟨by rw[Str.length_append,eJ,eJ];exact fits h,g7 p (Nat.le_succ _)⟩
theorem jr(hx:bV σ xs v)(hy:bV σ ys u)(h:Nat.ble (xs.length+ys.length) aw=true):ds .Add v u σ (.ok (.f (.list (xs++ys))) σ):=fun c d u_ u_ ra rb u_ p=>by
 cases hx.v d ra with|mk l vs n hl hr=>
 cases hy.v d rb with|mk l' vs' n' hl' hr'=>
 haveI e:vs.toArray++vs'.toArray=(vs++vs').toArray:=List.append_toArray ..;refine concat_meets ⟨_,hl,rfl⟩ ⟨_,hl',rfl⟩ noFill_list_add seq_list_add PySem.F.slot_list_add PySem.F.entry_list_add (PySem.F.args_list_add_2 _ _) (list_addW l l' vs.toArray vs'.toArray n n' none none _ _ (by rw[List.size_toArray,List.size_toArray,hr.length,hr'.length];exact fits h)) ⟨hl,hl',?_⟩;rw[e];exact mD p (FRs.append hr hr')
theorem IV(h0:decide (0<=j)=true)(h1:decide (j<=100)=true)(hz:Nat.ble xs.length 100=true):ds .Mult (.f (.list xs)) (.f (.int j)) σ (.ok (.f (.list (eh xs j.toNat))) σ):=fun c d a u_ ra rb u_ p=>by
 obtain⟨vs,o0_,hr⟩:=ra;obtain⟨l,n,rfl,hl⟩:=o0_;rw[rb.int];have hl:IsL d.s.heap l vs.toArray n:=d.h.zf _ _ hl;have h1:=of_decide_eq_true h1;have h0:=of_decide_eq_true h0;have hm:vs.toArray.size*j.toNat<=100*100:=Nat.mul_le_mul (by rw[List.size_toArray,hr.length];exact Nat.le_of_ble_eq_true hz) (by lia);refine wpAny_binaryOp_repeat_ref (T:="list") (U:="int") (by decide) ⟨_,hl,rfl⟩ (fun s'=>typeIs_int s' j _) noFill_list_mul PySem.F.fills_int_mul PySem.F.slot_int_rmul repeat_list PySem.F.slot_int_index.lookup ?_;refine call_meets PySem.F.slot_int_rmul (typeIs_int d.s j _) PySem.F.entry_int_rmul (PySem.F.args_int_rmul_2 _ _) (int___rmul___int_list j _ l vs.toArray n) ⟨hl,rfl,⟨_,hl,rfl⟩,?_⟩;refine call_meets PySem.F.slot_list_mul ⟨_,hl,rfl⟩ PySem.F.entry_list_mul (PySem.F.args_list_mul_2 _ _) (AutoListH.list___mul___list_int_3 l vs.toArray n j _ (by simp[Builtin.List.listFitsIndex];lia) (by lia) (fun q=>Nat.lt_irrefl _ (Nat.lt_of_lt_of_le (of_decide_eq_true q) (Nat.le_trans hm tE)))) ⟨hl,?_⟩;have key:((List.replicate (if vs.toArray.isEmpty=true then 0 else j.toNat) vs.toArray).foldl (fun x1 x2=>x1++x2) #[])=(eh vs j.toNat).toArray:=by
  apply Array.toList_inj.mp;rw[AN];cases vs with
 |nil=>simp[tj,eh]
 |cons y r=>simp
 rw[key];exact mD p (FRs.rep hr _)
set_option tactic.hygienic true in
theorem tR(h0:decide (0<=j)=true)(h1:decide (j<=100)=true)(hz:Nat.ble x.cps.toList.length 100=true):ds .Mult (.f (.str x)) (.f (.int j)) σ (.ok (.f (.str ⟨(eh x.cps.toList j.toNat).toArray⟩)) σ):=fun c d a u_ ra rb u_ p=>by
 rw[ra.str,rb.int];haveI e0:=eJ x;haveI h1:=of_decide_eq_true h1;haveI h0:=of_decide_eq_true h0;haveI hz:=Nat.le_of_ble_eq_true hz;haveI hm:x.cps.toList.length*j.toNat<=100*100:=Nat.mul_le_mul hz (by lia);refine P.mul_str (by simp;lia) (fun hx u_=>?_) (fun hx u_=>?_) ?_
 ·haveI:(92233720368547758:Int)<=(2 ^ 63-1) / j:=Int.le_ediv_of_mul_le (by lia) (by lia);rw[e0];lia
 ·rw[e0];exact decide_eq_false (Nat.not_lt.mpr (Nat.le_trans hm tE))
 ·split
  ·rename_i hx;haveI:j.toNat=0:=by lia
   rw[this]at p;exact⟨by decide,g7 p (Nat.le_succ _)⟩
  ·split
   ·rename_i hx;haveI e1:eh x.cps.toList j.toNat=x.cps.toList:=by
     simp only[Bool.or_eq_true,beq_iff_eq]at hx;rcases hx with q|q
     ·subst q;simp[eh]
     ·rw[List.length_eq_zero_iff.mp (show x.cps.toList.length=0 by rw[<- e0];exact q),tj]
    rw[e1,show(⟨x.cps.toList.toArray⟩:Str)=x from iz (by simp)]at p;exact gy p (ra.str.symm▸ra)
   ·haveI e1:(⟨(List.replicate j.toNat x.cps).foldl (·++·) #[]⟩:Str)=⟨(eh x.cps.toList j.toNat).toArray⟩:=iz (by rw[AN];simp);rw[e1];exact⟨by rw[eJ];simp only[List.toList_toArray,xM];exact Nat.le_trans hm tE,g7 p (Nat.le_succ _)⟩
end
end
section
open PySem PySem.W PyProof.Rows PySem.SeqAt
open Classical
noncomputable def aE.keep(sh:Bool):aE->Prop
|.p (.loc _)=>sh=true
|.sub _ _=>sh=true
|.L=>False
|.cell _=>False
|.exc _=>False
|_=>True
noncomputable def aE.back(sh:Bool):aE->Prop
|.exc _=>True
|T=>T.keep sh
noncomputable def dq(h:Heap)(a:Option Addr)(d:Obj:=default):Obj:=(a.bind h.get?).getD d
theorem dR(e:h.get? a=some o):dq h (some a) d=o:=by unfold dq;rw[Option.bind_some,e];rfl
noncomputable def Gh.enter(g:Gh)(sh:Bool)(fa:aE->Option Addr)(h:Heap):Gh:={z:=g.z,at_:=fun T=>if T.keep sh then g.at_ T else fa T,ob:=fun T=>if T.keep sh then g.ob T else dq h (fa T)}
noncomputable def Gh.leave(g g₂:Gh)(sh:Bool)(h:Heap):Gh:={z:=g₂.z,at_:=fun T=>if T.back sh then g₂.at_ T else g.at_ T,ob:=fun T=>if T.back sh then g₂.ob T else dq h (g.at_ T) (g.ob T)}
noncomputable def Fr.xs(c:Fr)(g:Gh)(sh:Bool)(a:Addr):Option Obj:=if h:∃T,¬T.keep sh/\g.at_ T=some a then some (g.ob (choose h))else c.X a
noncomputable abbrev Fr.sub(c:Fr)(A:Around)(env:Env)(e:Ev)(E:Value->Shared->Prop)(X:Addr->Option Obj)(fs:List Addr)(n:Nat)(k:ca c.b A env e X fs n):Fr:=⟨c.b,c.ok,A,env,e,E,X,fs,n,k⟩
section
variable{c:Fr}{g g₂:Gh}{s s₂:Shared}{sh:Bool}{fa:aE->Option Addr}{A:Around}{env:Env}{e:Ev}{E:Value->Shared->Prop}{fs:List Addr}{n:Nat}
theorem kS(h:HC c g s)(k:¬T.keep sh)(e:g.at_ T=some a):c.xs g sh a=some (g.ob T):=by haveI z:∃T,¬T.keep sh/\g.at_ T=some a:=⟨T,k,e⟩;unfold Fr.xs;rw[dif_pos z,h.inj _ _ _ (choose_spec z).2 e]
theorem iD(h:HC c g s)(e:c.X a=some o):c.xs g sh a=some o:=by unfold Fr.xs;rw[dif_neg fun⟨T,_,q⟩=>(h.xz a o e).2 T q];exact e
set_option tactic.hygienic true in
theorem sf(e:c.xs g sh a=some o):(∃T,¬T.keep sh/\g.at_ T=some a/\o=g.ob T)\/c.X a=some o:=by
 unfold Fr.xs at e
 split at e
 ·rename_i z;cases e;exact .inl ⟨_,(choose_spec z).1,(choose_spec z).2,rfl⟩
 ·exact .inr e
theorem HC.enter(h:HC c g s){k:ca c.b A env e (c.xs g sh) fs n}(hk:∀a o,s.heap.get? a=some o->s₂.heap.get? a=some o)(hf:∀T a,fa T=some a->s.heap.get? a=none/\∃o,s₂.heap.get? a=some o)(hi:∀T T' a,fa T=some a->fa T'=some a->T=T')
  (hs:∀a∈c.fs,a∈fs) (ho:s₂.os=s.os) (hg:s₂.gens=s.gens) (ht:s.toks<=s₂.toks) (hb:∀T a,fa T=some a->a∉c.b.tabA):HC (c.sub A env e E (c.xs g sh) fs n k) (g.enter sh fa s₂.heap) s₂:=by
 have K:=h.keeps hk ho hg (Nat.lt_of_lt_of_le h.tk ht);have aa:∀T a,(g.enter sh fa s₂.heap).at_ T=some a->(T.keep sh/\g.at_ T=some a)\/(¬T.keep sh/\fa T=some a):=fun T a q=>by
  by_cases z:T.keep sh
  ·exact .inl ⟨z,(if_pos z).symm.trans q⟩
  ·exact .inr ⟨z,(if_neg z).symm.trans q⟩
 refine⟨K.zf,fun T a q=>?_,fun T T' a q q'=>?_,fun T a q=>?_,fun a o q=>?_,fun a o q=>?_,K.base,fun T a q m=>?_,K.old,K.os,K.gens,K.tk⟩
 ·rcases aa T a q with⟨z,w⟩|⟨z,w⟩
  ·exact(K.at_ T a w).trans (congrArg some (if_pos z).symm)
  ·obtain⟨_,o,r⟩:=hf T a w;rw[r];exact congrArg some ((dR r).symm.trans ((congrArg (dq _ · _) w.symm).trans (if_neg z).symm))
 ·rcases aa T a q with⟨z,w⟩|⟨z,w⟩<;>rcases aa T' a q' with⟨z',w'⟩|⟨z',w'⟩
  ·exact h.inj _ _ _ w w'
  ·exact absurd w ((h.fresh (hf _ _ w').1).2.1 T)
  ·exact absurd w' ((h.fresh (hf _ _ w).1).2.1 T')
  ·exact hi _ _ _ w w'
 ·rcases aa T a q with⟨_,w⟩|⟨_,w⟩
  ·exact h.nz T a w
  ·exact(h.fresh (hf _ _ w).1).1
 ·rcases sf q with⟨T,k,r,_⟩|r
  ·refine⟨h.nz T a r,fun T' q'=>?_⟩;rcases aa T' a q' with⟨z,w⟩|⟨z,w⟩
   ·exact k (h.inj _ _ _ r w▸z)
   ·exact(h.fresh (hf _ _ w).1).2.1 T r
  ·refine⟨(h.xz a o r).1,fun T' q'=>?_⟩;rcases aa T' a q' with⟨_,w⟩|⟨_,w⟩
   ·exact(h.xz a o r).2 T' w
   ·rw[(h.fresh (hf _ _ w).1).2.2]at r;cases r
 ·rcases sf q with⟨T,k,r,w⟩|r
  ·exact⟨o.slots,(K.at_ T a r).trans (by rw[w]),fun u_=>rfl⟩
  ·obtain⟨sl,r1,r2⟩:=K.xs a o r;exact⟨sl,r1,fun m=>r2 fun m'=>m (hs a m')⟩
 ·rcases aa T a q with⟨_,w⟩|⟨_,w⟩
  ·exact h.tabs T a w m
  ·exact absurd m (hb T a w)
theorem kZ{T:aE}(h:T.keep sh):T.back sh:=by cases T<;>first|exact h|trivial
theorem HC.leave(h:HC c g s)(aY:HC (c.sub A env e E (c.xs g sh) fs n k) g₂ s₂)(hs:∀a∈fs,a∈c.fs\/s.heap.get? a=none):HC c (g.leave g₂ sh s₂.heap) s₂:=by
 have aa:∀T a,(g.leave g₂ sh s₂.heap).at_ T=some a->(T.back sh/\g₂.at_ T=some a)\/(¬T.back sh/\g.at_ T=some a/\c.xs g sh a=some (g.ob T)):=fun T a q=>by
  by_cases z:T.back sh
  ·exact .inl ⟨z,(if_pos z).symm.trans q⟩
  ·have w:=(if_neg z).symm.trans q;exact .inr ⟨z,w,kS h (fun y=>z (kZ y)) w⟩
 refine⟨aY.zf,fun T a q=>?_,fun T T' a q q'=>?_,fun T a q=>?_,fun a o q=>⟨(aY.xz a o (iD h q)).1,fun T q'=>?_⟩,fun a o q=>?_,aY.base,fun T a q m=>?_,aY.old,aY.os,aY.gens,aY.tk⟩
 ·rcases aa T a q with⟨z,w⟩|⟨z,w,x⟩
  ·exact(aY.at_ T a w).trans (congrArg some (if_pos z).symm)
  ·obtain⟨sl,r,_⟩:=aY.xs a _ x;rw[r];exact congrArg some ((dR r).symm.trans ((congrArg (dq _ · _) w.symm).trans (if_neg z).symm))
 ·rcases aa T a q with⟨z,w⟩|⟨z,w,x⟩<;>rcases aa T' a q' with⟨z',w'⟩|⟨z',w',x'⟩
  ·exact aY.inj _ _ _ w w'
  ·exact absurd w ((aY.xz a _ x').2 T)
  ·exact absurd w' ((aY.xz a _ x).2 T')
  ·exact h.inj _ _ _ w w'
 ·rcases aa T a q with⟨_,w⟩|⟨_,_,x⟩
  ·exact aY.nz T a w
  ·exact(aY.xz a _ x).1
 ·rcases aa T a q' with⟨_,w⟩|⟨_,w,_⟩
  ·exact(aY.xz a o (iD h q)).2 T w
  ·exact(h.xz a o q).2 T w
 ·obtain⟨sl,r1,r2⟩:=aY.xs a o (iD h q);refine⟨sl,r1,fun m=>r2 fun m'=>?_⟩;rcases hs a m' with w|w
  ·exact m w
  ·rw[(h.fresh w).2.2]at q;cases q
 ·rcases aa T a q with⟨_,w⟩|⟨_,w,_⟩
  ·exact aY.tabs T a w m
  ·exact h.tabs T a w m
theorem BH(h:HC c g s)(aY:HC (c.sub A env e E (c.xs g sh) fs n k) g₂ s₂)(hs:∀a∈fs,a∈c.fs\/s.heap.get? a=none)(z:¬T.back sh)(e:g.at_ T=some a):
  ∃sl,(g.leave g₂ sh s₂.heap).ob T={g.ob T with slots:=sl}/\(a≠c.env.locals->sl=(g.ob T).slots):=by
 haveI x:=kS h (sh:=sh) (fun y=>z (kZ y)) e;obtain⟨sl,r1,r2⟩:=aY.xs a _ x;refine⟨sl,(if_neg z).trans ((congrArg (dq _ · _) e).trans (dR r1)),fun ne=>r2 fun m=>?_⟩;rcases hs a m with w|w
 ·rcases c.k.frm a w with q|⟨o,_,_,q,_⟩
  ·exact ne q
  ·exact(h.xz a o q).2 T e
 ·exact(h.fresh w).2.1 T e
end
noncomputable def Sx.enter(σ:Sx)(sh:Bool)(l:List (Str×V)):Sx:={σ with l:=l,h:=match sh with|true=>σ.h|false=>[]}
noncomputable def Sx.leave(σ:Sx)(sh:Bool)(au:Sx):Sx:=match sh with
|true=>{au with l:=σ.l}
|false=>{au with l:=σ.l,h:=σ.h}
section
variable{c:Fr}{g g₂:Gh}{s s₂:Shared}{sh:Bool}{fa:aE->Option Addr}{A:Around}{env:Env}{e:Ev}{E:Value->Shared->Prop}{fs:List Addr}{n:Nat}{σ au:Sx}{h:Heap}
theorem fm{T:aE}(k:T.keep sh):(g.enter sh fa h).at_ T=g.at_ T/\(g.enter sh fa h).ob T=g.ob T:=⟨if_pos k,if_pos k⟩
theorem iE{T:aE}(k:T.back sh):(g.leave g₂ sh h).at_ T=g₂.at_ T/\(g.leave g₂ sh h).ob T=g₂.ob T:=⟨if_pos k,if_pos k⟩
noncomputable def seen(sh:Bool):V->Bool
|.p (.loc _)=>sh
|.bnd _=>sh
|_=>true
theorem rB(k:seen sh (.p p)=true):(aE.p p).keep sh:=by cases p<;>first|exact k|trivial
theorem VV.enter(k:seen sh v=true)(r:VV b g v val):VV b (g.enter sh fa h) v val:=match v,k,r with
|.f _,_,r=>r
|.p _,k,r=>by cases r with|mk a e q=>exact⟨a,e,(fm (rB k)).1.trans q⟩
|.bnd _,k,r=>by cases r with|mk a x e q t=>exact⟨a,x,e,(fm (T:=.p (.loc _)) k).1.trans q,t⟩
|.vals,_,r=>by cases r with|mk a x e q t=>exact⟨a,x,e,(fm (T:=.p .n2i) trivial).1.trans q,t⟩
|.dview _,_,r=>r
|.lam,_,r=>r
theorem zq{T:aE}(k:T.srt):T.keep sh:=by
 cases T with
|p p=>cases p<;>first|exact k.elim|trivial
|_=>first|exact k.elim|trivial
theorem AS{T:aE}(k:T.own i)(h:sh=true):T.keep sh:=by
 cases T with
|p p=>cases p<;>first|exact h|trivial
|sub _ _=>exact h
|_=>exact k.elim
theorem ji{T:aE}(k:T.own i)(h:sh=false):¬T.back sh:=by
 subst h;cases T with
|p p=>cases p<;>first|exact k.elim|exact(fun z=>by cases z)
|sub _ _=>exact fun z=>by cases z
|_=>exact k.elim
theorem A7{T:aE}(k:T.own i):T≠.L:=by rintro rfl;exact k
theorem aW.enter(r:aW c σ g)(hf:∀i T,T.own i->fa T=none)(fr:db (c.sub A env e E (c.xs g sh) fs n k) l (g.enter sh fa h)):aW (c.sub A env e E (c.xs g sh) fs n k) (σ.enter sh l) (g.enter sh fa h):=by
 haveI es:e8 aE.srt g (g.enter sh fa h):=fun T t=>fm (zq t);refine⟨fr,fun i=>?_,eH.eq (g:=g) (.refl _) es r.srt,fun j p q=>?_,?_⟩
 ·cases sh with
 |true=>exact OR.eq (g:=g) (.refl _) (fun p a u_ q=>(fm (rB (by cases p<;>rfl))).1.trans q) (fun T t=>fm (AS t rfl)) (r.loc i)
 |false=>exact(if_neg (fun z=>by cases z)).trans (hf i (.p (.loc i)) rfl)
 ·haveI z:=fm (g:=g) (fa:=fa) (h:=h) (sh:=sh) (T:=.tab j) trivial;exact⟨z.1.trans (r.tab j p q).1,z.2▸(r.tab j p q).2⟩
 ·exact r.st
theorem aW.leave(h0:HC c g s)(r:aW c σ g){k:ca c.b A env e (c.xs g sh) fs n}(aY:HC (c.sub A env e E (c.xs g sh) fs n k) g₂ s₂)(bY:aW (c.sub A env e E (c.xs g sh) fs n k) au g₂)(hs:∀a∈fs,a∈c.fs\/s.heap.get? a=none)(z:g.z.Le g₂.z)(hp:∀p a,(aE.p p).keep sh->g.at_ (.p p)=some a->g₂.at_ (.p p)=some a)(hd:∀a,g.at_ (.p .n2i)=some a->Dg (g.ob (.p .n2i)) (g₂.ob (.p .n2i))):aW c (σ.leave sh au) (g.leave g₂ sh s₂.heap)/\g.Le (g.leave g₂ sh s₂.heap):=by
 have le:g.Le (g.leave g₂ sh s₂.heap):=⟨z,fun a e=>(iE (g:=g) (g₂:=g₂) (h:=s₂.heap) (sh:=sh) (T:=.p .n2i) trivial).2.symm▸hd a e,fun p a q=>by
  by_cases w:(aE.p p).back sh
  ·exact(if_pos w).trans (hp p a (by cases p<;>exact w) q)
  ·exact(if_neg w).trans q⟩
 have es:e8 aE.srt g₂ (g.leave g₂ sh s₂.heap):=fun T t=>iE (kZ (zq t));have ob:=fun{T a}=>BH (T:=T) (a:=a) h0 aY hs;have F:=r.fr;have l1:(σ.leave sh au).l=σ.l:=by cases sh<;>rfl
 have l2:(σ.leave sh au).q=au.q:=by cases sh<;>rfl
 refine⟨⟨?_,fun i=>?_,l2▸eH.eq (g:=g₂) (.refl _) es bY.srt,fun j p q=>?_,fun k h=>bY.st k (by cases sh<;>exact h)⟩,le⟩
 ·rw[l1];refine⟨(if_neg (fun z=>z)).trans F.L,?_,fun n q=>?_,fun n v q1 q2=>let ⟨a,o,val,t1,t2,t3,t4⟩:=F.free n v q1 q2;⟨a,o,val,t1,t2,t3,VV.mono le t4⟩⟩
  ·obtain⟨m,r1,r2⟩:=F.ns;obtain⟨sl,w,_⟩:=ob (T:=.L) (fun z=>z) F.L;refine⟨m,?_,fun n v q1 q2=>let ⟨val,t1,t2⟩:=r2 n v q1 q2;⟨val,t1,VV.mono le t2⟩⟩;rw[w];cases r1 with|mk es ep a1 a2 a3=>exact⟨es,ep,a1,a2,a3⟩
  ·obtain⟨a,cv,r1,r2,r3,r4⟩:=F.cell n q;obtain⟨sl,w,_⟩:=ob (T:=.cell n) (fun z=>z) r2;exact⟨a,cv,r1,(if_neg (fun z=>z)).trans r2,by rw[w];exact r3,fun v q=>let ⟨val,t1,t2⟩:=r4 v q;⟨val,t1,VV.mono le t2⟩⟩
 ·cases hsh:sh with
 |true=> subst hsh;exact OR.eq (g:=g₂) (.refl _) (fun p a u_ q=>(iE (kZ (rB (by cases p<;>rfl)))).1.trans q) (fun T t=>iE (kZ (AS t rfl))) (bY.loc i)
 |false=>
   subst hsh;refine OR.eq (o:=aq σ.h i) z (fun p a u_ q=>le.p p a q) (fun T t=>⟨if_neg (ji t rfl),?_⟩) (r.loc i);cases q:g.at_ T with
  |none=>exact(if_neg (ji t rfl)).trans (by rw[q];rfl)
  |some a=> obtain⟨sl,w,w2⟩:=ob (ji t rfl) q;rw[w,w2 fun y=>A7 t (h0.inj _ _ _ q (y▸F.L))]
 ·have z:=iE (g:=g) (g₂:=g₂) (h:=s₂.heap) (sh:=sh) (T:=.tab j) trivial;exact⟨z.1.trans (bY.tab j p q).1,z.2▸(bY.tab j p q).2⟩
end
end
section
open PySem PySem.W PyProof.Rows PySem.SeqAt
noncomputable def eu:List Addr->Heap->Heap
|[],h=>h
|a::r,h=>(eu r h).update a fun o=>{o with data:=.freed}
theorem ml:∀{l:List Addr},x∈l->(eu l h).get? x=none:=@fun b c=>match b,c with
|a::r,m=>by
  show((eu r h).update a _).get? x=none;by_cases q:x=a
  ·subst q;cases hq:((eu r h).update x fun o=>{o with data:=.freed}).get? x with
  |none=>rfl
  |some o=>
    obtain⟨e1,e2⟩:=Heap.get?_some_iff.mp hq;generalize eu r h=hm at e1;obtain⟨objs,lf⟩:=hm;simp only[Heap.update,Array.getElem?_modify,if_true]at e1;cases hx:objs[x]? with
   |none=>rw[hx]at e1;cases e1
   |some o'=>rw[hx]at e1;cases e1;exact absurd e2 (by simp[Obj.isFreed])
  ·rw[Heap.get?_update_other _ _ (fun z=>q z.symm)];exact ml ((List.mem_cons.mp m).resolve_left q)
theorem sZ:∀{l:List Addr},x∉l->(eu l h).get? x=h.get? x:=by
 intro l
 induction l with
|nil=> intro _;exact rfl
|cons a r ih=> intro m;exact(Heap.get?_update_other _ _ (fun z=>m (by rw[<- z];exact .head _))).trans (ih fun q=>m (.tail _ q))
theorem oo:(eu l h).StaysIn h:=fun x o e=>by
 by_cases m:x∈l
 ·rw[ml m]at e;cases e
 ·rw[sZ m]at e;exact e
noncomputable def aE.exc?:aE->Prop
|.exc _=>True
|_=>False
noncomputable def Gh.exc(g:Gh)(a T:Addr):aE->Option Addr
|.exc 0=>some a
|.exc 1=>some T
|.exc _=>none
|T'=>g.at_ T'
noncomputable def Gh.wake(g:Gh)(a T:Addr)(h:Heap):Gh:={z:=g.z,at_:=g.exc a T,ob:=fun T'=>dq h (g.exc a T T') (g.ob T')}
theorem DN{g:Gh}(n:¬T'.exc?):g.exc a T T'=g.at_ T':=by cases T'<;>first|rfl|exact absurd trivial n
theorem HC.nfs(h:HC c g s)(hL:g.at_ .L=some c.env.locals)(e:g.at_ T'=some x)(n:T'≠.L):x∉c.fs:=fun m=>by
 rcases c.k.frm x m with q|⟨o,_,_,q,_⟩
 ·exact n (h.inj _ _ _ e (q▸hL))
 ·exact(h.xz x o q).2 T' e
theorem HC.zfs(h:HC c g s)(hL:g.at_ .L=some c.env.locals)(e:g.z.f x=some o):x∉c.fs:=fun m=>by
 rcases c.k.frm x m with q|⟨o',_,_,q,_⟩
 ·rw[q,h.nz _ _ hL]at e;cases e
 ·rw[(h.xz x o' q).1]at e;cases e
structure mX(c:Fr)(g:Gh)(s:Shared)(a T:Addr)(oe oT:Obj)(h':Heap):Prop where
 k1:∀x o,x∉c.fs->(∀k,g.at_ (.exc k)≠some x)->s.heap.get? x=some o->h'.get? x=some o
 k2:∀x∈c.fs,∀o,s.heap.get? x=some o->∃sl,h'.get? x=some {o with slots:=sl}
 ta:g.at_ (.exc 0)=some a
 tT:(∃k,g.at_ (.exc k)=some T)\/s.heap.get? T=none
 ne:T≠a
 ha:h'.get? a=some oe
 hT:h'.get? T=some oT
theorem vO(h:HC c g s)(w:mX c g s a T oe oT h')(hL:g.at_ .L=some c.env.locals){T':aE}(n:¬T'.exc?)(nL:T'≠.L):(g.wake a T h').at_ T'=g.at_ T'/\(g.wake a T h').ob T'=g.ob T':=by
 haveI e:=DN (g:=g) (a:=a) (T:=T) n;refine⟨e,(congrArg (dq h' · _) e).trans ?_⟩;cases q:g.at_ T' with
|none=>rfl
|some x=>exact dR (w.k1 x _ (h.nfs hL q nL) (fun k z=>n (by rw[h.inj _ _ _ q z];trivial)) (h.at_ _ _ q))
theorem yK(h:HC c g s)(w:mX c g s a T oe oT h')(hL:g.at_ .L=some c.env.locals):∃sl,(g.wake a T h').ob .L={g.ob .L with slots:=sl}/\h'.get? c.env.locals=some {g.ob .L with slots:=sl}:=by
 haveI e:(g.wake a T h').ob .L=dq h' (some c.env.locals) (g.ob .L):=congrArg (dq h' · _) hL;haveI ho:=h.at_ _ _ hL;by_cases m:c.env.locals∈c.fs
 ·obtain⟨sl,q⟩:=w.k2 _ m _ ho;exact⟨sl,e.trans (dR q),q⟩
 ·haveI q:=w.k1 _ _ m (fun k z=>by cases h.inj _ _ _ hL z) ho;exact⟨_,e.trans (dR q),q⟩
theorem HC.wake(h:HC c g s)(w:mX c g s a T oe oT h')(hL:g.at_ .L=some c.env.locals)(tb:∀x∈c.b.tabA,∃k,g.at_ (.tab k)=some x):HC c (g.wake a T h') {s with heap:=h'}:=by
 have nE:∀x o,g.z.f x=some o->∀k,g.at_ (.exc k)≠some x:=fun x o e k z=>by rw[h.nz _ _ z]at e;cases e
 have hT:g.z.f T=none/\c.X T=none/\∀T',g.at_ T'=some T->T'.exc?:=by
  rcases w.tT with⟨k,q⟩|q
  ·refine(⟨h.nz _ _ q,?_,fun T' z=>by rw[h.inj _ _ _ z q];trivial⟩);cases r:c.X T with
  |none=>rfl
  |some o=>exact absurd q ((h.xz T o r).2 _)
  ·exact⟨(h.fresh q).1,(h.fresh q).2.2,fun T' z=>absurd z ((h.fresh q).2.1 T')⟩
 have ha:g.z.f a=none/\c.X a=none/\∀T',g.at_ T'=some a->T'=.exc 0:=by
  refine⟨h.nz _ _ w.ta,?_,fun T' z=>h.inj _ _ _ z w.ta⟩;cases r:c.X a with
 |none=>rfl
 |some o=>exact absurd w.ta ((h.xz a o r).2 _)
 have aa:∀T' x,(g.wake a T h').at_ T'=some x->(T'=.exc 0/\x=a)\/(T'=.exc 1/\x=T)\/(¬T'.exc?/\g.at_ T'=some x):=fun T' x q=>by
  cases T' with
 |exc k=>
   match k,q with
  |0,q=>cases q;exact .inl ⟨rfl,rfl⟩
  |1,q=>cases q;exact .inr (.inl ⟨rfl,rfl⟩)
 |_=>exact .inr (.inr ⟨id,q⟩)
 haveI kB:∀x o o',c.b.B.get? x=some o->s.heap.get? x=some o'->h'.get? x=some o':=fun x o o' q q'=>by
  by_cases m:x∈c.b.tabA
  ·obtain⟨k,t⟩:=tb x m;exact w.k1 x o' (h.nfs hL t fun z=>by cases z) (fun k z=>by cases h.inj _ _ _ z t) q'
  ·have z:=h.base x o q m;exact w.k1 x o' (h.zfs hL z) (nE x o z) q'
 refine⟨fun x o e=>w.k1 x o (h.zfs hL e) (nE x o e) (h.zf x o e),fun T' x e=>?_,fun T₁ T₂ x lb jS=>?_,fun T' x e=>?_,fun x o e=>⟨(h.xz x o e).1,fun T' q=>?_⟩,fun x o e=>?_,h.base,fun T' x e m=>?_,sI h.old kB,h.os,h.gens,h.tk⟩
 ·haveI key:∃o,h'.get? x=some o:=by
   rcases aa T' x e with⟨_,rfl⟩|⟨_,rfl⟩|⟨n,q⟩
   ·exact⟨_,w.ha⟩
   ·exact⟨_,w.hT⟩
   ·by_cases z:T'=.L
    ·rw[z,hL]at q;cases q;obtain⟨sl,_,q⟩:=yK h w hL;exact⟨_,q⟩
    ·exact⟨_,w.k1 x _ (h.nfs hL q z) (fun k y=>n (by rw[h.inj _ _ _ q y];trivial)) (h.at_ _ _ q)⟩
  obtain⟨o,q⟩:=key;rw[q];exact congrArg some ((dR q).symm.trans (congrArg (dq h' · _) e.symm))
 ·rcases aa T₁ x lb with⟨dw,dk⟩|⟨dw,dk⟩|⟨dw,dk⟩<;>rcases aa T₂ x jS with⟨bY,dm⟩|⟨bY,dm⟩|⟨bY,dm⟩
  ·exact dw.trans bY.symm
  ·exact absurd (dm.symm.trans dk) w.ne
  ·rw[dk]at dm;rw[ha.2.2 _ dm]at bY;exact absurd trivial bY
  ·exact absurd (dk.symm.trans dm) w.ne
  ·exact dw.trans bY.symm
  ·rw[dk]at dm;exact absurd (hT.2.2 _ dm) bY
  ·rw[dm]at dk;rw[ha.2.2 _ dk]at dw;exact absurd trivial dw
  ·rw[dm]at dk;exact absurd (hT.2.2 _ dk) dw
  ·exact h.inj _ _ _ dk dm
 ·rcases aa T' x e with⟨_,rfl⟩|⟨_,rfl⟩|⟨_,q⟩
  ·exact ha.1
  ·exact hT.1
  ·exact h.nz _ _ q
 ·rcases aa T' x q with⟨_,rfl⟩|⟨_,rfl⟩|⟨_,q⟩
  ·rw[ha.2.1]at e;cases e
  ·rw[hT.2.1]at e;cases e
  ·exact(h.xz x o e).2 _ q
 ·obtain⟨sl,r,r2⟩:=h.xs x o e;by_cases m:x∈c.fs
  ·obtain⟨sl',q⟩:=w.k2 x m _ r;exact⟨sl',q,fun n=>absurd m n⟩
  ·exact⟨sl,w.k1 x _ m (fun k=>(h.xz x o e).2 _) r,r2⟩
 ·obtain⟨k,t⟩:=tb x m;rcases aa T' x e with⟨_,q⟩|⟨_,q⟩|⟨_,q⟩
  ·rw[q]at t;cases ha.2.2 _ t
  ·rw[q]at t;exact(hT.2.2 _ t).elim
  ·exact⟨k,h.inj _ _ _ q t⟩
theorem aW.wake(h:HC c g s)(r:aW c σ g)(w:mX c g s a T oe oT h'):aW c σ (g.wake a T h'):=by
 have hL:=r.fr.L;have ob:∀{T'},¬aE.exc? T'->T'≠.L->_:=fun{T'}=>vO (T':=T') h w hL;have le:g.Le (g.wake a T h'):=⟨.refl _,fun u_ u_=>.inl (ob (T':=.p .n2i) id (fun z=>by cases z)).2,fun p x e=>e⟩;obtain⟨sl,e1,_⟩:=yK h w hL;have es:e8 aE.srt g (g.wake a T h'):=fun T' t=>ob (fun z=>by cases T'<;>first|exact z|exact t) (fun z=>by rw[z]at t;exact t);refine⟨⟨hL,?_,fun n q=>?_,fun n v q1 q2=>let ⟨a,o,val,t1,t2,t3,t4⟩:=r.fr.free n v q1 q2;⟨a,o,val,t1,t2,t3,VV.mono le t4⟩⟩,fun i=>OR.eq (g:=g) (.refl _) (fun p a u_ q=>q) (fun T' t=>ob (fun z=>by cases T'<;>first|exact z|exact t) (A7 t)) (r.loc i),eH.eq (g:=g) (.refl _) es r.srt,fun k p q=>?_,r.st⟩
 ·obtain⟨m,r1,r2⟩:=r.fr.ns;refine⟨m,?_,fun n v q1 q2=>(r2 n v q1 q2).imp fun u_ t=>⟨t.1,VV.mono le t.2⟩⟩;rw[e1];cases r1 with|mk es ep a1 a2 a3=>exact⟨es,ep,a1,a2,a3⟩
 ·obtain⟨x,cv,r1,r2,r3,r4⟩:=r.fr.cell n q;exact⟨x,cv,r1,r2,(ob (T':=.cell n) id (fun z=>by cases z)).2▸r3,fun v q=>(r4 v q).imp fun u_ t=>⟨t.1,VV.mono le t.2⟩⟩
 ·have z:=ob (T':=.tab k) id (fun z=>by cases z);exact⟨z.1.trans (r.tab k p q).1,z.2▸(r.tab k p q).2⟩
section
variable{c:Fr}{σ:Sx}{x:Mine.X}{a:Addr}{fr fr':Option Addr}
noncomputable def gR(g:Gh):List Addr:=(g.at_ (.exc 0)).toList++(g.at_ (.exc 1)).toList
theorem Dy.frame(d:Dy c σ)(m:L∈c.fs):∃o es ep,d.s.heap.get? L=some o/\o.data=.dict es ep:=by
 rcases c.k.frm L m with q|⟨o,es,ep,q,r⟩
 ·obtain⟨m,r1,_⟩:=d.r.fr.ns;cases r1 with|mk es ep r1=>exact⟨_,es,ep,q▸d.h.at_ _ _ d.r.fr.L,r1⟩
 ·obtain⟨sl,q,_⟩:=d.h.xs L o q;exact⟨_,es,ep,q,r⟩
theorem Dy.frames(d:Dy c σ)(hM:∀L∈c.fs,L∈M):∀{l:List Env},(∀f∈l,f.scope.kind≠.module/\f.frame.isSome=true)->(∀a∈l.filterMap (·.frame),a∈c.fs)->d.s.heap.FunFrames (eu M d.s.heap) l:=by
 intro l
 induction l with
|nil=> intro _ _;exact trivial
|cons f r ih=>
  intro hl hm;obtain⟨h1,h2⟩:=hl f (.head _);obtain⟨L,hL⟩:=Option.isSome_iff_exists.mp h2;have e:List.filterMap (·.frame) (f::r)=L::r.filterMap (·.frame):=by rw[List.filterMap_cons,hL]
  have m:L∈c.fs:=hm L (by rw[e];exact .head _);obtain⟨o,es,ep,ho,hd⟩:=d.frame m;exact⟨h1,⟨L,o,hL,ml (hM L m),ho,fun vs q=>by rw[hd]at q;cases q⟩,ih (fun f' m'=>hl f' (.tail _ m')) fun a m'=>hm a (by rw[e];exact .tail _ m')⟩
theorem aW.tb(r:aW c σ g):∀x∈c.b.tabA,∃k,g.at_ (.tab k)=some x:=fun x m=>by obtain⟨p,m',rfl⟩:=List.mem_map.mp m;obtain⟨k,q⟩:=List.mem_iff_getElem?.mp m';exact⟨k,(r.tab k p q).1⟩
theorem Dy.traced(d:Dy c σ)(ex:bI c.b fr d.g x a)(ha0:∀vs,(d.g.ob (.exc 0)).data=.fields vs->vs[0]?=some a0)(hfl:fl=.none\/∃L,fr'=some L/\fl=rawInt L)
  (k1:(eu (c.fs++gR d.g) d.s.heap).StaysIn h') (k3:h'.TracedAtW (eu (c.fs++gR d.g) d.s.heap) a (jG c.b x) a0 fl) (k4:∀c o,d.s.heap.get? c=some o->(∀vs,o.data≠.fields vs)->∃sl,h'.get? c=some {o with slots:=sl}) :
  ∃d':Dy c σ,d'.s={d.s with heap:=h'}/\Le d d'/\bI c.b fr' d'.g x a/\∃T,d'.g.at_ (.exc 1)=some T:=by
 cases ex with|mk vs e1 e2 e3 e4 e5=>
 obtain⟨oe,vs',T,oT,ts,he,o0_,hd,h1,hnT,hTe,hT,hdT,h3⟩:=k3;obtain⟨hc,h0⟩:=o0_;have k2:∀x∈c.fs,∀o,d.s.heap.get? x=some o->∃sl,h'.get? x=some {o with slots:=sl}:=fun x m o ho=>by obtain⟨o',es,ep,ho',hd'⟩:=d.frame m;rw[ho]at ho';cases ho';exact k4 x o ho fun vs q=>by rw[hd']at q;cases q
 haveI k1':∀x o,x∉c.fs->(∀k,d.g.at_ (.exc k)≠some x)->d.s.heap.get? x=some o->h'.get? x=some o:=fun x o n1 n2 ho=>k1 x o (by
  rw[sZ fun m=>?_];exact ho;rcases List.mem_append.mp m with m|m
  ·exact n1 m
  ·rcases List.mem_append.mp m with m|m
   ·exact n2 0 (Option.mem_toList.mp m)
   ·exact n2 1 (Option.mem_toList.mp m))
 haveI hT':(∃k,d.g.at_ (.exc k)=some T)\/d.s.heap.get? T=none:=by
  by_cases m:T∈c.fs++gR d.g
  ·rcases List.mem_append.mp m with m|m
   ·obtain⟨o,es,ep,ho,hd'⟩:=d.frame m;obtain⟨sl,q⟩:=k2 T m o ho;rw[hT]at q;cases q;rw[hd']at hdT;cases hdT
   ·rcases List.mem_append.mp m with m|m
    ·exact .inl ⟨0,Option.mem_toList.mp m⟩
    ·exact .inl ⟨1,Option.mem_toList.mp m⟩
  ·rw[sZ m]at hnT;exact .inr hnT
 have w:mX c d.g d.s a T oe oT h':=⟨k1',k2,e1,hT',hTe,he,hT⟩;refine⟨⟨_,_,d.h.wake w d.r.fr.L d.r.tb,d.r.wake d.h w⟩,rfl,⟨.refl _,fun u_ u_=>.inl (vO d.h w d.r.fr.L (T':=.p .n2i) id (fun z=>by cases z)).2,fun p y q=>q⟩,.mk vs' rfl ?_ ?_ (fun t ht=>?_) (.inr ⟨T,ts,fl,h1,rfl,?_,h3,hfl⟩),T,rfl⟩
 ·exact(congrArg Obj.cls (dR he)).trans hc
 ·exact(congrArg Obj.data (dR he)).trans hd
 ·obtain⟨T0,n,tk,z1,z2⟩:=e4 t ht;rw[ha0 vs e3]at z1;cases z1;exact⟨T0,n,tk,h0,z2⟩
 ·exact(congrArg Obj.data (dR hT)).trans hdT
theorem Dy.tr(d:Dy c σ)(e1:d.g.at_ (.exc 0)=some a)(e2:(d.g.ob (.exc 0)).cls=jG c.b x)(e3:(d.g.ob (.exc 0)).data=.fields vs)(h0:vs[0]?=some a0)(h1:vs[1]?=some (.ref T))(t1:d.g.at_ (.exc 1)=some T)(t2:(d.g.ob (.exc 1)).data=.fields ts)(t3:ts[3]?=some fl):
  d.s.heap.TracedAtW (eu (c.fs++gR d.g) d.s.heap) a (jG c.b x) a0 fl:=
 ⟨_,vs,T,_,ts,d.h.at_ _ _ e1,⟨e2,h0⟩,e3,h1,ml (List.mem_append_right _ (List.mem_append_right _ (Option.mem_toList.mpr t1))),(fun q=>by cases d.h.inj _ _ _ t1 (q▸e1)),d.h.at_ _ _ t1,t2,t3⟩
theorem Dy.leaving(d:Dy c σ)(ex:bI c.b c.env.frame d.g x a)(here:∃outer,c.A.frames=some (c.env::outer))(hQ:∀d':Dy c σ,Le d d'->bI c.b fr' d'.g x a->Q () d'.s):wpAny c.b.M c.A (leaving c.env (.ref a)) Q E d.s:=by
 obtain⟨outer,hA⟩:=here;obtain⟨fenv,out',hA',hf,hall,hfs⟩:=c.k.frames;rw[hA]at hA';cases hA';obtain⟨L,hL⟩:=Option.isSome_iff_exists.mp (hall _ (.head _)).2;have FF:=d.frames (M:=c.fs++gR d.g) (fun L m=>List.mem_append_left _ m) hall (fun a m=>by rw[hfs];exact m);haveI ex0:=ex;cases ex with|mk vs e1 e2 e3 e4 e5=>
 have m0:(eu (c.fs++gR d.g) d.s.heap).get? a=none:=ml (List.mem_append_right _ (List.mem_append_left _ (Option.mem_toList.mpr e1)));have fin:∀{h':Heap}{a0:Value},vs[0]?=some a0->(eu (c.fs++gR d.g) d.s.heap).StaysIn h'->h'.TracedW (eu (c.fs++gR d.g) d.s.heap) a (jG c.b x) a0->(∀c o,d.s.heap.get? c=some o->(∀vs,o.data≠.fields vs)->∃sl,h'.get? c=some {o with slots:=sl})->Q () {d.s with heap:=h'}:=fun h0 k1 k3 k4=>by obtain⟨d',r1,r2,r3,_⟩:=d.traced (fr':=fr') ex0 (fun vs' q=>by rw[e3]at q;cases q;exact h0) (.inl rfl) k1 k3.at k4;exact r1▸hQ d' r2 r3
 rcases e5 with⟨h1,_⟩|⟨T,ts,fl,h1,t1,t2,t3,hfl⟩
 ·have h0:=Array.getElem?_eq_getElem (Nat.lt_trans Nat.zero_lt_one (Array.getElem?_eq_some_iff.mp h1).1);exact wpAny_leaving_firstW hA FF hL (d.h.at_ _ _ e1) oo m0 e3 h1 h0 fun h'⟨k1,_,k3,k4⟩=>fin h0 k1 (e2▸k3) k4
 ·have h0:=Array.getElem?_eq_getElem (Nat.lt_trans Nat.zero_lt_one (Array.getElem?_eq_some_iff.mp h1).1);have tr:=d.tr e1 e2 e3 h0 h1 t1 t2 t3;rcases hfl with rfl|⟨L',hL',rfl⟩
  ·exact wpAny_leaving_nextW hA FF hL tr oo m0 fun h'⟨k1,_,k3,k4⟩=>fin h0 k1 k3 k4
  ·rw[hL]at hL';cases hL';unfold PySem.leaving;exact wpAny_bind (wpAny_noteFrame_againW hL tr (wpAny_setFlight_noneW oo FF tr fun h' k1 u_ k3 k4=>fin h0 k1 k3 fun c o ho hn=>⟨o.slots,k4 c o ho hn⟩))
theorem Dy.note(d:Dy c σ)(ex:bI c.b c.env.frame d.g x a)(here:∃outer,c.A.frames=some (c.env::outer))(hQ:∀d':Dy c σ,Le d d'->bI c.b c.env.frame d'.g x a->(∃T,d'.g.at_ (.exc 1)=some T)->Q () d'.s):wpAny c.b.M c.A (noteFrame (.ref a) c.env) Q E d.s:=by
 obtain⟨outer,hA⟩:=here;obtain⟨fenv,out',hA',hf,hall,hfs⟩:=c.k.frames;rw[hA]at hA';cases hA';obtain⟨L,hL⟩:=Option.isSome_iff_exists.mp (hall _ (.head _)).2;have FF:=d.frames (M:=c.fs++gR d.g) (fun L m=>List.mem_append_left _ m) hall (fun a m=>by rw[hfs];exact m);have ex0:=ex;cases ex with|mk vs e1 e2 e3 e4 e5=>
 have m0:(eu (c.fs++gR d.g) d.s.heap).get? a=none:=ml (List.mem_append_right _ (List.mem_append_left _ (Option.mem_toList.mpr e1)));have fin:∀{h':Heap}{a0:Value},vs[0]?=some a0->Heap.NotedW (eu (c.fs++gR d.g) d.s.heap) (c.env::outer) a (jG c.b x) a0 (rawInt L) d.s.heap h'->Q () {d.s with heap:=h'}:=fun h0⟨k1,_,k3,k4⟩=>by obtain⟨d',r1,r2,r3,r4⟩:=d.traced (fr':=c.env.frame) ex0 (fun vs' q=>by rw[e3]at q;cases q;exact h0) (.inr ⟨L,hL,rfl⟩) k1 k3 k4;exact r1▸hQ d' r2 r3 r4
 rcases e5 with⟨h1,_⟩|⟨T,ts,fl,h1,t1,t2,t3,hfl⟩
 ·have h0:=Array.getElem?_eq_getElem (Nat.lt_trans Nat.zero_lt_one (Array.getElem?_eq_some_iff.mp h1).1);unfold noteFrame;simp only[hL];refine wpAny_bind (wpAny_field (d.h.at_ _ _ e1) e3 h1 ?_);rw[if_neg (by decide)];exact wpAny_entryW hA FF hL (d.h.at_ _ _ e1) oo m0 e3 (Array.getElem?_eq_some_iff.mp h1).1 h0 fun h' N=>fin h0 (e2▸N)
 ·have h0:=Array.getElem?_eq_getElem (Nat.lt_trans Nat.zero_lt_one (Array.getElem?_eq_some_iff.mp h1).1);have tr:=d.tr e1 e2 e3 h0 h1 t1 t2 t3;rcases hfl with rfl|⟨L',hL',rfl⟩
  ·exact wpAny_noteFrame_onW hA FF hL tr oo m0 fun h' N=>fin h0 N
  ·rw[hL]at hL';cases hL';exact wpAny_noteFrame_againW hL tr (hQ d (Le.refl d) ex0 ⟨T,t1⟩)
end
theorem HC.K(h:HC c g s):c.b.K.In s.heap:=fun a o e=>h.b (c.ok.kIn a o e).1 (c.ok.kIn a o e).2
theorem we(k:StrKeys es):es.toList.any (·.refKey)=false:=by
 rw[List.any_eq_false];intro x m;obtain⟨n,t,hx⟩:=k x (by simpa using m);unfold DictEntry.refKey;rw[hx]
 first|rfl|decide|simp
theorem wg(x:gn o l)(name:Str):lookIn name o=some (ad l name):=by
 cases x with|mk es ep hd hk hf _=>
 unfold lookIn;rw[hd];dsimp only;rw[<- hf name];haveI e1:nsFind es name=(es.toList.find? (·.key.isStr name)).map (·.val):=by unfold nsFind findBy;rw[<- Array.find?_toList]
 rw[e1];cases q:es.toList.find? (·.key.isStr name)with
|some x=>rfl
|none=> dsimp only;rw[if_neg (by rw[we hk];decide)];rfl
theorem BV(ho:s.heap.get? a=some o)(hn:gn o l)
  (hQ:∀h' o',h'.get? a=some o'->gn o' (ag l name v)->Heap.SameBut a s.heap h'->Q () {s with heap:=h',toks:=s.toks+1}):wpAny M A (nsSet a name v) Q E s:=fun Γ p u_=>by
 cases hn with|mk es ep hd hk hm hs=>
 simp only[nsSet,strHash,Sem.wp_bind',Sem.wp_cmd_ask,Sem.wp_pure',Sem.wp_cmd_mkText];rw[Sem.wp_loadPart_of M Γ _ p {s with toks:=s.toks+1} (o:=o) _ ho];have hany:es.any (·.refKey)=false:=by rw[<- Array.any_toList];exact we hk
 simp only[hd,aRefKeyMayBeTheName_eq,aRefKeyMayBeTheNameByArray,hany,Bool.and_false,Bool.false_eq_true,if_false,Sem.wp_cmd_updatePart];refine⟨by rw[ho];rfl,?_⟩;obtain⟨c,d,dt,sl⟩:=o;subst hd;cases hi:es.findIdx? (·.key.isStr name)with
|some i=>
  refine hQ _ _ (Heap.get?_update_self _ ho (by simp only[Obj.putName_eq,Obj.putNameByArray,hi];rfl)) ⟨_,ep,by simp only[Obj.putName_eq,Obj.putNameByArray,hi];rfl,hk.modify _ _,fun x=>?_,?_⟩ (Heap.SameBut.update ..)
  ·rw[dB,<-hm];exact findBy_modify (fun n v=>v.isStr n) Value.isStr_inj es name x v i hi
  ·rw[Array.size_modify];exact Nat.le_trans hs putL_len
|none=>
  have hn:ad l name=none:=by rw[<- hm];unfold nsFind findBy;rw[Array.find?_eq_none.mpr (by simpa using Array.findIdx?_eq_none_iff.mp hi)];rfl
  refine hQ _ _ (Heap.get?_update_self _ ho (by simp only[Obj.putName_eq,Obj.putNameByArray,hi];rfl)) ⟨_,ep+1,by simp only[Obj.putName_eq,Obj.putNameByArray,hi];rfl,hk.push _ _ _ _,fun x=>?_,?_⟩ (Heap.SameBut.update ..)
  ·rw[dB,<-hm];exact findBy_push (fun n v=>v.isStr n) es name x _ _ v (fun y=>by
    show(name==y)=decide (y=name);by_cases h:y=name
    ·subst h;simp
    ·have:¬name=y:=fun e=>h e.symm;simp[h,this]) hi
  ·rw[Array.size_push,putL_new hn];exact Nat.succ_le_succ hs
where
 putL_len {α:Type} {x:Str} {v:α}:∀{l:List (Str×α)},l.length<=(ag l x v).length
 |[]=>Nat.zero_le _
 |(y,b)::r=>by
   rw[gf];cases ah x y with
  |true=>exact Nat.le_refl _
  |false=>exact Nat.succ_le_succ putL_len
 putL_new {α:Type} {x:Str} {v:α}:∀{l:List (Str×α)},ad l x=none->(ag l x v).length=l.length+1
 |[],_=>rfl
 |(y,b)::r,h=>by
   rw[i9]at h;rw[gf];cases q:ah x y with
  |true=>rw[q]at h;cases h
  |false=>rw[q]at h;exact congrArg (·+1) (putL_new h)
theorem Dy.sr(d:Dy c σ)(hq:σ.q=some q):SR c.b d.g q:=by haveI:=d.r.srt;rw[hq]at this;exact this
theorem D3(d:Dy c σ)(h1:d.g.at_ (.p .self)=some a)(h2:d.g.ob (.p .self)={cls:=.ref (c.b.fa 15),dict:=some sd,data:=.plain})(h3:d.g.at_ .sd=some sd)(h4:gn (d.g.ob .sd) (sL n2i rd q tp tf))
 (hn:nm∈(["_node2info","_ready_nodes","_npassedout","_nfinished"]:List Str)) (hv:ad (sL n2i rd q tp tf) nm=some v) (hh:handedIn v=true) (hQ:Q v {d.s with toks:=d.s.toks+1}) :
  Wp c (getAttr (.ref a) nm ex) Q d.s:=
 get_value d.h.K (I:=⟨(d.h.at_ _ _ h1).trans (congrArg some h2),rfl,rfl,d.h.at_ _ _ h3⟩) (plainGet_of c.ok.sGet).1 (findObj_own c.ok.sDict (c.ok.sName nm hn) rfl (by rw[wg h4,hv])) hh hQ
theorem i6{F:α->Option β}(h:o=some x)(k:F x=r):o.bind F=r:=by rw[h];exact k
theorem D5(d:Dy c σ)(hx:d.s.heap.get? a=some {cls:=.ref (c.b.fa 16),dict:=some dx,data:=.plain,slots:=sl})(hd:d.s.heap.get? dx=some gY)
  (hn:(nm,i)∈([("node",0),("npredecessors",1),("successors",2)]:List (Str×Nat))) (hv:(sl[i]?).join=some v) (hh:handedIn v=true) (hQ:Q v {d.s with toks:=d.s.toks+1}):Wp c (getAttr (.ref a) nm ex) Q d.s:=by
 obtain⟨p,h1,h2,h3,h4,h5⟩:=c.ok.nSlot _ hn;haveI I:InstAt d.s.heap a {cls:=.ref (c.b.fa 16),dict:=some dx,data:=.plain,slots:=sl} (c.b.fa 16) (some gY):=⟨hx,rfl,rfl,hd⟩;haveI hf:findObj c.b.K (c.b.fa 16) (some gY) nm=some (.bind (.builtin "member_descriptor.__get__") (.ref p)):=by obtain⟨cd,hc⟩:=Option.isSome_iff_exists.mp c.ok.nCls;exact i6 hc (i6 h1 (i6 h2 (i6 h3 rfl)))
 exact get_bind d.h.K I (plainGet_of c.ok.nGet).1 hf (plainGet_of c.ok.nGet).2 (wpAny_call (PySem.W.slot_get (s:={d.s with toks:=d.s.toks+1}) (d.tok _).h.K I h4 hv (handed_on hh hQ)))
noncomputable def gz(v:V)(nm:Str)(σ:Sx)(r:aG V):Prop:=∀(c:Fr)(d:Dy c σ)(av:Value)(ex:Bool)(Q:Value->Shared->Prop),VD d v av->aB d VV r Q->Wp c (getAttr av nm ex) Q d.s
theorem fN{d:Dy c σ}(p:aB d VV (.ok v σ) Q)(r:VD d v val)(h:d.s.toks<=k):Q val {d.s with toks:=k}:=p (d.tok k h) _ (Gh.Le.refl _) r
end
section
open PySem PySem.W PyProof.Rows PySem.SeqAt Builtin Builtin.ObjectAttr
theorem ET:typeLookup (.type "method_descriptor") "__get__"=pure (some (.builtin "method_descriptor.__get__")):=by rw[typeLookup_type,builtinLookup_eq_fast];kernel_rfl
theorem Fd:typeLookup (.type "method_descriptor") "__set__"=pure none:=by rw[typeLookup_type,builtinLookup_eq_fast];kernel_rfl
theorem Hr:typeLookup (.type "method_descriptor") "__delete__"=pure none:=by rw[typeLookup_type,builtinLookup_eq_fast];kernel_rfl
theorem HN{T id gid D:String}(ho:h.get? a=some o)(hc:o.cls=.type T)(hd:o.dict=none)(hn:notCls o=true)(lk:typeLookup (.type T) name=pure (some (.builtin id)))
  (ty:typeOf (.builtin id)=pure (.type D)) (gt:typeLookup (.type D) "__get__"=pure (some (.builtin gid))) (st:typeLookup (.type D) "__set__"=pure none) (dl:typeLookup (.type D) "__delete__"=pure none)
  (hname:(["__module__","__name__","__qualname__","__doc__","__annotations__"]:List Str).contains name=false):Looks M h (find (.ref a) (.type T) name) (.bind (.builtin gid) (.builtin id)):=by
 have sp:∀nm r,typeLookup (.type D) nm=pure r->specialOf (.builtin id) nm=pure r:=fun nm r e=>by unfold specialOf;rw[ty];exact e
 unfold find;refine(Looks.of_pure lk).andThen ?_;refine(Looks.of_pure (show getOf (some (.builtin id))=pure (some (.builtin gid))from sp _ _ gt)).andThen ?_;have ts:takesStores (.builtin id)=pure false:=by
  unfold takesStores;rw[sp _ _ st]
  first
  |(simp only[pure_bind];rw[sp _ _ dl];rfl)
  |rfl
 refine(Looks.of_pure (show dataDescriptor? (some (.builtin id)) (some (.builtin gid))=pure none from by show(do let k<-takesStores (.builtin id);if k=true then pure (some ((Value.builtin gid),(Value.builtin id)))else pure none)=pure none;rw[ts];rfl)).andThen ?_
 unfold ownThenClass;have own:Looks M h (inOwnDict name (.ref a)) none:=by
  obtain⟨c,dd,dt,sl⟩:=o;simp only at hc hd;subst hc hd;intro A Q E s k q;have fin:wpAny M A (instanceDict a false) (fun d s'=>wpAny M A (inDict name d) Q E s') E s:=by unfold instanceDict;refine wpAny_bind (wpAny_loadPart (k _ _ ho) ?_);exact wpAny_pure (wpAny_pure q)
  show wpAny M A ((do
   match(<- loadHead a).data with
  |.cls c=>pure (some c.ns)
  |_=>instanceDict a false) >>= fun d=>inDict name d) Q E s
  unfold loadHead;refine wpAny_bind (wpAny_bind (wpAny_loadPart (k _ _ ho) ?_));cases dt<;>first|exact fin|(cases hn;done)
 refine own.andThen ?_;unfold copiedAttributeGuard;dsimp only;rw[hname];exact Looks.now.andThen (Looks.tag .now)
theorem Looks.at'{s:Shared}{tk:Nat}(x:Looks M s.heap t r)(q:Q r {s with toks:=tk}):wpAny M A t Q E {s with toks:=tk}:=x A Q E _ (fun u_ u_ e=>e) q
theorem xF{T id gid D ga:String}{Q:Value->Shared->Prop}(ho:s.heap.get? a=some o)(hc:o.cls=.type T)(hd:o.dict=none)(hn:notCls o=true)(lk:typeLookup (.type T) name=pure (some (.builtin id)))
  (ty:typeOf (.builtin id)=pure (.type D)) (gt:typeLookup (.type D) "__get__"=pure (some (.builtin gid))) (st:typeLookup (.type D) "__set__"=pure none) (dl:typeLookup (.type D) "__delete__"=pure none)
  (hname:(["__module__","__name__","__qualname__","__doc__","__annotations__"]:List Str).contains name=false)
  (S:Slot T "__getattribute__" ga) (en:entryFor table ga=some Builtin.«object.__getattribute__») (ar:∀x y:Value,argsOk ga ⟨[x,y],[]⟩)
  (h:wpAny (model prog w) A.in1 (bindTo (.builtin gid) (.builtin id) (.ref a) (.type T)) (fun fin s'=>∃v,fin=.done (.ret v)/\handedIn v=true/\Q v s') (fun u_ u_=>False) {s with toks:=s.toks+1}) :
  wpAny (model prog w) A (getAttr (.ref a) name ex) Q E s:=by
 haveI hT:({s with toks:=s.toks+1}:Shared).TypeIs (.ref a) T:=⟨_,ho,hc⟩;unfold getAttr;refine wpAny_bind (wpAny_mkText ?_);unfold getAttrBy;refine wpAny_holding (wpAny_bind (wpAny_typeOf hT (wpAny_bind (wpAny_of_eq S.lookup ?_))));show wpAny _ A (getAttrByItsOwn (.ref a) (.str name s.toks) (.type T) (.builtin ga) true ex) Q E _;unfold getAttrByItsOwn;refine wpAny_bind (m:=hookBefore (.type T)) (wpAny_pure ?_);haveI hcall:wpAny (model prog w) A (callGetattribute (.ref a) (.str name s.toks) (.builtin ga) ex) (fun v s'=>handedIn v=true/\Q v s') (fun u_ u_=>False) {s with toks:=s.toks+1}:=by
  haveI e1:callGetattribute (.ref a) (.str name s.toks) (.builtin ga) ex=boundAndCalled (.builtin ga) (.ref a) (.str name s.toks):=by unfold callGetattribute;cases ex<;>rfl
  rw[e1];unfold boundAndCalled;rw[S.bind];refine wpAny_bind (wpAny_pure ?_);refine wpAny_call_entry S hT en ?_ (ar _ _);haveI hTy:Looks (model prog w) s.heap (typeOf (.ref a)) (.type T):=fun A Q E s' k q=>wpAny_typeOf ⟨_,k _ _ ho,hc⟩ q;show wpAny (model prog w) A.in1 (do
   let tp<-typeOf (.ref a)
   match<-find (.ref a) tp name with
  |.value v=>ret v
  |.bind g x=>bindTo g x (.ref a) tp
  |.missing=>_) _ _ _
  refine wpAny_bind (Looks.at' hTy ?_);refine wpAny_bind (Looks.at' (HN ho hc hd hn lk ty gt st dl hname) ?_);refine wpAny_mono h (fun fin s' hv=>?_) fun u_ u_ x=>x.elim;obtain⟨v,e1,e2,e3⟩:=hv;exact⟨v,e1,e2,e3⟩
 refine wpAny_bind (wpAny_attempt (wpAny_holding (wpAny_mono hcall (fun v s' hv=>?_) fun u_ u_ x=>x.elim)));show wpAny _ A (handedOut v) Q E s';exact handed_on hv.1 hv.2
theorem C7:Slot "method_descriptor" "__get__" "method_descriptor.__get__":=
 .of (owner:="method_descriptor") (n:="__get__") (by rw[typeLookup_type,builtinLookup_eq_fast];kernel_rfl) (by decide +kernel) (by decide +kernel) (by decide +kernel)
  (by first|exact .inl (by decide +kernel)|exact .inr (by decide +kernel)) (by rw[isSubtype_type];kernel_rfl)
theorem EQ:entryFor table "method_descriptor.__get__"=some Builtin.«method_descriptor.__get__»:=entryFor_of_tree (by kernel_rfl)
theorem F3(a b c:Value):argsOk "method_descriptor.__get__" ⟨[a,b,c],[]⟩:=by unfold argsOk;kernel_rfl
theorem GU:entryFor table "list.__getattribute__"=some Builtin.«object.__getattribute__»:=am_entry_list_getattribute
theorem GP(hI:IsL s.heap a items n)
  (h:Q (.ref s.heap.objs.size) {s with heap:=s.heap.push {cls:=.type "builtin_function_or_method",data:=.fields #[.builtin "list.append",.ref a]}}) :
  wpAny (model prog w) A (call (.builtin "method_descriptor.__get__") [.builtin "list.append",.ref a,.type "list"]) Q E s:=by
 haveI hT:s.TypeIs (.builtin "list.append") "method_descriptor":=PySem.F.type_list_append;refine wpAny_call_entry C7 hT EQ ?_ (F3 _ _ _);obtain⟨hh,g,d,t,os⟩:=s;haveI L1:Looks (model prog w) hh (isInstance (.ref a) (.type "list")) true:=fun A Q E s' k q=>by unfold isInstance;refine wpAny_bind (wpAny_typeOf ⟨_,k _ _ hI,rfl⟩ ?_);exact wpAny_of_eq (by rw[isSubtype_type];kernel_rfl) q
 unfold Builtin.«method_descriptor.__get__»
 repeat lk
 exact⟨_,rfl,h⟩
theorem Ii(hI:IsL s.heap a items n)
  (h:Q (.ref s.heap.objs.size) {s with heap:=s.heap.push {cls:=.type "builtin_function_or_method",data:=.fields #[.builtin "list.append",.ref a]},toks:=s.toks+1}):wpAny (model prog w) A (getAttr (.ref a) "append" ex) Q E s:=by
 refine xF hI rfl rfl rfl PySem.F.slot_list_append.lookup PySem.F.type_list_append ET Fd Hr (by decide) PySem.F.slot_list_getattribute GU (fun x y=>PySem.F.args_list_getattribute_2 x y) ?_;show wpAny _ _ (holding [.builtin "list.append"] (call (.builtin "method_descriptor.__get__") [.builtin "list.append",.ref a,.type "list"]) >>= ret) _ _ _;refine wpAny_bind (wpAny_holding ?_);refine GP (s:={s with toks:=s.toks+1}) hI ?_;exact wpAny_pure ⟨_,rfl,rfl,h⟩
end
section
open PySem PySem.W PyProof.Rows PySem.SeqAt
noncomputable abbrev RU:aN->Gh->Unit->Unit->Prop:=fun u_ u_ u_ u_=>True
section
variable{σ:Sx}{q:bW}{x nm:Str}{nd:aZ}
theorem mC(d:Dy c σ)(hq:σ.q=some q)(ra:VD d (.p .self) av)(hn:nm∈(["_node2info","_ready_nodes","_npassedout","_nfinished"]:List Str))
  (k:∀n2i rd tp tf,d.g.at_ (.p .n2i)=some n2i->gi c.b d.g q.ready rd->∃v,ad (sL n2i rd q tp tf) nm=some v/\handedIn v=true/\Q v {d.s with toks:=d.s.toks+1}) :
  Wp c (getAttr av nm ex) Q d.s:=by
 obtain⟨a,rfl,h⟩:=ra;cases d.sr hq with|mk a' sd n2i tp tf rd kvs h1 h2 h3 h4 h5 h6 h7 h8 _ _=>
 obtain⟨v,k1,k2,k3⟩:=k n2i rd tp tf h5 h8;exact D3 d h h2 h3 h4 hn k1 k2 k3
theorem jZ(hq:σ.q=some q):gz (.p .self) "_node2info" σ (.ok (.p .n2i) σ):=fun u_ d u_ u_ u_ ra p=>mC d hq ra (.head _) fun n2i u_ u_ u_ h u_=>⟨_,rfl,rfl,fN p ⟨n2i,rfl,h⟩ (Nat.le_succ _)⟩
theorem uQ(hq:σ.q=some q):gz (.p .self) "_npassedout" σ (.ok (.f (.int q.npo)) σ):=fun u_ d u_ u_ u_ ra p=>mC d hq ra (.tail _ (.tail _ (.head _))) fun u_ u_ u_ u_ u_ u_=>⟨_,rfl,rfl,fN p rfl (Nat.le_succ _)⟩
theorem tJ(hq:σ.q=some q):gz (.p .self) "_nfinished" σ (.ok (.f (.int q.nfin)) σ):=fun u_ d u_ u_ u_ ra p=>mC d hq ra (.tail _ (.tail _ (.tail _ (.head _)))) fun u_ u_ u_ u_ u_ u_=>⟨_,rfl,rfl,fN p rfl (Nat.le_succ _)⟩
theorem oD(hq:σ.q=some q)(hr:q.ready=none):gz (.p .self) "_ready_nodes" σ (.ok (.f .none) σ):=fun u_ d u_ u_ u_ ra p=>mC d hq ra (.tail _ (.head _)) fun u_ rd u_ u_ u_ R=>by rw[hr]at R;exact⟨rd,rfl,by rw[R.1];rfl,fN p R.1 (Nat.le_succ _)⟩
theorem i7(hq:σ.q=some q)(hr:q.ready=some r):gz (.p .self) "_ready_nodes" σ (.ok (.p .rd) σ):=fun u_ d u_ u_ u_ ra p=>mC d hq ra (.tail _ (.head _)) fun u_ rd u_ u_ u_ R=>by
 rw[hr]at R;cases R with|mk l e1 e2 _=>
 exact⟨rd,rfl,by rw[e1];rfl,fN p ⟨l,e1,e2⟩ (Nat.le_succ _)⟩
theorem Dy.node(d:Dy c σ)(hq:σ.q=some q)(hn:ad q.n2i x=some nd):∃v,ch c.b d.g x nd v:=by
 cases d.sr hq with|mk a' sd n2i tp tf rd kvs h1 h2 h3 h4 h5 h6 h7 h8 _ _=>
 obtain⟨v,N,_⟩:=w0 h7 hn;exact⟨v,N⟩
theorem uL(d:Dy c σ)(hq:σ.q=some q)(hl:ad q.n2i x=some nd)(ra:VD d (.p (.nd x)) av)(hn:(nm,i)∈([("node",0),("npredecessors",1),("successors",2)]:List (Str×Nat)))
  (k:∀tx tn l,d.g.at_ (.p (.suc x))=some l->∃v,((#[some (.str x tx),some (.int nd.np tn),some (.ref l)]:Array (Option Value))[i]?).join=some v/\handedIn v=true/\Q v {d.s with toks:=d.s.toks+1}):Wp c (getAttr av nm ex) Q d.s:=by
 obtain⟨a,rfl,h⟩:=ra;obtain⟨_,N⟩:=d.node hq hl;cases N with|mk a' dx l tx tn h1 h2 h3 h4 h5 h6 h7=>
 obtain⟨v,k1,k2,k3⟩:=k tx tn l h6;exact D5 d ((d.h.at_ _ _ h).trans (congrArg some h3)) ((d.h.at_ _ _ h4).trans (congrArg some h5)) hn k1 k2 k3
theorem E9(hq:σ.q=some q)(hl:ad q.n2i x=some nd):gz (.p (.nd x)) "node" σ (.ok (.f (.str x)) σ):=fun u_ d u_ u_ u_ ra p=>uL d hq hl ra (.head _) fun u_ u_ u_ u_=>⟨_,rfl,rfl,fN p rfl (Nat.le_succ _)⟩
theorem mj(hq:σ.q=some q)(hl:ad q.n2i x=some nd):gz (.p (.nd x)) "npredecessors" σ (.ok (.f (.int nd.np)) σ):=fun u_ d u_ u_ u_ ra p=>uL d hq hl ra (.tail _ (.head _)) fun u_ u_ u_ u_=>⟨_,rfl,rfl,fN p rfl (Nat.le_succ _)⟩
theorem ug(hq:σ.q=some q)(hl:ad q.n2i x=some nd):gz (.p (.nd x)) "successors" σ (.ok (.p (.suc x)) σ):=fun u_ d u_ u_ u_ ra p=>uL d hq hl ra (.tail _ (.tail _ (.head _))) fun u_ u_ l h=>⟨_,rfl,rfl,fN p ⟨l,rfl,h⟩ (Nat.le_succ _)⟩
end
noncomputable def nv(v:V)(nm:Str)(u:V)(σ:Sx)(r:aG Unit):Prop:=∀(c:Fr)(d:Dy c σ)(av uv:Value)(Q:Unit->Shared->Prop),VD d v av->VD d u uv->aB d RU r Q->Wp c (PySem.setAttr av nm uv) Q d.s
theorem Kp(h:n<=8):n<=sizeLine:=Nat.le_trans h (by decide +kernel)
open Builtin Builtin.ObjectAttr Builtin.Getset_descriptor in
theorem ue(ok:ib b)(XK:b.K.In s.heap)(hx:s.heap.get? x=some {cls:=.ref (b.fa 15),dict:=some sd,data:=.plain})(ho:s.heap.get? sd=some od)(hns:gn od l)(hl:l.length<=6)(hn:nm∈(["_node2info","_ready_nodes","_npassedout","_nfinished"]:List Str))
  (hQ:∀h' o',h'.get? sd=some o'->gn o' (ag l nm v)->Heap.SameBut sd s.heap h'->Q () {s with heap:=h',toks:=s.toks+1+1}):wpAny b.M A (PySem.setAttr (.ref x) nm v) Q E s:=by
 haveI I:InstAt s.heap x {cls:=.ref (b.fa 15),dict:=some sd,data:=.plain} (b.fa 15) (some od):=⟨hx,rfl,rfl,ho⟩;haveI ht:takerIn b.K (b.fa 15) nm=some none:=by unfold takerIn;rw[ok.sName nm hn];rfl
 refine set_plain XK I ok.sSet (osa_open (s:={s with toks:=s.toks+1}) XK I ok.sOver ht fun bb=>?_);obtain⟨cd,hc,hd'⟩:=any_some ok.sDict;refine wpAny_bind (wpAny_pure (wpAny_bind (wpAny_bind (wpAny_loadPart (s:={s with toks:=s.toks+1}) hx (wpAny_bind ((looks_clsIn (show b.K.In ({s with toks:=s.toks+1}:Shared).heap from XK) hc).here ?_))))));rw[hd'];refine wpAny_pure (a:=some sd) (wpAny_bind (wpAny_pure (wpAny_bind ?_)));refine BV (s:={s with toks:=s.toks+1}) ho hns fun h' o' ho' hn' hs=>?_;haveI:=hn';cases this with|mk es ep hd _ _ hz=>
 haveI hz:es.size<=8:=Nat.le_trans hz (Nat.le_trans putL_le (Nat.succ_le_succ (Nat.le_trans hl (by decide))));exact wpAny_bind (wpAny_lookBehind ho' (by rw[hd];exact pastItsLine_dict (Nat.le_succ_of_le (Kp hz))) (wpAny_pure (hQ h' o' ho' hn' hs)))
where putL_le {α:Type} {x:Str} {v:α}:∀{l:List (Str×α)},(ag l x v).length<=l.length+1
|[]=>Nat.le_refl _
|(y,b)::r=>by
  rw[gf];cases ah x y with
 |true=>exact Nat.le_succ _
 |false=>exact Nat.succ_le_succ putL_le
theorem wP(d:Dy c σ)(hq:σ.q=some q)(ra:VD d (.p .self) av)(hn:nm∈(["_node2info","_ready_nodes","_npassedout","_nfinished"]:List Str))(h1:q'.n2i=q.n2i)(h2:q'.ready=q.ready)(h3:q'.pend=q.pend)
  (k:∀n2i rd tp tf,∃tp' tf',ag (sL n2i rd q tp tf) nm uv=sL n2i rd q' tp' tf') (p:aB d RU (.ok () {σ with q:=some q'}) Q):Wp c (PySem.setAttr av nm uv) Q d.s:=by
 obtain⟨a,rfl,h⟩:=ra;cases d.sr hq with|mk a' sd n2i tp tf rd kvs k1 k2 k3 k4 k5 k6 k7 k8 k9 k10=>
 refine ue c.ok d.h.K ((d.h.at_ _ _ h).trans (congrArg some k2)) (d.h.at_ _ _ k3) k4 (show 4<=6 by decide) hn fun h' o' ho' hn' hs=>?_;obtain⟨tp',tf',e⟩:=k n2i rd tp tf;rw[e]at hn';haveI s:=Gh.set_le (o:=o') k3;haveI o:=fun{T}(z:T≠aE.sd)=>Gh.set_out (g:=d.g) (a:=some sd) (o:=o') z;refine p ⟨_,_,d.hset k3 (fun u_ z=>by cases z) hs ho' (Nat.le_add_right _ 2),d.r.srtG s (fun T t=>o fun z=>t (z▸trivial)) rfl ?_⟩ () s trivial;haveI sm:e8 aE.nds d.g (d.g.set .sd (some sd) o'):=fun T t=>o fun z=>by rw[z]at t;exact t
 exact .mk a sd n2i tp' tf' rd kvs ((Gh.set_at k3).trans h) ((o (T:=.p .self) (fun z=>by cases z)).2.trans k2) ((Gh.set_at k3).trans k3) (by rw[Gh.ob_same];exact hn') ((Gh.set_at k3).trans k5) ((o (T:=.p .n2i) (fun z=>by cases z)).2▸k6)
  (by rw[h1];exact ck.eq (g:=d.g) (g':=d.g.set .sd (some sd) o') (.refl _) sm k7) (by rw[h2];exact gi.eq (g:=d.g) (.refl _) (o fun z=>by cases z) k8) (by rw[h1,h3];exact gC.eq (g:=d.g) (g':=d.g.set .sd (some sd) o') (.refl _) sm k9) (by unfold gF;rw[h1,h3];exact gF.eq sm k10)
theorem CF(hq:σ.q=some q):nv (.p .self) "_npassedout" (.f (.int i)) σ (.ok () {σ with q:=some {q with npo:=i}}):=fun u_ d u_ uv u_ ra ru p=>wP (q':={q with npo:=i}) d hq ra (.tail _ (.tail _ (.head _))) rfl rfl rfl (fun n2i rd tp tf=>⟨dA uv,tf,by rw[ru.int];rfl⟩) p
theorem Km(hq:σ.q=some q):nv (.p .self) "_nfinished" (.f (.int i)) σ (.ok () {σ with q:=some {q with nfin:=i}}):=fun u_ d u_ uv u_ ra ru p=>wP (q':={q with nfin:=i}) d hq ra (.tail _ (.tail _ (.tail _ (.head _)))) rfl rfl rfl (fun n2i rd tp tf=>⟨tp,dA uv,by rw[ru.int];rfl⟩) p
theorem oW:∀{ns:List (Str×aZ)}{kvs:List (Str×Value)},ck b g ns kvs->kvs.map (·.1)=ns.map (·.1):=by
 intro ns
 induction ns with
|nil=> intro _ h;exact congrArg (List.map (·.1)) (show _=_ from h)
|cons p_ _ ih=> obtain⟨_,_⟩:=p_;intro _ h;obtain⟨v,t,rfl,_,h⟩:=h;exact congrArg (_::·) (ih h)
theorem so(ho:∀y nd v,y≠x->ch b g y nd v->ch b g' y nd v)(hx:∀v,ch b g x nd v->ch b g' x nd' v):∀{ns:List (Str×aZ)}{kvs:List (Str×Value)},(kvs.map (·.1)).Nodup->ck b g ns kvs->ad ns x=some nd->ck b g' (ag ns x nd') kvs
|[],_,_,_,h=>by cases h
|(y,n)::r,_,d,N,h=>by
  obtain⟨v,kvs,rfl,h2,h3⟩:=N;obtain⟨d1,d2⟩:=List.nodup_cons.mp d;rw[i9]at h;rw[gf];cases q:ah x y with
 |true=> rw[q]at h;cases h;cases bD.mp q;exact⟨v,kvs,rfl,hx v h2,rest (fun z=>d1 z) h3⟩
 |false=>rw[q]at h;exact⟨v,kvs,rfl,ho _ _ _ (fun z=>by rw[z,bU]at q;cases q) h2,so ho hx d2 h3 h⟩
where rest:∀{ns:List (Str×aZ)}{kvs:List (Str×Value)},x∉kvs.map (·.1)->ck b g ns kvs->ck b g' ns kvs
|[],_,_,h=>h
|(y,n)::r,_,d,N=>by obtain⟨v,kvs,rfl,h2,h3⟩:=N;exact⟨v,kvs,rfl,ho _ _ _ (fun z=>d (z▸.head _)) h2,rest (fun z=>d (.tail _ z)) h3⟩
theorem aW.node(r:aW c σ g)(hq:σ.q=some q)(hl:ad q.n2i x=some nd)(e:g.at_ T=some a)(hT:T=.p (.nd x)\/T=.p (.suc x))(hx:∀v,ch c.b g x nd v->ch c.b (g.set T (some a) o) x nd' v):
  aW c {σ with q:=some {q with n2i:=ag q.n2i x nd'}} (g.set T (some a) o):=by
 haveI s:=Gh.set_le (o:=o) e (by rcases hT with t|t<;>(rw[t];intro z;cases z));have out:=fun{T'}(z:T'≠T)=>Gh.set_out (g:=g) (a:=some a) (o:=o) z;haveI hs:SR c.b g q:=by have:=r.srt;rw[hq]at this;exact this
 have hn:∀T',¬T'.nds->T'≠T:=fun T' n z=>by rcases hT with t|t<;>(rw[z,t]at n;exact n trivial)
 have other:∀y nd v,y≠x->ch c.b g y nd v->ch c.b (g.set T (some a) o) y nd v:=fun y nd v ne N=>by
  have ne2:∀T',(T'=.p (.nd y)\/T'=.p (.suc y)\/T'=.ndd y)->T'≠T:=fun T' t z=>by rcases hT with k|k<;>rcases t with t|t|t<;>(rw[t,k]at z;cases z;first|exact ne rfl|skip)
  cases N with|mk a d l tx tn h1 h2 h3 h4 h5 h6 h7=>
  have e1:=out (ne2 _ (.inl rfl));have e2:=out (ne2 _ (.inr (.inr rfl)));have e3:=out (ne2 _ (.inr (.inl rfl)));exact .mk a d l tx tn h1 (e1.1.trans h2) (e1.2.trans h3) (e2.1.trans h4) (e2.2.trans h5) (e3.1.trans h6) (cA.eq (g:=g) (.refl _) e3 h7)
 have nx:∀y,ad q.n2i y=none->y≠x:=fun y h z=>by rw[z,hl]at h;cases h
 refine r.srtG s (fun T' t=>out fun z=>t ((show T'.srt from by rw[z];rcases hT with t|t<;>(rw[t];trivial)))) rfl (hs.upd (out (hn (.p .self) id)) (out (hn .sd id)).1 (out (hn (.p .n2i) id)) (fun u_ u_ tp tf h=>⟨tp,tf,(out (hn .sd id)).2▸h⟩) (fun kvs d N=>so other hx d N hl) (fun u_ R=>gi.eq (g:=g) (.refl _) (out (hn (.p .rd) id)) R) (fun P=>?_) fun F y h p=>?_)
 ·show gC c.b _ (ag q.n2i x nd') q.pend;cases hp:q.pend with
 |none=>trivial
 |some u=>rw[hp]at P;exact⟨dB.trans ((if_neg (nx u P.1)).trans P.1),P.2.imp fun v N=>other u _ v (nx u P.1) N⟩
 ·rw[dB]at h;have h:ad q.n2i y=none:=by
   by_cases z:y=x
   ·rw[if_pos z]at h;cases h
   ·rw[if_neg z]at h;exact h
  exact⟨(Gh.set_at e).trans (F y h p).1,(Gh.set_at e).trans (F y h p).2⟩
inductive fK(σ:Sx)(xs:List F):P->Sx->Prop
|loc (i:Nat) (ys:List F):aq σ.h i=some (.list ys)->fK σ xs (.loc i) {σ with h:=bc σ.h i (.list xs)}
|suc (x:Str) (q:bW) (nd:aZ) (l:List Str):σ.q=some q->ad q.n2i x=some nd->xs=l.map F.str->fK σ xs (.suc x) {σ with q:=some {q with n2i:=ag q.n2i x {nd with succ:=l}}}
|rd (q:bW) (r l:List Str):σ.q=some q->q.ready=some r->xs=l.map F.str->fK σ xs .rd {σ with q:=some {q with ready:=some l}}
theorem aW.list(r:aW c σ g)(k:fK σ xs p af)(e:g.at_ (.p p)=some a)(h:FRs c.b g.z xs vs):aW c af (g.set (.p p) (some a) (aV vs n)):=by
 have s:=Gh.set_le (o:=aV vs n) e (by cases k<;>(intro z;cases z));have L:cA c.b (g.set (.p p) (some a) (aV vs n)) p xs:=.mk a vs n Gh.at_same Gh.ob_same h;cases k with
|loc i ys hi=>exact r.locG s (fun T t=>Gh.set_out fun z=>t (z▸rfl)) rfl hi L
|suc x q nd l hq hl hs=>
  refine r.node hq hl e (.inr rfl) fun v N=>?_;cases N with|mk a' d l' tx tn h1 h2 h3 h4 h5 h6 h7=>
  have e1:=Gh.set_out (g:=g) (a:=some a) (o:=aV vs n) (T:=.p (.suc x)) (T':=.p (.nd x)) (fun z=>by cases z);have e2:=Gh.set_out (g:=g) (a:=some a) (o:=aV vs n) (T:=.p (.suc x)) (T':=.ndd x) (fun z=>by cases z);exact .mk a' d l' tx tn h1 (e1.1.trans h2) (e1.2.trans h3) (e2.1.trans h4) (e2.2.trans h5) ((Gh.set_at e).trans h6) (hs▸L)
|rd q r' l hq hr hs=>
  haveI hS:SR c.b g q:=by have:=r.srt;rw[hq]at this;exact this
  have out:=fun{T'}(z:T'≠aE.p .rd)=>Gh.set_out (g:=g) (a:=some a) (o:=aV vs n) z;have sm:e8 aE.nds g (g.set (.p .rd) (some a) (aV vs n)):=fun T t=>out fun z=>by rw[z]at t;exact t
  refine r.srtG s (fun T t=>out fun z=>t (z▸trivial)) rfl (hS.upd (out fun z=>by cases z) (Gh.set_at e) (out fun z=>by cases z) (fun u_ u_ tp tf h=>⟨tp,tf,(out (T':=.sd) fun z=>by cases z).2▸h⟩) (fun u_ u_ N=>ck.eq (g:=g) (g':=g.set (.p .rd) (some a) (aV vs n)) (.refl _) sm N) (fun rd R=>?_) (gC.eq (g:=g) (g':=g.set (.p .rd) (some a) (aV vs n)) (.refl _) sm) (gF.eq sm));rw[hr]at R;cases R with|mk l' k1 k2 _=>exact .mk l' k1 ((Gh.set_at e).trans k2) (hs▸L)
theorem Dy.put(d:Dy c σ)(k:fK σ xs p af)(e:d.g.at_ (.p p)=some a)(h:FRs c.b d.g.z xs vs)(hs:Heap.SameBut a d.s.heap h')(hn:h'.get? a=some (aV vs n))(ht:d.s.toks<=t):∃d':Dy c af,d'.s={d.s with heap:=h',toks:=t}/\Le d d':=
 ⟨⟨_,_,d.hset e (fun u_ z=>by cases z) hs hn ht,d.r.list k e h⟩,rfl,Gh.set_le e (by cases k<;>(intro z;cases z))⟩
theorem A1(d:Dy c σ)(h:eQ σ xs p)(k:fK σ (xs++[y]) p af)(ra:VD d (.p p) av)(ry:VD d (.f y) yv)(hz:Nat.ble xs.length aw=true)(pp:aB d VV (.ok (.f .none) af) Q):Wp c (call (.builtin "list.append") [av,yv]) Q d.s:=by
 cases ra with|mk a e1 e2=>
 subst e1;cases h.at_ d with|mk a' vs n h1 h2 h3=>
 refine wpAny_list_append_plain ⟨n,(d.h.at_ _ _ e2).trans (congrArg some h2)⟩ (fun h' hI hs=>?_) (by rw[List.size_toArray,h3.length];exact fits hz);obtain⟨n',hI⟩:=hI;rw[List.push_toArray]at hI;obtain⟨d',r1,r2⟩:=d.put k e2 (FRs.snoc h3 ry) hs hI (Nat.le_refl _);haveI:=pp d' .none r2 rfl;rw[r1]at this;exact this
structure sS(A:Around)(s:Shared)(v u:Value)(k:Bool):Prop where
 eq:RcAt A s v u k
 ne:RcNeAt A s v u (!k)
 el:EqAt A s v u k
noncomputable def gc(n:Nat)(x y:F)(k:Bool):Prop:=∀(b:aN)(z:Z)(s:Shared)(v u:Value),(∀a o,z.f a=some o->s.heap.get? a=some o)->FR b z x v->FR b z y u->(v=u->k=true)/\∀A:Around,A.units+n < cLine->sS A s v u k
inductive cT(n:Nat):List F->List F->List Bool->Prop
|nil:cT n [] [] []
|cons (x y:F) (k:Bool) (xs ys:List F) (ks:List Bool):gc n x y k->cT n xs ys ks->cT n (x::xs) (y::ys) (k::ks)
theorem iT{A:Around}(h:A.units+n < cLine):A.units < cLine:=Nat.lt_of_le_of_lt (Nat.le_add_right _ _) h
theorem l9{A:Around}(h:A.units+(n+1) < cLine):A.in1.units+n < cLine:=by rw[show A.in1.units+n=A.units+(n+1)from Nat.add_right_comm _ _ _];exact h
section
variable{n:Nat}{xs ys:List F}{ks:List Bool}{b:aN}{z:Z}{s:Shared}
theorem cT.len(h:cT n xs ys ks):xs.length=ks.length/\ys.length=ks.length:=by
 induction h with
|nil=>exact⟨rfl,rfl⟩
|cons _ _ _ _ _ _ _ _ ih=>exact⟨congrArg (·+1) ih.1,congrArg (·+1) ih.2⟩
theorem cT.same(hz:∀a o,z.f a=some o->s.heap.get? a=some o)(h:cT n xs ys ks):∀{vs:List Value},FRs b z xs vs->FRs b z ys vs->ks.all id=true:=by
 induction h with
|nil=>intro _ _ _;rfl
|cons x y k xs ys ks h _ ih=> intro vs r1 r2;obtain⟨v,us,rfl,a1,r1⟩:=r1;obtain⟨_,_,e,a2,r2⟩:=r2;cases(e);rw[List.all_cons,ih r1 r2,Bool.and_true];exact(h b z s v v hz a1 a2).1 rfl
theorem cT.at(hA:A.units+n < cLine)(hz:∀a o,z.f a=some o->s.heap.get? a=some o)(h:cT n xs ys ks):∀{vs us:List Value},FRs b z xs vs->FRs b z ys us->∀j(h1:j < vs.length)(h2:j < us.length),EqAt A s vs[j] us[j] (ks.getD j false):=by
 induction h with
|nil=>intro vs us r1 _ j h1;cases(show vs=[]from r1);cases h1
|cons x y k xs ys ks h _ ih=>
  intro vs us r1 r2 j h1 h2;obtain⟨v,vs,rfl,a1,r1⟩:=r1;obtain⟨u,us,rfl,a2,r2⟩:=r2;cases j with
 |zero=>exact((h b z s v u hz a1 a2).2 A hA).el
 |succ j=>exact ih r1 r2 j _ _
theorem xf:∀(l:List Bool),((List.range l.length).all fun j=>l.getD j false)=l.all id:=by
 intro l
 induction l with
|nil=> exact rfl
|cons k l ih=> rw[List.length_cons,List.range_succ_eq_map,List.all_cons,List.all_map,List.all_cons,<-ih];rfl
theorem bz{h:Heap}(x:h.get? a=some (aV vs n)):h.IsList a vs.toArray:=⟨_,x,rfl,_,rfl⟩
theorem jF{h:Heap}(x:h.get? a=some (iN vs n)):h.IsTuple a vs.toArray:=⟨_,x,rfl,_,rfl⟩
theorem sS.refs(h:RcAt A s (.ref l) (.ref l') k)(hn:RcNeAt A s (.ref l) (.ref l') (!k))(hs:l=l'->k=true):sS A s (.ref l) (.ref l') k:=⟨h,hn,by
 by_cases q:l=l'
 ·rw[hs q,q];exact EqAt.same _
 ·exact .of_refs q h⟩
theorem sJ{vs us:List Value}(h:(some ({cls:=.type T,data:=.seq vs.toArray n}:Obj))=some {cls:=.type T,data:=.seq us.toArray m}):vs=us:=by injection h with h;injection h with _ _ h;injection h with h;injection h
theorem ij(h:cT n xs ys ks):gc (n+1) (.list xs) (.list ys) (ks.all id):=fun b z s v u hz rv ru=>by
 obtain⟨vs,o0_,r1⟩:=rv;obtain⟨a,n1,rfl,e1⟩:=o0_;obtain⟨us,o0_,r2⟩:=ru;obtain⟨a',n2,rfl,e2⟩:=o0_;have same:a=a'->ks.all id=true:=fun q=>by cases sJ (e1.symm.trans (q▸e2));exact h.same hz r1 r2
 refine⟨fun q=>same (by cases(q);rfl),fun A hA=>?_⟩;have l1:vs.toArray.size=ks.length:=by rw[List.size_toArray,r1.length,h.len.1]
 have l2:us.toArray.size=ks.length:=by rw[List.size_toArray,r2.length,h.len.2]
 have he:=h.at (A:=A.in1) (l9 hA) hz r1 r2;haveI hall:(List.range vs.toArray.size).all (fun j=>ks.getD j false)=ks.all id:=by rw[l1];exact xf ks
 have R:=RcAt.lists (A:=A) (bz (hz _ _ e1)) (bz (hz _ _ e2)) (l1.trans l2.symm) (iT hA) (fun j h1 h2=>he j (by simpa using h1) (by simpa using h2));have N:=RcNeAt.lists (A:=A) (bz (hz _ _ e1)) (bz (hz _ _ e2)) (l1.trans l2.symm) (iT hA) (fun j h1 h2=>he j (by simpa using h1) (by simpa using h2));rw[hall]at R N;exact .refs R N same
theorem qb(h:Nat.beq xs.length ys.length=false):gc (n+1) (.list xs) (.list ys) false:=fun b z s v u hz rv ru=>by
 obtain⟨vs,o0_,r1⟩:=rv;obtain⟨a,n1,rfl,e1⟩:=o0_;obtain⟨us,o0_,r2⟩:=ru;obtain⟨a',n2,rfl,e2⟩:=o0_;have hne:=Nat.ne_of_beq_eq_false h;have same:a=a'->false=true:=fun q=>by cases sJ (e1.symm.trans (q▸e2));exact absurd (r1.length.symm.trans r2.length) hne
 have hsz:(vs.toArray.size != us.toArray.size)=true:=by rw[List.size_toArray,List.size_toArray,r1.length,r2.length];exact bne_iff_ne.mpr hne
 exact⟨fun q=>same (by cases(q);rfl),fun A hA=>.refs (.lists_lengths (bz (hz _ _ e1)) (bz (hz _ _ e2)) hsz (iT hA)) (.lists_lengths (bz (hz _ _ e1)) (bz (hz _ _ e2)) hsz (iT hA)) same⟩
theorem Fq(h:cT n xs ys ks):gc (n+1) (.tup xs) (.tup ys) (ks.all id):=fun b z s v u hz rv ru=>by
 obtain⟨vs,o0_,r1⟩:=rv;obtain⟨a,n1,rfl,e1⟩:=o0_;obtain⟨us,o0_,r2⟩:=ru;obtain⟨a',n2,rfl,e2⟩:=o0_;have same:a=a'->ks.all id=true:=fun q=>by cases sJ (e1.symm.trans (q▸e2));exact h.same hz r1 r2
 refine⟨fun q=>same (by cases(q);rfl),fun A hA=>?_⟩;haveI l1:vs.toArray.size=ks.length:=by rw[List.size_toArray,r1.length,h.len.1]
 haveI l2:us.toArray.size=ks.length:=by rw[List.size_toArray,r2.length,h.len.2]
 have he:=h.at (A:=A.in1) (l9 hA) hz r1 r2;haveI hall:((List.range (min vs.toArray.size us.toArray.size)).all (fun j=>ks.getD j false)&&vs.toArray.size==us.toArray.size)=ks.all id:=by rw[l1,l2,Nat.min_self,beq_self_eq_true,Bool.and_true];exact xf ks
 have R:=RcAt.tuples (A:=A) (e:=fun j=>ks.getD j false) (jF (hz _ _ e1)) (jF (hz _ _ e2)) (iT hA) (fun j h1 h2=>he j (by simpa using h1) (by simpa using h2));have N:=RcNeAt.tuples (A:=A) (e:=fun j=>ks.getD j false) (jF (hz _ _ e1)) (jF (hz _ _ e2)) (iT hA) (fun j h1 h2=>he j (by simpa using h1) (by simpa using h2));rw[hall]at R N;exact .refs R N same
theorem sT:gc n .none .none true:=fun b z s v u u_ rv ru=>by cases(show v=_ from rv);cases(show u=_ from ru);exact⟨fun u_=>rfl,fun A u_=>⟨.none_none,.none_none,.same _⟩⟩
theorem iu:gc n (.int i) (.int j) (i==j):=fun b z s v u u_ rv ru=>by rw[show v=_ from rv,show u=_ from ru];exact⟨fun q=>by injection q with q;exact beq_iff_eq.mpr q,fun A u_=>⟨.int_int _ _ _ _,.int_int _ _ _ _,.int_int _ _ _ _⟩⟩
theorem iH:gc n (.str x) (.str y) (ah x y):=fun b z s v u u_ rv ru=>by rw[show v=_ from rv,show u=_ from ru,show ah x y=(x==y)from by rw[Bool.eq_iff_iff,bD,beq_iff_eq]];exact⟨fun q=>by injection q with q;exact beq_iff_eq.mpr q,fun A u_=>⟨.str_str _ _ _ _,.str_str _ _ _ _,.str_str _ _ _ _⟩⟩
theorem CM:gc n (.str x) (.list ys) false:=fun b z s v u hz rv ru=>by obtain⟨us,o0_,r2⟩:=ru;obtain⟨a',n2,rfl,e2⟩:=o0_;rw[show v=_ from rv];exact⟨fun q=>(by cases q),fun A hA=>⟨.str_list _ _ (bz (hz _ _ e2)) (iT hA),.str_list _ _ (bz (hz _ _ e2)) (iT hA),.str_list _ _ (bz (hz _ _ e2)) (iT hA)⟩⟩
end
noncomputable def ft(neg:Bool)(o n:CmpOp):CmpOp:=match neg with
|true=>n
|false=>o
noncomputable def aQ(op:CmpOp)(x y:V)(σ:Sx)(k:Bool):Prop:=∀(c:Fr),c.A.handled=none->∀(d:Dy c σ)(a b:Value),VD d x a->VD d y b->∀Q:Value->Shared->Prop,(∀d':Dy c σ,Le d d'->Q (.bool k) d'.s)->Wp c (compareOp op a b) Q d.s
theorem Fr.u7(c:Fr):c.A.units+7 < cLine:=Nat.lt_of_le_of_lt (Nat.le_trans (Nat.add_le_add_left (by decide:7<=20) _) (Nat.add_le_add_right (Nat.le_add_right _ _) 20)) c.k.units
theorem bS(h:gc 6 x y k):aQ (ft neg .Eq .NotEq) (.f x) (.f y) σ (k != neg):=fun c u_ d a b ra rb Q q=>by
 haveI r:=(h c.b d.g.z d.s a b d.h.zf ra rb).2 c.A (Nat.lt_of_succ_lt c.u7);haveI q:=q d (Le.refl d);cases neg with
|true=>rw[Bool.bne_true]at q;exact r.ne _ _ _ _ q
|false=>rw[Bool.bne_false]at q;exact r.eq _ _ _ _ q
theorem mI{a b:Value}(hp:plainIs a b=true)(h:Q (.bool ((a==b) != neg)) s):wpAny M A (compareOp (ft neg .Is .IsNot) a b) Q E s:=by
 cases neg with
|true=>rw[Bool.bne_true]at h;exact wpAny_isNot_plain hp h
|false=>rw[Bool.bne_false]at h;exact wpAny_is_plain hp h
theorem kH:aQ (ft neg .Is .IsNot) (.f .none) (.f .none) σ (true != neg):=fun u_ u_ d a b ra rb Q q=>by cases(show a=_ from ra);cases(show b=_ from rb);exact mI rfl (q d (Le.refl d))
theorem KE:aQ (ft neg .Is .IsNot) (.f (.bool i)) (.f (.bool j)) σ ((i==j) != neg):=fun u_ u_ d a b ra rb Q q=>by cases(show a=_ from ra);cases(show b=_ from rb);refine mI rfl ?_;rw[show(Value.bool i==Value.bool j)=(i==j)from by cases i<;>cases j<;>rfl];exact q d (Le.refl d)
theorem qu(h:Nat.beq k j=true):aQ (ft neg .Is .IsNot) (.f (.star k)) (.f (.star j)) σ (true != neg):=fun u_ u_ d a b ra rb Q q=>by
 cases Nat.eq_of_beq_eq_true h;cases ra with|mk l e1 e2=>
 cases rb with|mk l' e3 e4=>
 subst e1;subst e3;rw[e2]at e4;cases e4;haveI q:=q d (Le.refl d);cases neg with
|true=>exact wpAny_isNot_ref_self q
|false=>exact wpAny_is_ref_self q
theorem sM:aQ (ft neg .Is .IsNot) (.f (.str t)) (.f (.star k)) σ (false != neg):=fun u_ u_ d a b ra rb Q q=>by
 cases rb with|mk l' e3 e4=>
 subst e3;rw[ra.str];exact mI rfl (q d (Le.refl d))
theorem kc:aQ (ft neg .Is .IsNot) (.p p) (.f .none) σ (false != neg):=fun u_ u_ d a b ra rb Q q=>by
 cases ra with|mk l e1 e2=>
 cases(show b=_ from rb);subst e1;exact mI rfl (q d (Le.refl d))
theorem qo:aQ .Lt (.f (.int i)) (.f (.int j)) σ (decide (i < j)):=fun u_ u_ d u_ u_ ra rb u_ q=>by rw[ra.int,rb.int];exact P.lt_int (q d (Le.refl d))
theorem B7:aQ .Gt (.f (.int i)) (.f (.int j)) σ (decide (j < i)):=fun u_ u_ d u_ u_ ra rb u_ q=>by rw[ra.int,rb.int];exact P.gt_int (q d (Le.refl d))
theorem ur:aQ .GtE (.f (.int i)) (.f (.int j)) σ (decide (j<=i)):=fun u_ u_ d u_ u_ ra rb u_ q=>by rw[ra.int,rb.int];exact P.ge_int (q d (Le.refl d))
theorem CA:aQ .Gt (.f (.str i)) (.f (.str j)) σ (decide (j.cps.toList < i.cps.toList)):=fun u_ u_ d u_ u_ ra rb u_ q=>by rw[ra.str,rb.str];exact P.gt_str (q d (Le.refl d))
theorem cT.zip(hA:A.units+n < cLine)(hz:∀a o,z.f a=some o->s.heap.get? a=some o)(h:cT n xs ys ks)(hx:∀y∈ys,FR b z y xv):∀{vs:List Value},FRs b z xs vs->∀p∈vs.zip ks,EqAt A s p.1 xv p.2:=by
 induction h with
|nil=>intro vs _ p m;simp at m
|cons x y k xs ys ks h _ ih=>
  intro vs r p m;obtain⟨v,vs,rfl,a1,r⟩:=r;rcases List.mem_cons.mp m with rfl|m
  ·exact((h b z s v xv hz a1 (hx y (.head _))).2 A hA).el
  ·exact ih (fun y m=>hx y (.tail _ m)) r p m
open Classical in
theorem AW:∀{vs:List Value}{ks:List Bool},vs.length=ks.length->(∀p∈vs.zip ks,EqAt A s p.1 xv p.2)->∃e:Value->Bool,(∀y∈vs,EqAt A s y xv (e y))/\vs.any e=ks.any id:=fun{vs ks}hl h=>by
 refine⟨fun y=>decide (∃p∈vs.zip ks,p.1=y/\p.2=true),fun y m=>?_,?_⟩
 ·show EqAt A s y xv (decide (∃p∈vs.zip ks,p.1=y/\p.2=true));cases q:decide (∃p∈vs.zip ks,p.1=y/\p.2=true)with
 |true=>obtain⟨p,mp,rfl,e⟩:=of_decide_eq_true q;haveI:=h p mp;rw[e]at this;exact this
 |false=>
   obtain⟨j,hj,rfl⟩:=List.mem_iff_getElem.mp m;haveI mz:(vs[j],ks[j]'(hl▸hj))∈vs.zip ks:=List.mem_iff_getElem.mpr ⟨j,by rw[List.length_zip,<-hl,Nat.min_self];exact hj,List.getElem_zip⟩;cases qk:ks[j]'(hl▸hj)with
  |true=>exact absurd ⟨_,mz,rfl,qk⟩ (of_decide_eq_false q)
  |false=>haveI:=h _ mz;rw[qk]at this;exact this
 ·rw[Bool.eq_iff_iff,List.any_eq_true,List.any_eq_true];constructor
  ·intro o_;obtain⟨y,_,q⟩:=o_;obtain⟨p,m,_,e⟩:=of_decide_eq_true q;exact⟨p.2,(List.of_mem_zip m).2,e⟩
  ·intro o_;obtain⟨k,m,e⟩:=o_;obtain⟨j,hj,rfl⟩:=List.mem_iff_getElem.mp m;haveI hj':j < vs.length:=hl▸hj;exact⟨vs[j],List.getElem_mem hj',decide_eq_true ⟨(vs[j],ks[j]),List.mem_iff_getElem.mpr ⟨j,by rw[List.length_zip,<-hl,Nat.min_self];exact hj',List.getElem_zip⟩,rfl,e⟩⟩
theorem xJ(hv:bV σ xs v)(h:cT 6 xs (xs.map fun u_=>x) ks):aQ (ft neg .In .NotIn) (.f x) v σ (ks.any id != neg):=fun c u_ d a b ra rb Q q=>by
 cases hv.v d rb with|mk l vs n hI hr=>
 haveI q:=q d (Le.refl d);obtain⟨e,he,hk⟩:=AW (A:=c.A.in1) (hr.length.trans h.len.1) (h.zip (l9 c.u7) d.h.zf (xv:=a) (fun y m=>by obtain⟨_,_,rfl⟩:=List.mem_map.mp m;exact ra) hr);haveI hk':vs.toArray.any e=ks.any id:=by rw[<- hk];simp
 rw[<- hk']at q;cases neg with
|true=>rw[Bool.bne_true]at q;exact notIn_listAt e (bz hI) (fun y m=>he y (by simpa using m)) q
|false=>rw[Bool.bne_false]at q;exact in_listAt e (bz hI) (fun y m=>he y (by simpa using m)) q
theorem Cj(h:cT 6 xs (xs.map fun u_=>x) ks):aQ (ft neg .In .NotIn) (.f x) (.f (.tup xs)) σ (ks.any id != neg):=fun c u_ d a b ra rb Q q=>by
 obtain⟨vs,o0_,hr⟩:=rb;obtain⟨l,n,rfl,hI⟩:=o0_;haveI q:=q d (Le.refl d);obtain⟨e,he,hk⟩:=AW (A:=c.A.in1) (FRs.length hr |>.trans h.len.1) (h.zip (l9 c.u7) d.h.zf (xv:=a) (fun y m=>by obtain⟨_,_,rfl⟩:=List.mem_map.mp m;exact ra) hr);haveI hk':vs.toArray.any e=ks.any id:=by rw[<- hk];simp
 rw[<- hk']at q;cases neg with
|true=>rw[Bool.bne_true]at q;exact notIn_tupleAt e (jF (d.h.zf _ _ hI)) (fun y m=>he y (by simpa using m)) q
|false=>rw[Bool.bne_false]at q;exact in_tupleAt e (jF (d.h.zf _ _ hI)) (fun y m=>he y (by simpa using m)) q
theorem AA:aQ (ft neg .In .NotIn) (.f (.str u)) (.f (.str t)) σ ((!(Builtin.Str.occurrences t u 0 t.length 1).isEmpty) != neg):=fun c u_ d a b ra rb Q q=>by
 rw[ra.str,rb.str];haveI q:=q d (Le.refl d);cases neg with
|true=>rw[Bool.bne_true]at q;exact P.notIn_str q
|false=>rw[Bool.bne_false]at q;exact P.in_str q
inductive iy(σ:Sx)(es:List (Str×F)):V->Prop
|f:iy σ es (.f (.dict es))
|loc (i:Nat):aq σ.h i=some (.dict es)->iy σ es (.p (.loc i))
inductive wO{c:Fr}{σ:Sx}(d:Dy c σ)(es:List (Str×F)):Value->Prop
|mk (a:Addr) (o:Obj) (kvs:List (Str×Value)):(a==sysModules)=false->d.s.heap.get? a=some o->DictO c.b o kvs->DRs c.b d.g.z es kvs->wO d es (.ref a)
noncomputable def gZ(es:List (Str×α))(u:Str):Bool:=match ad es u with
|some _=>true
|none=>false
theorem HC.sys(h:HC c g s)(e:g.at_ T=some a)(hT:∀k,T≠.tab k):(a==sysModules)=false:=beq_eq_false_iff_ne.mpr fun q=>by obtain⟨o,ho⟩:=c.ok.sys;haveI:=h.noB e hT;rw[q,ho]at this;cases this
theorem iy.at_(h:iy σ es v)(d:Dy c σ)(r:VD d v val):wO d es val:=by
 cases h with
|f=> obtain⟨kvs,k,r⟩:=r;cases k with|mk a o e h1 h2 h3=>subst e;exact⟨a,o,kvs,h1,d.h.zf _ _ h2,h3,r⟩
|loc i h=>
  cases r with|mk a e1 e2=>
  have L:=d.r.loc i;rw[h]at L;have L:iQ c.b d.g (.loc i) es:=L;cases L with|mk a' kvs k1 k2 k3=>subst e1;exact⟨a,_,kvs,d.h.sys e2 (fun u_ z=>by cases z),d.h.at_ _ _ e2,k2,k3⟩
theorem tX:∀{es:List (Str×F)}{kvs:List (Str×Value)},DRs b z es kvs->(∀x,ad es u=some x->∃v,valueAt kvs u=some v/\FR b z x v)/\(valueAt kvs u).isSome=gZ es u:=by
 intro es
 induction es with
|nil=> intro _ h;cases(show _=[]from h);exact⟨fun u_ q=>(by cases q),rfl⟩
|cons p_ es ih_=>
  obtain⟨k,x⟩:=p_;intro _ h;obtain⟨v,kvs,rfl,h1,h2⟩:=h;haveI ih:=ih_ h2;unfold gZ ad;by_cases q:u=k
  ·subst q;haveI e2:valueAt ((u,v)::kvs) u=some v:=by simp[valueAt]
   rw[bU,e2];exact⟨fun y hy=>by cases hy;exact⟨v,rfl,h1⟩,rfl⟩
  ·haveI e2:valueAt ((k,v)::kvs) u=valueAt kvs u:=by simp[valueAt,show ¬k=u from fun z=>q z.symm]
   rw[gQ q,e2];exact ih
theorem xO(h:iy σ es v):aQ (ft neg .In .NotIn) (.f (.str u)) v σ (gZ es u != neg):=fun c u_ d a b ra rb Q q=>by
 cases h.at_ d rb with|mk l o kvs h1 h2 h3 h4=>
 rw[ra.str];haveI q:=q (d.tok (d.s.toks+1) (Nat.le_succ _)) (Gh.Le.refl _);rw[<- (tX (u:=u) h4).2]at q;cases neg with
|true=>rw[Bool.bne_true]at q;exact wpAny_notIn_of (strKind_is _ _ u _) h1 (h3.at h2).mapOf q
|false=>rw[Bool.bne_false]at q;exact wpAny_in_of (strKind_is _ _ u _) h1 (h3.at h2).mapOf q
theorem yk(h:aq σ.h i=some (.set us)):aQ (ft neg .In .NotIn) (.f (.str u)) (.p (.loc i)) σ (aO us u != neg):=fun c u_ d a b ra rb Q q=>by
 cases rb with|mk a e1 e2=>
 have L:=d.r.loc i;rw[h]at L;have L:lW c.b d.g (.loc i) us:=L;cases L with|mk a' k1 k2=>
 rw[k1]at e2;cases e2;obtain⟨S,k4,k3⟩:=k2;have k3:=k3 _ (d.h.at_ _ _ k1);subst e1;rw[ra.str];have q:=q (d.tok (d.s.toks+1) (Nat.le_succ _)) (Gh.Le.refl _);rw[<- k4 u]at q;cases neg with
|true=>rw[Bool.bne_true]at q;exact wpAny_notInSet_of (strKind_is _ _ u _) rfl k3 q
|false=>rw[Bool.bne_false]at q;exact wpAny_inSet_of (strKind_is _ _ u _) rfl k3 q
noncomputable def fX(v:V)(σ:Sx)(k:Bool):Prop:=∀(c:Fr)(d:Dy c σ)(a:Value),VD d v a->∀(A:Around)(E:Value->Shared->Prop)(Q:Bool->Shared->Prop),(∀d':Dy c σ,Le d d'->Q k d'.s)->wpAny c.b.M A (truthy a) Q E d.s
theorem yn:fX (.f .none) σ false:=fun u_ d a r u_ u_ u_ q=>by cases(show a=_ from r);exact wpAny_of_eq rfl (q d (Le.refl d))
theorem jH:fX (.f (.bool k)) σ k:=fun u_ d a r u_ u_ u_ q=>by cases(show a=_ from r);exact wpAny_truthy_bool (q d (Le.refl d))
theorem Iz(l:List α):(!l.toArray.isEmpty)=!l.isEmpty:=by cases l<;>rfl
theorem zY(h:Nat.ble x.cps.toList.length aw=true):fX (.f (.str x)) σ (!x.cps.toList.isEmpty):=fun u_ d a r u_ u_ u_ q=>by haveI hl:=eJ x;rw[r.str];refine P.truthy_str (by rw[hl];exact Int.not_le.mpr (lB h)) ?_;rw[show((x.length:Int) != 0)=!x.cps.toList.isEmpty from by rw[hl];cases x.cps.toList<;>rfl];exact q (d.tok _ (Nat.le_add_right _ 2)) (Gh.Le.refl _)
theorem ki(hv:bV σ xs v)(h:Nat.ble xs.length aw=true):fX v σ (!xs.isEmpty):=fun u_ d a r u_ u_ u_ q=>by
 cases hv.v d r with|mk l vs n hI hr=>
 refine wpAny_truthy_list (bz hI) (by rw[List.size_toArray,FRs.length hr];exact lB h) ?_;rw[Iz,show vs.isEmpty=xs.isEmpty from by have:=FRs.length hr;cases vs<;>cases xs<;>first|rfl|cases this];exact q (d.tok _ (Nat.le_add_right _ 2)) (Gh.Le.refl _)
noncomputable abbrev RB:aN->Gh->Bool->Bool->Prop:=fun u_ u_ a b=>b=a
noncomputable def ST(e:Ev)(n:Nat)(x:Expr)(σ:Sx)(r:aG Bool):Prop:=∀(c:Fr),In c e n->∀(d:Dy c σ)(Q:Bool->Shared->Prop),aB d RB r Q->Wp c (isTrue x c.env (eval x c.env)) Q d.s
theorem HH(hx:ST e n x σ rx):ST e n (.UnaryOp .Not x pos) σ (rx.bnd fun k af=>.ok (!k) af):=
 fun c i d u_ p=>wpAny_isTrue_Not (hx c i d _ (aB.bnd p fun u_ u_ d' u_ u_ r p'=>by cases r;exact p' d' _ (Le.refl d') rfl))
theorem gD(hx:SE e n x σ (.ok (.f (.int j)) σ₁)):SE e n (.UnaryOp .USub x pos) σ (.ok (.f (.int (-j))) σ₁):=
 fun c i d u_ p=>wpAny_UnaryOp (hx c i d _ fun d' a le r=>by rw[r.int];exact P.neg_int (eg (p.after le) (Nat.le_succ _)))
noncomputable def fB(v i:V)(σ:Sx)(r:aG V):Prop:=∀(c:Fr)(d:Dy c σ)(a b:Value),VD d v a->VD d i b->∀Q,aB d VV r Q->SubscriptOn c.b.M c.A a b Q c.E d.s
theorem tI:∀{l:List α}{j:Nat}{x:α},aq l j=some x->l[j]?=some x:=@fun a b c d=>match a,b,c,d with
|[],_,_,h=>by cases h
|_::_,0,_,h=>h
|_::r,j+1,_,h=>tI (l:=r) (j:=j) h
theorem FRs.at_:∀{xs:List F}{vs:List Value}{j:Nat}{x:F},FRs b z xs vs->aq xs j=some x->∃v,vs[j]?=some v/\FR b z x v:=@fun c d e f g i=>match c,d,e,f,g,i with
|_::_,_,0,_,r,h=>by obtain⟨v,vs,rfl,a,_⟩:=r;cases h;exact⟨v,rfl,a⟩
|_::_,_,j+1,_,r,h=>by obtain⟨v,vs,rfl,_,r⟩:=r;exact FRs.at_ (j:=j) r h
theorem vF(h:place n k=some j):((0<=k/\k.toNat=j)\/(k < 0/\-(n:Int)<=k/\(k+n).toNat=j))/\k < 2 ^ 63/\-(2 ^ 63:Int)<=k:=by
 haveI e:aw=100000:=rfl;cases k with
|ofNat m=>
  unfold place at h;dsimp only at h;cases q:Nat.ble m aw with
 |true=>rw[q]at h;cases h;haveI:=Nat.le_of_ble_eq_true q;refine⟨.inl ⟨Int.natCast_nonneg _,rfl⟩,?_,?_⟩<;>simp only[Int.ofNat_eq_natCast]<;>lia
 |false=>rw[q]at h;cases h
|negSucc m=>
  unfold place at h;dsimp only at h;cases q:Nat.ble (m+1) n with
 |false=>rw[q]at h;cases h
 |true=>
   cases q2:Nat.ble m aw with
  |false=>rw[q,q2]at h;cases h
  |true=> rw[q,q2]at h;cases h;haveI:=Nat.le_of_ble_eq_true q;haveI:=Nat.le_of_ble_eq_true q2;refine⟨.inr ⟨Int.negSucc_lt_zero _,?_,?_⟩,?_,?_⟩<;>lia
theorem iF(hv:bV σ xs v)(hp:place xs.length k=some j)(hx:aq xs j=some x):fB v (.f (.int k)) σ (.ok (.f x) σ):=fun c d a b ra rb Q p=>by
 cases hv.v d ra with|mk l vs n hI hr=>
 obtain⟨w,hw,rw_⟩:=FRs.at_ hr hx;rw[rb.int];refine⟨"list",_,list_getitem_lookup,⟨_,hI,rfl⟩,?_⟩;obtain⟨hp,hf⟩:=vF hp;rcases hp with⟨h0,h1⟩|⟨h0,h1,h2⟩
 ·exact wpAny_getItem_list (bz hI) h0 hf.1 (by rw[h1];simpa using hw) (gy p rw_)
 ·exact wpAny_getItem_list_neg (bz hI) h0 (by rw[List.size_toArray,hr.length];exact h1) hf.2 (by rw[List.size_toArray,hr.length,h2];simpa using hw) (gy p rw_)
theorem nU(hp:place t.cps.toList.length k=some j)(hx:aq t.cps.toList j=some y):fB (.f (.str t)) (.f (.int k)) σ (.ok (.f (.str ⟨#[y]⟩)) σ):=fun c d a b ra rb Q p=>by
 rw[ra.str,rb.int];refine⟨"str",_,PySem.F.slot_str_getitem.lookup,typeIs_str _ _ _,?_⟩;haveI hv:=tI hx;haveI hl:=eJ t;obtain⟨hp,hf⟩:=vF hp;haveI hj:j < t.cps.toList.length:=(List.getElem?_eq_some_iff.mp hv).1;refine P.getItem_str ?_ ?_ (g7 p (Nat.le_succ _))
 ·rw[Bool.or_eq_false_iff];exact⟨decide_eq_false (Int.not_lt.mpr hf.2),decide_eq_false (Int.not_le.mpr hf.1)⟩
 ·haveI:t.cps[j]?=some y:=by rw[<- Array.getElem?_toList];exact hv
  rcases hp with⟨h0,h1⟩|⟨h0,h1,h2⟩
  ·rw[StrLaws.seqIndex_nonneg h0 (by lia),h1];exact this
  ·rw[StrLaws.seqIndex_neg h0 (by lia),hl,h2];exact this
theorem fM(hv:iy σ es v)(hx:ad es u=some x):fB v (.f (.str u)) σ (.ok (.f x) σ):=fun c d a b ra rb Q p=>by
 cases hv.at_ d ra with|mk l o kvs h1 h2 h3 h4=>
 obtain⟨w,e1,e2⟩:=(tX (u:=u) h4).1 x hx;rw[rb.str];exact⟨"dict",_,slot_dict_getitem.lookup,(h3.at h2).mapOf.typeIs,wpAny_getItem_of (strKind_is _ _ u _) (h3.at h2).mapOf e1 (fN p e2 (Nat.le_succ _))⟩
theorem AP:∀{ns:List (Str×aZ)}{kvs:List (Str×Value)},ck b g ns kvs->ad ns u=some nd->∃w,valueAt kvs u=some w/\ch b g u nd w:=by
 intro ns
 induction ns with
|nil=> intro _ _ h;cases h
|cons p_ r ih=>
  obtain⟨y,n⟩:=p_;intro _ N h;obtain⟨w,kvs,rfl,h2,h3⟩:=N;rw[i9]at h;by_cases q:u=y
  ·subst q;rw[bU]at h;cases h;exact⟨w,by simp[valueAt],h2⟩
  ·rw[gQ q]at h;haveI e2:valueAt ((y,w)::kvs) u=valueAt kvs u:=by simp[valueAt,show ¬y=u from fun z=>q z.symm]
   rw[e2];exact ih h3 h
theorem uc(hq:σ.q=some q)(hl:ad q.n2i u=some nd):fB (.p .n2i) (.f (.str u)) σ (.ok (.p (.nd u)) σ):=fun c d a b ra rb Q p=>by
 cases ra with|mk l e1 e2=>
 cases d.sr hq with|mk a' sd n2i tp tf rd kvs h1 h2 h3 h4 h5 h6 h7 h8 _ _=>
 obtain⟨w,r1,r2⟩:=AP h7 hl;cases r2 with|mk a2 dd l2 tx tn k1 k2 k3 k4 k5 k6 k7=>
 haveI D:=h6.at (d.h.at_ _ _ e2);subst e1;rw[rb.str];exact⟨"dict",_,slot_dict_getitem.lookup,D.mapOf.typeIs,wpAny_getItem_of (strKind_is _ _ u _) D.mapOf r1 (fN p ⟨a2,k1,k2⟩ (Nat.le_succ _))⟩
theorem qS:SE e n (.Constant k q pos) σ (match k with
 |.none=>.ok (.f .none) σ
 |.bool b=>.ok (.f (.bool b)) σ
 |.int i=>.ok (.f (.int i)) σ
 |.str t=>.ok (.f (.str t)) σ
 |_=>.bad):=fun c i d Q p=>by
 cases k with
|none=>exact wpAny_Constant_none (gy p rfl)
|bool x=>exact wpAny_Constant_bool (gy p rfl)
|int i=>exact wpAny_Constant_int (eg p (Nat.le_succ _))
|str x=>exact Calls.Constant_str (g7 p (Nat.le_succ _))
|_=>exact p.elim
theorem aB.imp(p:aB d R r Q)(h:∀v s,Q v s->Q' v s):aB d R r Q':=by
 cases r with
|ok v s=>exact fun d' val x r=>h _ _ (p d' val x r)
|exc x s=>exact p
|bad=>exact p
theorem Jl(x:Expr):∃l,subscripted x false o i=operate l (getItem o i):=by
 cases x with
|Slice a b c d=>cases c<;>exact⟨_,rfl⟩
|_=>exact⟨_,rfl⟩
theorem rg{value idx:Expr}{prog:Program}{w:World}(hM:M=model prog w)
  (h:wpAny M A (eval value env) (fun o ap=>wpAny M A (eval idx env) (fun i s₂=>SubscriptOn M A o i Q E s₂) E ap) E s):wpAny M A (eval (.Subscript value idx pos) env) Q E s:=by
 subst hM;rw[eval_Subscript];refine wpAny_bind (wpAny_mono h (fun o ap bk=>wpAny_bind (wpAny_holding (wpAny_mono bk (fun i s₂ aY=>wpAny_bind (wpAny_standAt ?_)) fun u_ u_ x=>x))) fun u_ u_ x=>x);obtain⟨T,id,hl,hT,hg⟩:=aY;refine wpAny_bind ?_;rw[getitemInPython_of_ne hT.not_modules];refine wpAny_bind (wpAny_specialOf hT hl ?_);refine wpAny_pure (wpAny_bind ?_);haveI fin:∀l,wpAny (model prog w) A (operate l (getItem o i)) (fun r cj=>wpAny (model prog w) A (letTemporaryGo value o r >>= fun u_=>pure r) Q E cj) E s₂:=fun l=>
  wpAny_operating (wpAny_mono hg (fun r cj cI=>wpAny_bind (wpAny_letTemporaryGo (wpAny_pure cI))) fun u_ u_ x=>x)
 obtain⟨l,q⟩:=Jl idx (o:=o) (i:=i);rw[q];exact fin l
noncomputable def aX(b:aN)(g:Gh)(vs:List V)(us:List Value):Prop:=match vs with
|[]=>us=[]
|v::vs=>∃u r,us=u::r/\VV b g v u/\aX b g vs r
theorem aX.mono(s:g.Le g'):∀{vs:List V}{us:List Value},aX b g vs us->aX b g' vs us:=by
 intro vs
 induction vs with
|nil=> intro _ h;exact h
|cons _ _ ih=> intro _ h;exact h.imp fun u_ h=>h.imp fun u_ r=>⟨r.1,VV.mono s r.2.1,ih r.2.2⟩
theorem FRs.vvs(t:aX b g us ws):∀{xs:List F}{vs:List Value},FRs b g.z xs vs->aX b g (xs.map V.f++us) (vs++ws):=by
 intro xs
 induction xs with
|nil=> intro _ h;cases(show _=[]from h);exact t
|cons _ _ ih=> intro _ h;obtain⟨v,vs,rfl,a,r⟩:=h;exact⟨v,vs++ws,rfl,a,ih r⟩
theorem JI(h:A5 v=some x):v=.f x:=by
 cases v with
|f y=>cases h;rfl
|_=>cases h
noncomputable def jR:List V->Option (List F)
|[]=>some []
|v::r=>(A5 v).bind fun x=>(jR r).map (x::·)
theorem aX.frs(e:jR vs=some xs)(h:aX b g vs us):FRs b g.z xs us:=by
 induction vs generalizing xs us with
|nil=>cases e;exact h
|cons v vs ih=> obtain⟨u,us,rfl,a,r⟩:=h;obtain⟨x,hx,e⟩:=Option.bind_eq_some_iff.mp e;obtain⟨l,hl,e⟩:=Option.map_eq_some_iff.mp e;cases e;cases JI hx;exact⟨u,us,rfl,a,ih hl r⟩
noncomputable def sO(v:V)(σ:Sx)(xs:List F):Prop:=∀(c:Fr)(d:Dy c σ)(a:Value),VD d v a->∀Q:List Value->Shared->Prop,(∀(d':Dy c σ)vs,Le d d'->FRs c.b d'.g.z xs vs->Q vs d'.s)->StarOf c.b.M c.A c.E a Q d.s
section
variable{σ:Sx}{xs:List F}{v:V}
theorem tV(hv:bV σ xs v)(h:Nat.ble xs.length aw=true):sO v σ xs:=fun c d a r Q q=>by
 cases hv.v d r with|mk l vs n hI hr=>
 exact wpAny_bind (wpAny_specialOf ⟨_,hI,rfl⟩ PySem.F.slot_list_iter.lookup (wpAny_pure ⟨rfl,wpAny_collect_seq l (.inl rfl) hI rfl rfl (fun h' hk=>q (d.keeps (s':={d.s with heap:=h'}) hk rfl rfl d.h.tk) vs (Gh.Le.refl _) hr) (by rw[List.size_toArray,FRs.length hr];exact fits h)⟩))
end
noncomputable def cP(e:Ev)(n:Nat)(es:List Expr)(σ:Sx)(r:aG (List V)):Prop:=∀(c:Fr),In c e n->∀(d:Dy c σ)(pos:Pos)(Q:List Value->Shared->Prop),aB d aX r Q->Wp c (spliced (backTo pos (starEach es c.env))) Q d.s
noncomputable def bx:Expr->Bool
|.Starred ..=>true
|_=>false
section
variable{e:Ev}{n:Nat}{σ:Sx}{x:Expr}{r:List Expr}{rx:aG V}{k:Sx->aG (List V)}{p pos:Pos}
theorem an:cP e n [] σ (.ok [] σ):=fun c i d pos Q p=>Calls.spliced_nil (p d [] (Le.refl d) rfl)
theorem gb(h:bx x=false):starEach (x::r) env=(false,eval x env)::starEach r env:=by cases x<;>first|rfl|cases h
theorem bq(h:cP e n es σ (.ok us σ₁))(hx:jR us=some xs)(hz:Nat.ble xs.length aw=true):SE e n (.List es pos) σ (.ok (.f (.list xs)) σ₁):=fun c i d u_ p=>wpAny_List (h c i d pos _ fun d' us le rs=>⟨by rw[FRs.length (aX.frs hx rs)];exact fits hz,mD (p.after le) (aX.frs hx rs)⟩)
theorem xS{d:Dy c σ}(p:aB d VV (.ok (.f (.tup xs)) σ) Q)(h:FRs c.b d.g.z xs vs):Q (.ref d.s.heap.objs.size) {d.s with heap:=d.s.heap.push (iN vs m)}:=
 p (d.push _ rfl) _ (Gh.fz_le (d.h.fresh (Heap.get?_none_of_le (Nat.le_refl _))).1) ⟨vs,⟨_,m,rfl,Z.add_same⟩,FRs.mono (Z.add_le (d.h.fresh (Heap.get?_none_of_le (Nat.le_refl _))).1) h⟩
theorem sG(h:cP e n es σ (.ok us σ₁))(hx:jR us=some xs)(hz:Nat.ble xs.length aw=true):SE e n (.Tuple es j pos) σ (.ok (.f (.tup xs)) σ₁):=fun c i d u_ p=>wpAny_Tuple (h c i d pos _ fun d' us le rs=>⟨by rw[FRs.length (aX.frs hx rs)];exact fits hz,xS (p.after le) (aX.frs hx rs)⟩)
end
theorem vZ{d:Dy c σ}(p:aB d VV (.ok (.f (.str t)) σ) Q)(h:t.length<=sizeLine):Wp c (formatField (.str t k) Str.empty) Q d.s:=
 wpAny_formatField_str (p d _ (Le.refl d) rfl) (g7 p (Nat.le_succ _)) h
theorem td(hx:SE e n x σ (.ok (.f (.str t)) σ₁))(hz:Nat.ble t.length aw=true):SE e n (.FormattedValue x (-1) none pos) σ (.ok (.f (.str t)) σ₁):=fun c i d u_ p=>wpAny_FormattedValue_plain (hx c i d _ fun d' a le ra=>by rw[ra.str];exact vZ (p.after le) (fits hz))
theorem De(hx:SE e n x σ (.ok (.f (.str t)) σ₁))(hz:Nat.ble (reprText t).length aw=true):SE e n (.FormattedValue x 114 none pos) σ (.ok (.f (.str (reprText t))) σ₁):=fun c i d u_ p=>wpAny_FormattedValue_repr (hx c i d _ fun d' a le ra=>by rw[ra.str];refine wpAny_pyReprObj_str ?_ (fits hz);exact vZ (d:=d'.tok (d'.s.toks+1) (Nat.le_succ _)) (p.after le) (fits hz))
noncomputable abbrev RS:aN->Gh->Str->Value->Prop:=fun u_ u_ t v=>v=.str t (dA v)
noncomputable def mS(e:Ev)(n:Nat)(xs:List Expr)(acc:Str)(σ:Sx)(r:aG Str):Prop:=∀(c:Fr),In c e n->∀(d:Dy c σ)(Q:Value->Shared->Prop),acc.length<=sizeLine->aB d RS r Q->Wp c (joinParts acc (evalEach xs c.env)) Q d.s
theorem qG:mS e n [] acc σ (.ok acc σ):=fun c i d Q hz p=>wpAny_mkStr (p (d.tok (d.s.toks+1) (Nat.le_succ _)) _ (Gh.Le.refl _) rfl) hz
theorem KI(hx:SE e n x σ rx):SE e n (.JoinedStr [x] pos) σ rx:=fun c i d Q p=>by rw[arm_eval_JoinedStr];exact hx c i d Q p
theorem J5(hx:mS e n (x::y::r) Str.empty σ rx):SE e n (.JoinedStr (x::y::r) pos) σ (rx.bnd fun t af=>.ok (.f (.str t)) af):=fun c i d Q p=>by rw[arm_eval_JoinedStr];exact hx c i d Q (Nat.zero_le _) (aB.bnd p fun t af d' v u_ rv p'=>p' d' v (Le.refl d') rv)
noncomputable def nA(e:Ev)(n:Nat)(op:BoolOp)(xs:List Expr)(σ:Sx)(r:aG V):Prop:=∀(c:Fr),In c e n->∀(d:Dy c σ)(pos:Pos)(Q:Value->Shared->Prop),aB d VV r Q->Wp c (boolOp pos op (evalEach xs c.env)) Q d.s
theorem IA(hx:SE e n x σ rx):nA e n op [x] σ rx:=fun c i d u_ Q p=>hx c i d Q p
theorem E6(h:nA e n op xs σ rx):SE e n (.BoolOp op xs pos) σ rx:=fun c i d Q p=>by rw[arm_eval_BoolOp];exact h c i d pos Q p
noncomputable def iZ(e:Ev)(n:Nat)(op:BoolOp)(xs:List Expr)(σ:Sx)(r:aG Bool):Prop:=∀(c:Fr),In c e n->∀(d:Dy c σ)(Q:Bool->Shared->Prop),aB d RB r Q->Wp c (allTrue op xs c.env) Q d.s
theorem kL:iZ e n op [] σ (.ok (match op with|.And=>true|.Or=>false) σ):=fun c i d Q p=>by
 cases op with
|And=>exact wpAny_allTrue_And_nil (p d true (Le.refl d) rfl)
|Or=>exact wpAny_allTrue_Or_nil (p d false (Le.refl d) rfl)
theorem dZ(h:iZ e n op xs σ rx):ST e n (.BoolOp op xs pos) σ rx:=fun c i d Q p=>wpAny_isTrue_BoolOp (h c i d Q p)
theorem vH(n:Nat)(i:Int):uo n i=clipAt n i:=by
 cases i with
|ofNat k=> show Nat.min k n=(max 0 (min (if(k:Int) < 0 then(k:Int)+n else k) n)).toNat;rw[if_neg (Int.not_lt.mpr (Int.natCast_nonneg k)),<-Lean.Omega.Int.ofNat_min,Int.max_eq_right (Int.natCast_nonneg _),Int.toNat_natCast]
|negSucc k=>
  show n-(k+1)=(max 0 (min (if Int.negSucc k < 0 then Int.negSucc k+n else Int.negSucc k) n)).toNat;haveI e:Int.negSucc k+n=(n:Int)-((k+1:Nat):Int):=Int.add_comm ..;rw[if_pos (Int.negSucc_lt_zero k),e,Int.min_eq_left (Int.sub_le_self _ (Int.natCast_nonneg _))];rcases Nat.le_total (k+1) n with h|h
  ·rw[<- Int.ofNat_sub h,Int.max_eq_right (Int.natCast_nonneg _),Int.toNat_natCast]
  ·rw[Int.max_eq_left (Int.sub_nonpos_of_le (Int.ofNat_le.mpr h)),Nat.sub_eq_zero_of_le h];rfl
theorem Do(n:Nat)(i:Int):clipAt n i<=n:=by
 rw[<- vH];cases i with
|ofNat k=>exact Nat.min_le_right k n
|negSucc k=>exact Nat.sub_le n (k+1)
theorem m8(xs:List α)(lo hi:Option Int):cut xs lo hi=(xs.drop (lo.elim 0 (clipAt xs.length))).take (hi.elim xs.length (clipAt xs.length)-lo.elim 0 (clipAt xs.length)):=by unfold cut;rw[<- List.drop_take];cases lo<;>cases hi<;>simp[vH]
theorem Aw(items:List Value)(lo hi:Option Int):slicePick items.toArray lo hi none=(cut items lo hi).toArray:=by rw[slicePick_plain,m8];simp
theorem FRs.drop:∀{xs:List F}{vs:List Value}(k:Nat),FRs b z xs vs->FRs b z (xs.drop k) (vs.drop k):=@fun a c d e=>match a,c,d,e with
|_,_,0,r=>r
|[],_,k+1,r=>by cases(show _=[]from r);exact(rfl:[]=_)
|_::_,_,k+1,r=>by obtain⟨v,vs,rfl,_,r⟩:=r;exact FRs.drop k r
theorem FRs.take:∀{xs:List F}{vs:List Value}(k:Nat),FRs b z xs vs->FRs b z (xs.take k) (vs.take k):=@fun c d e f=>match c,d,e,f with
|_,_,0,_=>(rfl:[]=_)
|[],_,k+1,r=>by cases(show _=[]from r);exact(rfl:[]=_)
|_::_,_,k+1,r=>by obtain⟨v,vs,rfl,a,r⟩:=r;exact⟨v,vs.take k,rfl,a,FRs.take k r⟩
theorem FRs.cut(r:FRs b z xs vs)(lo hi:Option Int):FRs b z (cut xs lo hi) (cut vs lo hi):=by rw[m8,m8,FRs.length r];exact FRs.take _ (FRs.drop _ r)
theorem qi(l:Option (Int×Tok)):IsPart (partValue l) (l.map (·.1)):=by
 cases l with
|none=>exact .none
|some p=>obtain⟨i,t⟩:=p;exact .int i t
theorem vG(x:Str)(l u:Option (Int×Tok)):slicePicked x l u none=(List.range ((u.map (·.1)).elim x.length (clipAt x.length)-(l.map (·.1)).elim 0 (clipAt x.length))).map ((l.map (·.1)).elim 0 (clipAt x.length)+·):=by
 haveI key:∀lo hi:Option Int,Builtin.Str.strSliceIndices lo hi 1 x.length=sliceRange ((lo.elim 0 (clipAt x.length):Nat):Int) ((hi.elim x.length (clipAt x.length):Nat):Int) 1:=by intro lo hi;cases lo<;>cases hi<;>simp[Builtin.Str.strSliceIndices,clipAt_cast]
 unfold slicePicked;rw[show((none:Option (Int×Tok)).map (·.1)).getD 1=1 from rfl,key,sliceRange_one]
theorem JQ:(slicePicked x l u none).length=(cut x.cps.toList (l.map (·.1)) (u.map (·.1))).length:=by
 rw[vG,List.length_map,List.length_range,m8,List.length_take,List.length_drop,<-eJ];refine(Nat.min_eq_left (Nat.sub_le_sub_right ?_ _)).symm;cases u with
|none=>exact Nat.le_refl _
|some p=>exact Do _ _
theorem Ga{lo hi:Option Int}:(cut xs lo hi).Sublist xs:=(List.drop_sublist _ _).trans (List.take_sublist _ _)
set_option tactic.hygienic true in
theorem Ig{t:Tok}(hz:x.length<=sizeLine)
  (h:∀k t',s.toks<=k->Q (.str (dH x (l.map (·.1)) (u.map (·.1))) t') {s with toks:=k}):(sliceMade x t l u none).post Q s:=by
 haveI hs:=Ga (xs:=x.cps.toList) (lo:=l.map (·.1)) (hi:=u.map (·.1));haveI hn:=JQ (x:=x) (l:=l) (u:=u);haveI e1:(slicePicked x l u none).filterMap (x.cps[·]?)=cut x.cps.toList (l.map (·.1)) (u.map (·.1)):=by rw[vG,pick_run,m8,eJ]
 unfold sliceMade
 split
 ·rename_i q;haveI hl:(slicePicked x l u none).length=x.length:=beq_iff_eq.mp q;haveI h':=h s.toks t (Nat.le_refl _);rw[show dH x (l.map (·.1)) (u.map (·.1))=x from iz (hs.eq_of_length (hn.symm.trans (hl.trans (eJ x))))]at h';exact h'
 ·rw[e1];exact⟨Nat.le_trans (hs.length_le) (Nat.le_trans (Nat.le_of_eq (eJ x).symm) hz),h _ _ (Nat.le_succ _)⟩
noncomputable def VO(b:aN)(g:Gh):Option V->Value->Prop
|none,v=>v=.none
|some x,v=>VV b g x v
noncomputable def SO(e:Ev)(n:Nat)(x:Option Expr)(σ:Sx)(r:aG (Option V)):Prop:=∀(c:Fr),In c e n->∀(d:Dy c σ)(Q:Value->Shared->Prop),aB d VO r Q->Wp c (evalPart x c.env) Q d.s
section
variable{e:Ev}{n:Nat}{σ:Sx}{x o:Expr}{lo hi:Option Expr}{pos ps:Pos}{xs:List F}{v:V}{a b:Option V}{l u:Option Int}
theorem er:SO e n none σ (.ok none σ):=fun c i d Q p=>wpAny_evalPart_none (p d .none (Le.refl d) rfl)
theorem Bx(hx:SE e n x σ rx):SO e n (some x) σ (rx.bnd fun v af=>.ok (some v) af):=fun c i d Q p=>wpAny_evalPart_some (hx c i d _ (aB.bnd p fun v af d' w u_ r p'=>p' d' w (Le.refl d') r))
noncomputable def iM(v:Option V):Option (Option Int):=match v with
|none=>some none
|some (.f (.int i))=>some (some i)
|_=>none
theorem VO.mono{b:aN}{x:Option V}{v:Value}(s:g.Le g')(h:VO b g x v):VO b g' x v:=by
 cases x with
|none=>exact h
|some x=>exact VV.mono s h
theorem lj{b:aN}{v:Option V}{o:Option Int}(r:VO b g v val)(h:iM v=some o):∃l:Option (Int×Tok),val=partValue l/\l.map (·.1)=o:=by
 cases v with
|none=>cases h;exact⟨none,r,rfl⟩
|some v=>
  cases v with
 |f x=>cases x<;>first|(cases h;exact⟨some (_,dA val),r,rfl⟩)|cases h
 |_=>cases h
noncomputable def hH(v:V)(a b:Option V)(σ:Sx)(r:aG V):Prop:=∀(c:Fr)(d:Dy c σ)(av lv hv:Value),VD d v av->VO c.b d.g a lv->VO c.b d.g b hv->∀Q,aB d VV r Q->SubscriptOn c.b.M c.A av (.ref d.s.heap.objs.size) Q c.E {d.s with heap:=d.s.heap.push {cls:=.type "slice",data:=.fields #[lv,hv,.none]}}
theorem j8(hl:iM a=some l)(hu:iM b=some u)(hv:bV σ xs v)(hz:Nat.ble xs.length aw=true):hH v a b σ (.ok (.f (.list (cut xs l u))) σ):=fun c d av lv hv' ra rl rh Q p=>by
 obtain⟨l,rfl,rfl⟩:=lj rl hl;obtain⟨u,rfl,rfl⟩:=lj rh hu;cases hv.v d ra with|mk al vs n hI hr=>
 haveI hk:∀x o,d.s.heap.get? x=some o->(d.s.heap.push {cls:=.type "slice",data:=.fields #[partValue l,partValue u,.none]}).get? x=some o:=fun x o q=>Heap.get?_push_of_some _ q;haveI hI':=hk _ _ hI;refine⟨"list",_,list_getitem_lookup,⟨_,hI',rfl⟩,?_⟩;refine wpAny_getItem_list_slice (vs:=.none) (st:=none) (bz hI') ⟨_,Heap.get?_push_size _ rfl,rfl,rfl⟩ (qi l) (qi u) .none (by decide) ?_ (by rw[List.size_toArray,hr.length];exact fits hz);rw[Aw];exact mD (d:=d.keeps (s':={d.s with heap:=d.s.heap.push {cls:=.type "slice",data:=.fields #[partValue l,partValue u,.none]}}) hk rfl rfl d.h.tk) (p.after (Gh.Le.refl _)) (FRs.cut hr _ _)
theorem gN{t:Str}(hl:iM a=some l)(hu:iM b=some u)(hz:Nat.ble t.length aw=true):hH (.f (.str t)) a b σ (.ok (.f (.str (dH t l u))) σ):=fun c d av lv hv' ra rl rh Q p=>by obtain⟨l,rfl,rfl⟩:=lj rl hl;obtain⟨u,rfl,rfl⟩:=lj rh hu;have hk:∀x o,d.s.heap.get? x=some o->(d.s.heap.push {cls:=.type "slice",data:=.fields #[partValue l,partValue u,.none]}).get? x=some o:=fun x o q=>Heap.get?_push_of_some _ q;rw[ra.str];refine⟨"str",_,PySem.F.slot_str_getitem.lookup,typeIs_str _ _ _,?_⟩;exact wpAny_getItem_str_slice (st:=none) ⟨_,Heap.get?_push_size _ rfl,rfl,rfl⟩ rfl (Ig (fits hz) fun k t' h=>g7 (d:=d.keeps (s':={d.s with heap:=d.s.heap.push {cls:=.type "slice",data:=.fields #[partValue l,partValue u,.none]}}) hk rfl rfl d.h.tk) (p.after (Gh.Le.refl _)) h)
end
noncomputable def gq(u:Str):List (Str×α)->List (Str×α)
|[]=>[]
|(y,a)::r=>match ah u y with
 |true=>r
 |false=>(y,a)::gq u r
noncomputable def lG:List α->Nat->List α
|[],_=>[]
|_::r,0=>r
|x::r,n+1=>x::lG r n
theorem KC{b:aN}{k:Int}{t:Tok}{v:Value}{Q:Unit->Shared->Prop}(hl:IsL s.heap l items m)
  (h0:0<=k) (hfit:k < 2 ^ 63) (hn:k < items.size)
  (hQ:∀h',h'.PlainList l (items.setIfInBounds k.toNat v)->Heap.SameBut l s.heap h'->Q () {s with heap:=h'}) :
  wpAny (model b.prog b.w) A (setItem (.ref l) (.int k t) v) Q E s:=by
 unfold setItem
 try with_reducible refine wpAny_holding ?_
 first|refine wpAny_bind (wpAny_pure ?_)|skip
 refine wpAny_bind (wpAny_sequenceKey (PySem.IsL.isList hl).typeIs (by decide) ?_);refine wpAny_bind (wpAny_callSpecial?_slot (name:=Str.ofString "__setitem__") (PySem.IsL.isList hl).typeIs slot_list_setitem
  (wpAny_call_entry slot_list_setitem (PySem.IsL.isList hl).typeIs entry_list_setitem ?_ (args_list_setitem _ _ _)))
 show wpAny _ _ (Builtin.List.listSubscript? (.int k t) >>= _) _ _ s;refine wpAny_bind (wpAny_listSubscript_int (fitsIndex_of h0 hfit) ?_);clear hfit;obtain⟨j,rfl⟩:=Int.eq_ofNat_of_zero_le h0;haveI hj:j < items.size:=by lia
 haveI hx':items[j]?=some items[j]:=Array.getElem?_eq_getElem hj;show wpAny _ _ ((seqItemAt l j >>= fun r=>pure (r.map (j,·))) >>= _) _ _ s;refine wpAny_bind (wpAny_bind (wpAny_seqItemAt hl rfl (wpAny_pure ?_)));rw[hx'];show wpAny _ _ (setSeqItemAt l j v >>= _) _ _ s;haveI hfin:=PySem.IsL.update hl (·.setIfInBounds j v);refine wpAny_bind (wpAny_setSeqItemAt hl rfl ?_)
 first
 |exact wpAny_bind (wpAny_pure (wpAny_pure ⟨.none,rfl,wpAny_pure (hQ _ ⟨_,hfin⟩ (Heap.SameBut.update ..))⟩))
 |exact wpAny_pure ⟨.none,rfl,wpAny_pure (hQ _ ⟨_,hfin⟩ (Heap.SameBut.update ..))⟩
theorem yS(rx:FR b z x v):∀{es:List (Str×F)}{kvs:List (Str×Value)},DRs b z es kvs->(kvs.map (·.1)).Nodup->DRs b z (ag es u x) (stored kvs u v):=by
 intro es
 induction es with
|nil=> intro _ h _;cases(show _=[]from h);exact⟨v,[],rfl,rx,rfl⟩
|cons p_ es ih=>
  obtain⟨k,y⟩:=p_;intro _ h nd;obtain⟨c,vs,rfl,a,r⟩:=h;rw[List.map_cons,List.nodup_cons]at nd;rw[gf];by_cases q:u=k
  ·subst q;haveI e2:stored ((u,c)::vs) u v=(u,v)::vs:=by
    unfold stored;rw[if_pos (by simp)];simp only[List.map_cons,if_true];congr 1
    conv=>rhs;rw[<- List.map_id vs]
    refine List.map_congr_left fun p m=>?_;haveI:p.1≠u:=fun z=>nd.1 (List.mem_map.mpr ⟨p,m,z⟩);simp[this]
   rw[bU,e2];exact⟨v,vs,rfl,rx,r⟩
  ·haveI e2:stored ((k,c)::vs) u v=(k,c)::stored vs u v:=by
    unfold stored;simp only[List.any_cons,decide_eq_false (fun z:k=u=>q z.symm),Bool.false_or,List.map_cons,if_neg (fun z:k=u=>q z.symm)]
    split<;>rfl
   rw[gQ q,e2];exact⟨c,_,rfl,a,ih r nd.2⟩
theorem w9:∀{es:List (Str×F)}{kvs:List (Str×Value)},DRs b z es kvs->kvs.length=es.length:=by
 intro es
 induction es with
|nil=> intro _ e;exact congrArg List.length (show _=_ from e)
|cons p_ _ ih=> obtain⟨_,_⟩:=p_;intro _ h;obtain⟨_,_,rfl,_,r⟩:=h;exact congrArg (·+1) (ih r)
noncomputable def jQ(a i v:V)(σ:Sx)(r:aG Unit):Prop:=∀(c:Fr)(d:Dy c σ)(av iv xv:Value)(Q:Unit->Shared->Prop),VD d a av->VD d i iv->VD d v xv->aB d RU r Q->Wp c (setItem av iv xv) Q d.s
theorem Dy.putO(d:Dy c σ)(h:aq σ.h i=some ao)(e:d.g.at_ (.p (.loc i))=some a)(hs:Heap.SameBut a d.s.heap h')(hn:h'.get? a=some o)(ht:d.s.toks<=t)(k:OR c.b (d.g.set (.p (.loc i)) (some a) o) i (some ao')):∃d':Dy c {σ with h:=bc σ.h i ao'},d'.s={d.s with heap:=h',toks:=t}/\Le d d':=
 ⟨⟨_,_,d.hset e (fun u_ z=>by cases z) hs hn ht,d.r.locG (Gh.set_le e) (fun T n=>Gh.set_out fun z=>n (z▸rfl)) rfl h k⟩,rfl,Gh.set_le e⟩
theorem xy(h:aq σ.h i=some (.dict es))(hz:Nat.ble es.length aw=true):jQ (.p (.loc i)) (.f (.str u)) (.f x) σ (.ok () {σ with h:=bc σ.h i (.dict (ag es u x))}):=fun c d av iv xv Q ra ri rx p=>by
 have L:=d.r.loc i;rw[h]at L;have L:iQ c.b d.g (.loc i) es:=L;cases L with|mk a kvs k1 k2 k3=>
 cases ra with|mk a' e1 e2=>
 rw[k1]at e2;cases e2;subst e1;haveI D:=k2.at (d.h.at_ _ _ k1);have nd:=k2;obtain⟨_,_,_,_,_,_,nd⟩:=nd;rw[ri.str];refine wpAny_setItem_pairs (strKind_is _ _ u _) D (fun h' hd' hs=>?_) (by rw[w9 k3];exact fits hz);obtain⟨o,ho,hd⟩:=DictO.of hd';haveI A:iQ c.b (d.g.set (.p (.loc i)) (some a) o) (.loc i) (ag es u x):=.mk a (stored kvs u xv) Gh.at_same (by rw[Gh.ob_same];exact hd) (yS rx k3 nd);obtain⟨d',r1,r2⟩:=d.putO (ao':=.dict (ag es u x)) h k1 hs ho (Nat.le_succ _) A;have:=p d' () r2 trivial;rw[r1]at this;exact this
theorem FRs.set(a:FR b z x v):∀{xs:List F}{vs:List Value}{k:Nat},FRs b z xs vs->FRs b z (bc xs k x) (vs.set k v):=@fun c d e f=>match c,d,e,f with
|[],_,_,h=>by cases(show _=[]from h);exact(rfl:[]=_)
|_::_,_,0,h=>by obtain⟨w,vs,rfl,_,r⟩:=h;exact⟨v,vs,rfl,a,r⟩
|_::_,_,k+1,h=>by obtain⟨w,vs,rfl,a',r⟩:=h;exact⟨w,_,rfl,a',FRs.set a r⟩
theorem yP:∀{xs:List F}{vs:List Value}{k:Nat},FRs b z xs vs->FRs b z (lG xs k) (vs.eraseIdx k):=@fun a c d e=>match a,c,d,e with
|[],_,_,h=>by cases(show _=[]from h);exact(rfl:[]=_)
|_::_,_,0,h=>by obtain⟨w,vs,rfl,_,r⟩:=h;exact r
|_::_,_,k+1,h=>by obtain⟨w,vs,rfl,a',r⟩:=h;exact⟨w,_,rfl,a',yP r⟩
theorem yb(hk:k < n)(hz:Nat.ble n aw=true):(k:Int) < 2 ^ 63:=Int.lt_trans (Int.ofNat_lt.mpr hk) (lB hz)
theorem Fw{xs:List F}(h:aq σ.h i=some (.list xs))(hk:Nat.blt k xs.length=true)(hz:Nat.ble xs.length aw=true):jQ (.p (.loc i)) (.f (.int (k:Int))) (.f x) σ (.ok () {σ with h:=bc σ.h i (.list (bc xs k x))}):=fun c d av iv xv Q ra ri rx p=>by
 have L:=d.r.loc i;rw[h]at L;have L:cA c.b d.g (.loc i) xs:=L;cases L with|mk a vs n k1 k2 k3=>
 cases ra with|mk a' e1 e2=>
 rw[k1]at e2;cases e2;subst e1;have hk:=Nat.blt_eq.mp hk;haveI e3:=FRs.length k3;rw[ri.int];refine KC (b:=c.b) ((d.h.at_ _ _ k1).trans (congrArg some k2)) (Int.natCast_nonneg _) (yb hk hz) (by rw[List.size_toArray,e3];exact Int.ofNat_lt.mpr hk) fun h' hI hs=>?_;obtain⟨n',hI⟩:=hI;rw[show vs.toArray.setIfInBounds ((k:Int).toNat) xv=(vs.set k xv).toArray from by simp]at hI;obtain⟨d',r1,r2⟩:=d.put (fK.loc i xs h) k1 (FRs.set rx k3) hs hI (Nat.le_refl _);have:=p d' () r2 trivial;rw[r1]at this;exact this
noncomputable def pP(a i:V)(σ:Sx)(r:aG Unit):Prop:=∀(c:Fr)(d:Dy c σ)(av iv:Value)(Q:Unit->Shared->Prop),VD d a av->VD d i iv->aB d RU r Q->Wp c (delItem av iv) Q d.s
theorem Fv(h:aq σ.h i=some (.list xs))(hk:Nat.blt k xs.length=true)(hz:Nat.ble xs.length aw=true):pP (.p (.loc i)) (.f (.int (k:Int))) σ (.ok () {σ with h:=bc σ.h i (.list (lG xs k))}):=fun c d av iv Q ra ri p=>by
 haveI L:=d.r.loc i;rw[h]at L;haveI L:cA c.b d.g (.loc i) xs:=L;cases L with|mk a vs n k1 k2 k3=>
 cases ra with|mk a' e1 e2=>
 rw[k1]at e2;cases e2;subst e1;haveI hk:=Nat.blt_eq.mp hk;haveI e3:=FRs.length k3;rw[ri.int];refine wpAny_delItem_plain (k:=k) ⟨n,(d.h.at_ _ _ k1).trans (congrArg some k2)⟩ (fitsIndex_of (Int.natCast_nonneg _) (yb hk hz)) (StrLaws.seqIndex_nonneg (Int.natCast_nonneg _) (by rw[List.size_toArray,e3];exact Int.ofNat_lt.mpr hk)) (fun h' hI hs=>?_) (by rw[List.size_toArray,e3];exact fits hz);obtain⟨n',hI⟩:=hI;rw[show vs.toArray.eraseIdxIfInBounds k=(vs.eraseIdx k).toArray from by simp]at hI;obtain⟨d',r1,r2⟩:=d.put (fK.loc i xs h) k1 (yP k3) hs hI (Nat.le_refl _);haveI:=p d' () r2 trivial;rw[r1]at this;exact this
theorem Fp:∀{es:List (Str×F)}{kvs:List (Str×Value)},DRs b z es kvs->(kvs.map (·.1)).Nodup->DRs b z (gq u es) (without kvs u):=by
 intro es
 induction es with
|nil=> intro _ h _;cases(show _=[]from h);exact(rfl:[]=_)
|cons p_ es ih=>
  obtain⟨k,y⟩:=p_;intro _ h nd;obtain⟨c,vs,rfl,a,r⟩:=h;rw[List.map_cons,List.nodup_cons]at nd;rw[show gq u ((k,y)::es)=(match ah u k with|true=>es|false=>(k,y)::gq u es)from rfl];by_cases q:u=k
  ·subst q;haveI:without ((u,c)::vs) u=vs:=by unfold without;rw[List.filter_cons_of_neg (by simp)];exact List.filter_eq_self.mpr fun p m=>decide_eq_true (fun z=>nd.1 (List.mem_map.mpr ⟨p,m,z⟩))
   rw[bU,this];exact r
  ·haveI:without ((k,c)::vs) u=(k,c)::without vs u:=by unfold without;rw[List.filter_cons_of_pos (by simpa using fun z:k=u=>q z.symm)]
   rw[gQ q,this];exact⟨c,_,rfl,a,ih r nd.2⟩
theorem IP(h:aq σ.h i=some (.dict es))(hu:gZ es u=true)(hz:Nat.ble es.length aw=true):pP (.p (.loc i)) (.f (.str u)) σ (.ok () {σ with h:=bc σ.h i (.dict (gq u es))}):=fun c d av iv Q ra ri p=>by
 haveI L:=d.r.loc i;rw[h]at L;haveI L:iQ c.b d.g (.loc i) es:=L;cases L with|mk a kvs k1 k2 k3=>
 cases ra with|mk a' e1 e2=>
 rw[k1]at e2;cases e2;subst e1;haveI D:=k2.at (d.h.at_ _ _ k1);haveI nd:=k2;obtain⟨_,_,_,_,_,_,nd⟩:=nd;rw[ri.str];unfold delItem
 try with_reducible refine wpAny_holding ?_
 refine wpAny_bind (wpAny_sequenceKey D.mapOf.typeIs (by decide) ?_);refine wpAny_bind (wpAny_callSpecial?_slot (name:=Str.ofString "__delitem__") D.mapOf.typeIs PySem.F.slot_dict_delitem
  (call_meetsIn PySem.F.slot_dict_delitem D.mapOf.typeIs PySem.F.entry_dict_delitem (PySem.F.args_dict_delitem_2 _ _) (meets_dict_delitem_pairs c.b.kd a (strKind_is _ _ u _)) ⟨kvs,D,by rw[w9 k3];exact fits hz,by rw[(tX k3).2,hu],fun h' hd' hs=>wpAny_pure ?_⟩))
 obtain⟨o,ho,hd⟩:=DictO.of hd';haveI A:iQ c.b (d.g.set (.p (.loc i)) (some a) o) (.loc i) (gq u es):=.mk a (without kvs u) Gh.at_same (by rw[Gh.ob_same];exact hd) (Fp k3 nd);obtain⟨d',r1,r2⟩:=d.putO (ao':=.dict (gq u es)) h k1 hs ho (Nat.le_succ _) A;haveI:=p d' () r2 trivial;rw[r1]at this;exact this
theorem te:∀{l:List α}{i:Nat},i≠l.length->aq (l++[b]) i=aq l i:=@fun a c d=>match a,c,d with
|[],0,h=>absurd rfl h
|[],_+1,_=>rfl
|_::_,0,_=>rfl
|_::r,i+1,h=>te (l:=r) fun q=>h (congrArg (·+1) q)
theorem sD:∀{l:List α},aq (l++[b]) l.length=some b:=by
 intro l
 induction l with
|nil=> exact rfl
|cons _ r ih=> exact ih
theorem rC:∀{l:List α},aq l l.length=none:=by
 intro l
 induction l with
|nil=> exact rfl
|cons _ r ih=> exact ih
section
variable{c:Fr}{a:Addr}
theorem aW.new(r:aW c σ g)(k:OR c.b (g.set (.p (.loc σ.h.length)) (some a) o) σ.h.length (some ao)):aW c {σ with h:=σ.h++[ao]} (g.set (.p (.loc σ.h.length)) (some a) o)/\g.Le (g.set (.p (.loc σ.h.length)) (some a) o):=by
 haveI n0:g.at_ (.p (.loc σ.h.length))=none:=by haveI:=r.loc σ.h.length;rw[rC]at this;exact this
 haveI s:g.Le (g.set (.p (.loc σ.h.length)) (some a) o):=Gh.new_le n0;haveI out:=fun{T}(z:T≠aE.p (.loc σ.h.length))=>Gh.set_out (g:=g) (a:=some a) (o:=o) z;refine⟨⟨r.fr.mono s fun T t=>out fun z=>by rw[z]at t;exact t,fun i=>?_,eH.eq (g:=g) (.refl _) (fun T t=>out fun z=>by rw[z]at t;exact t) r.srt,fun j p q=>?_,r.st⟩,s⟩
 ·show OR c.b _ i (aq (σ.h++[ao]) i);by_cases q:i=σ.h.length
  ·rw[q,sD];exact k
  ·rw[te q];exact OR.eq (g:=g) (.refl _) (fun p a u_=>s.p p a) (fun T t=>out fun z=>by rw[z]at t;exact q t.symm) (r.loc i)
 ·haveI z:=out (T:=.tab j) fun z=>by cases z
  exact⟨z.1.trans (r.tab j p q).1,z.2▸(r.tab j p q).2⟩
theorem Dy.own(d:Dy c σ)(e:d.s.heap.get? a=none)(hk:∀a o,d.s.heap.get? a=some o->s'.heap.get? a=some o)(hn:s'.heap.get? a=some o)(ho:s'.os=d.s.os)(hg:s'.gens=d.s.gens)(ht:d.s.toks<=s'.toks)(k:∀g':Gh,d.g.z.Le g'.z->g'.at_ (.p (.loc σ.h.length))=some a->g'.ob (.p (.loc σ.h.length))=o->OR c.b g' σ.h.length (some ao)):
  ∃d':Dy c {σ with h:=σ.h++[ao]},d'.s=s'/\Le d d'/\VD d' (.p (.loc σ.h.length)) (.ref a):=by
 haveI R:=d.r.new (a:=a) (o:=o) (k _ (.refl _) Gh.at_same Gh.ob_same);haveI hT:a∉c.b.tabA:=fun m=>by obtain⟨k,q⟩:=d.r.tb a m;rw[d.h.at_ _ _ q]at e;cases e
 exact⟨⟨_,s',d.h.own e hk hn ho hg ht hT,R.1⟩,rfl,R.2,⟨a,rfl,Gh.at_same⟩⟩
theorem Dy.ownPush(d:Dy c σ)(hf:o.isFreed=false)(k:∀g':Gh,d.g.z.Le g'.z->g'.at_ (.p (.loc σ.h.length))=some d.s.heap.objs.size->g'.ob (.p (.loc σ.h.length))=o->OR c.b g' σ.h.length (some ao)):∃d':Dy c {σ with h:=σ.h++[ao]},d'.s={d.s with heap:=d.s.heap.push o}/\Le d d'/\VD d' (.p (.loc σ.h.length)) (.ref d.s.heap.objs.size):=
 d.own (Heap.get?_none_of_le (Nat.le_refl _)) (fun u_ u_ h=>Heap.get?_push_of_some _ h) (Heap.get?_push_size _ hf) rfl rfl (Nat.le_refl _) k
theorem vr(h1:g'.at_ (.p (.loc i))=some a)(h2:g'.ob (.p (.loc i))=aV [] 0):OR c.b g' i (some (.list [])):=(.mk a [] 0 h1 h2 rfl:cA c.b g' (.loc i) [])
theorem HL(h1:g'.at_ (.p (.loc i))=some a)(h2:g'.ob (.p (.loc i))={cls:=.type "dict",data:=.dict #[]}):OR c.b g' i (some (.dict [])):=
 (.mk a [] h1 (by rw[h2];exact⟨#[],0,⟨rfl,rfl,rfl⟩,rfl,fun u_ h=>by simp at h,.nil,.nil⟩) rfl:iQ c.b g' (.loc i) [])
end
section
variable{c:Fr}{σ af:Sx}{d:Dy c σ}{v:Value}{P:Value->Prop}
theorem lF{i:Int}(h:VD d (.f (.int i)) v)(k:∀t,P (.int i t)):P v:=h.int▸k _
theorem bN{x:Str}(h:VD d (.f (.str x)) v)(k:∀t,P (.str x t)):P v:=h.str▸k _
theorem eT{p:Mine.P}(h:VD d (.p p) v)(k:∀a,d.g.at_ (.p p)=some a->P (.ref a)):P v:=by cases h with|mk a e1 e2=>exact e1▸k a e2
theorem iW(hv:bV σ xs x)(h:VD d x v)(k:∀l vs n,IsL d.s.heap l vs.toArray n->FRs c.b d.g.z xs vs->P (.ref l)):P v:=by cases hv.v d h with|mk l vs n h1 h2=>exact k l vs n h1 h2
theorem ma(hp:eQ σ xs p)(h:VD d (.p p) v)(k:∀a vs n,d.g.at_ (.p p)=some a->IsL d.s.heap a vs.toArray n->FRs c.b d.g.z xs vs->P (.ref a)):P v:=
 by cases hp.at_ d with|mk a' vs n h1 h2 h3=>exact eT h fun a e=>k a vs n e ((d.h.at_ _ _ e).trans (congrArg some h2)) h3
theorem GT(hv:iy σ es x)(h:VD d x v)(k:∀a kvs,(a==sysModules)=false->d.s.heap.DictOf c.b.kd a kvs->DRs c.b d.g.z es kvs->P (.ref a)):P v:=
 by cases hv.at_ d h with|mk l o kvs h1 h2 h3 h4=>exact k l kvs h1 (h3.at h2) h4
theorem qe{q:bW}(hq:σ.q=some q)(h:VD d (.p .n2i) v)(k:∀a kvs,d.g.at_ (.p .n2i)=some a->(a==sysModules)=false->d.s.heap.DictOf c.b.kd a kvs->ck c.b d.g q.n2i kvs->P (.ref a)):P v:=
 by cases d.sr hq with|mk a' sd n2i tp tf rd kvs h1 h2 h3 h4 h5 h6 h7 h8 _ _=>exact eT h fun a e=>k a kvs e (d.h.sys e (fun u_ z=>by cases z)) (h6.at (d.h.at_ _ _ e)) h7
theorem zo(hi:aq σ.h i=some (.set us))(h:VD d (.p (.loc i)) v)(k:∀a S,d.g.at_ (.p (.loc i))=some a->d.s.heap.SetOf c.b.kd a S us.length->(∀x,S x=aO us x)->P (.ref a)):P v:=by
 refine eT h fun a e=>?_;have L:lW c.b d.g (.loc i) us:=by have:=d.r.loc i;rw[hi]at this;exact this
 cases L with|mk a' k1 k2=>
 cases k1.symm.trans e;obtain⟨S,h1,h2⟩:=k2;exact k _ S e (h2 _ (d.h.at_ _ _ e)) h1
theorem IsL.ty{s:Shared}(h:IsL s.heap l vs n):s.TypeIs (.ref l) "list":=⟨_,h,rfl⟩
theorem FRs.fits(h:FRs b z xs vs)(hz:Nat.ble xs.length aw=true):vs.toArray.size<=sizeLine:=by rw[List.size_toArray,h.length];exact Mine.fits hz
theorem Dy.putP{Q:Value->Shared->Prop}(pp:aB d VV (.ok x af) Q)(k:fK σ xs p af)(e:d.g.at_ (.p p)=some a)(h:FRs c.b d.g.z xs vs)(hs:Heap.SameBut a d.s.heap h')(hn:h'.get? a=some (aV vs n))(ht:d.s.toks<=t)
  (r:∀d':Dy c af,Le d d'->VD d' x v):Q v {d.s with heap:=h',toks:=t}:=(d.put k e h hs hn ht).elim fun d' q=>q.1▸pp d' v q.2 (r d' q.2)
theorem Dy.putN(pp:aB d VV (.ok (.f .none) af) Q)(k:fK σ xs p af)(e:d.g.at_ (.p p)=some a)(h:FRs c.b d.g.z xs vs)(hs:Heap.SameBut a d.s.heap h')(hn:h'.get? a=some (aV vs n))(ht:d.s.toks<=t):Q .none {d.s with heap:=h',toks:=t}:=Dy.putP pp k e h hs hn ht fun u_ u_=>rfl
theorem Dy.putON(pp:aB d VV (.ok (.f .none) {σ with h:=bc σ.h i ao'}) Q)(h:aq σ.h i=some ao)(e:d.g.at_ (.p (.loc i))=some a)(hs:Heap.SameBut a d.s.heap h')(hn:h'.get? a=some o)(ht:d.s.toks<=t)
  (k:OR c.b (d.g.set (.p (.loc i)) (some a) o) i (some ao')):Q .none {d.s with heap:=h',toks:=t}:=(d.putO h e hs hn ht k).elim fun d' q=>q.1▸pp d' .none q.2 rfl
theorem Dy.pushP(pp:aB d VV (.ok x σ) Q)(hf:o.isFreed=false)(k:∀g':Gh,d.g.Le g'->g'.z.f d.s.heap.objs.size=some o->VV c.b g' x (.ref d.s.heap.objs.size)):Q (.ref d.s.heap.objs.size) {d.s with heap:=d.s.heap.push o}:=
 haveI le:=Gh.fz_le (o:=o) (d.h.fresh (Heap.get?_none_of_le (h:=d.s.heap) (Nat.le_refl _))).1
 pp (d.push o hf) _ le (k _ le Z.add_same)
end
noncomputable def e9(v:V)(m:Str)(σ:Sx)(id:String):Prop:=∀(c:Fr)(d:Dy c σ)(av:Value)(pl:Sem Bool)(Q:Value×List Value->Shared->Prop),VD d v av->Q (.builtin id,[av]) d.s->Wp c (getMethod av m pl) Q d.s
noncomputable def ky(id:String)(v:V)(vs:List V)(σ:Sx)(r:aG V):Prop:=∀(c:Fr),c.A.handled=none->∀(d:Dy c σ)(av:Value)(us:List Value)(Q:Value->Shared->Prop),VD d v av->aX c.b d.g vs us->aB d VV r Q->Wp c (call (.builtin id) (av::us)) Q d.s
noncomputable def M0(id:String)(v:V)(σ:Sx)(r:aG V):Prop:=∀(c:Fr)(d:Dy c σ)(av:Value)(Q:Value->Shared->Prop),VD d v av->aB d VV r Q->Wp c (call (.builtin id) [av]) Q d.s
noncomputable def M1(id:String)(v x:V)(σ:Sx)(r:aG V):Prop:=∀(c:Fr)(d:Dy c σ)(av xv:Value)(Q:Value->Shared->Prop),VD d v av->VD d x xv->aB d VV r Q->Wp c (call (.builtin id) [av,xv]) Q d.s
theorem M0.up{id:String}(h:M0 id v σ r):ky id v [] σ r:=fun c u_ d av us Q ra ru p=>(show us=[]from ru)▸h c d av Q ra p
theorem M1.up{id:String}(h:M1 id v x σ r):ky id v [x] σ r:=fun c u_ d av us Q ra ru p=>ru.elim fun u ru=>ru.elim fun w ru=>ru.1▸(show w=[]from ru.2.2)▸h c d av u Q ra ru.2.1 p
section
variable{σ af:Sx}{v:V}{xs:List F}{p:P}{y:F}{u:Str}{j i:Nat}{m:Str}{id:String}{q:bW}{us:List Str}
theorem gG(hv:bV σ xs v)(slot:Slot "list" m id)(ty:typeOf (.builtin id)=pure (.type "method_descriptor")):e9 v m σ id:=fun c d av pl Q ra h=>by revert h;apply iW hv ra;intro l vs n hI hr h;exact getMethod_builtin (IsL.ty hI) PySem.F.plainAttrs_list slot ty (fun a e=>by cases e;exact⟨_,hI,rfl⟩) h
theorem xK{d:Dy c σ}(hD:d.s.heap.DictOf c.b.kd l kvs)(slot:Slot "dict" m id)(ty:typeOf (.builtin id)=pure (.type "method_descriptor"))(h:Q (.builtin id,[.ref l]) d.s):Wp c (getMethod (.ref l) m pl) Q d.s:=
 getMethod_builtin hD.typeIs PySem.F.plainAttrs_dict slot ty hD.mapOf.noDict h
theorem mG(hq:σ.q=some q)(slot:Slot "dict" m id)(ty:typeOf (.builtin id)=pure (.type "method_descriptor")):e9 (.p .n2i) m σ id:=fun c d av pl Q ra h=>by revert h;apply qe hq ra;intro l kvs _ _ hD _ h;exact xK hD slot ty h
theorem JF{es:List (Str×F)}(hv:iy σ es v)(slot:Slot "dict" m id)(ty:typeOf (.builtin id)=pure (.type "method_descriptor")):e9 v m σ id:=fun c d av pl Q ra h=>by revert h;apply GT hv ra;intro l kvs _ hD _ h;exact xK hD slot ty h
theorem BF(h:aq σ.h i=some (.set us)):e9 (.p (.loc i)) "add" σ "set.add":=fun c d av pl Q ra q=>by revert q;apply zo h ra;intro a S _ hS _ q;exact getMethod_set_add hS q
theorem jY(h:eQ σ xs p)(k:fK σ (xs++[y]) p af)(hz:Nat.ble xs.length aw=true):M1 "list.append" (.p p) (.f y) σ (.ok (.f .none) af):=fun c d av xv Q ra rx pp=>A1 d h k ra rx hz pp
theorem yR:∀{ss:List Str}{vs:List Value},FRs b z (ss.map F.str) vs->∃l:List (Str×Tok),vs=strValues l/\l.map (·.1)=ss:=by
 intro ss
 induction ss with
|nil=> intro _ h;exact⟨[],h,rfl⟩
|cons x _ ih=> intro _ h;obtain⟨v,vs,rfl,a,r⟩:=h;obtain⟨l,rfl,rfl⟩:=ih r;exact⟨(x,dA v)::l,by rw[show v=_ from a];rfl,rfl⟩
theorem AL(u y:Str)(t:Tok):Value.isStrOf u (.str y t)=ah y u:=by rw[Bool.eq_iff_iff,bD];simp[Value.isStrOf]
theorem JV(hk:k < n)(h:Nat.ble n aw=true):(k:Int) < 2 ^ 63-1:=Int.lt_of_le_of_lt (Int.ofNat_le.mpr (Nat.le_trans (Nat.le_of_lt hk) (Nat.le_of_ble_eq_true h))) (by decide)
theorem wa:(strValues L).toArray.size=(L.map (·.1)).length:=(List.length_map ..).trans (List.length_map ..).symm
theorem wK{m:Nat}(hm:m < (strValues L).toArray.size):Value.isStrOf u (strValues L).toArray[m]=ah ((L.map (·.1))[m]'(wa▸hm)) u:=
 (congrArg (Value.isStrOf u) (List.getElem_map (fun p:Str×Tok=>Value.str p.1 p.2) (l:=L) (i:=m) (h:=hm))).trans ((AL ..).trans (congrArg (ah · u) (List.getElem_map ..).symm))
theorem HP{d:Dy c σ}:∀y∈(strValues L).toArray,EqAt c.A.in1 d.s y (.str u t) (Value.isStrOf u y):=fun y hy=>by obtain⟨o0_,_,rfl⟩:=List.mem_map.mp (List.mem_toArray.mp hy);obtain⟨z,t⟩:=o0_;exact(AL ..).symm▸(((iH:gc 6 (.str z) (.str u) (ah z u)) c.b d.g.z d.s (.str z t) (.str u _) d.h.zf rfl rfl).2 _ (l9 c.u7)).el
theorem xV{ss:List Str}(hv:bV σ (ss.map F.str) v)(hf:ss.findIdx? (fun y=>ah y u)=some j)(hz:Nat.ble ss.length aw=true):M1 "list.index" v (.f (.str u)) σ (.ok (.f (.int (j:Int))) σ):=fun c d av us Q ra rx pp=>by
 apply bN rx;intro t;apply iW hv ra;intro l vs n hI hr;obtain⟨L,rfl,rfl⟩:=yR hr;obtain⟨hk,e2,e3⟩:=List.findIdx?_eq_some_iff_getElem.mp hf;exact call_meets PySem.F.slot_list_index (IsL.ty hI) PySem.F.entry_list_index (PySem.F.args_list_index_2 _ _)
  (list_indexAt l (strValues L).toArray n none #[] (.str u t) (Value.isStrOf u) j (wa.symm▸hk) (JV hk hz) ((wK _).trans e2) (fun m hm hlt=>(wK hm).trans (Bool.eq_false_iff.mpr (e3 m hlt)))) ⟨hI,HP,eg pp (Nat.le_succ _)⟩
theorem FRs.unsnoc:∀{xs:List F}{vs:List Value},FRs b z (xs++[x]) vs->∃us v,vs=us++[v]/\FRs b z xs us/\FR b z x v:=by
 intro xs
 induction xs with
|nil=> intro _ h;obtain⟨v,_,rfl,a,rfl⟩:=h;exact⟨[],v,rfl,rfl,a⟩
|cons y xs ih=> intro _ h;obtain⟨v,vs,rfl,a,r⟩:=h;obtain⟨us,u,rfl,h1,h2⟩:=ih r;exact⟨v::us,u,rfl,⟨v,us,rfl,a,h1⟩,h2⟩
theorem As{b:aN}{us:List Value}{v:Value}{Q:Value->Shared->Prop}(hI:IsL s.heap l (us++[v]).toArray k)(hz:(us++[v]).toArray.size<=sizeLine)
  (h:∀h' n,IsL h' l us.toArray n->Heap.SameBut l s.heap h'->Q v {s with heap:=h'}):wpAny b.M A (call (.builtin "list.pop") [.ref l]) Q E s:=by
 haveI hk:(us++[v]).toArray.size-1=us.length:=by rw[List.size_toArray,List.length_append];rfl
 refine call_meets PySem.F.slot_list_pop (IsL.ty hI) PySem.F.entry_list_pop (PySem.F.args_list_pop_1 _) (PySem.MeetsSeq.list_pop_last l _ k v (by rw[hk,List.getElem?_toArray];exact List.getElem?_concat_length) hz) ⟨hI,?_⟩;haveI e1:(us++[v]).toArray.eraseIdxIfInBounds ((us++[v]).toArray.size-1)=us.toArray:=by rw[hk,kl_erase,List.append_nil]
 exact h _ _ (e1▸PySem.IsL.update hI (fun xs=>xs.eraseIdxIfInBounds ((us++[v]).toArray.size-1))) (Heap.SameBut.update ..)
theorem C0(h:eQ σ (xs++[y]) p)(k:fK σ xs p af)(hz:Nat.ble (xs++[y]).length aw=true):M0 "list.pop" (.p p) σ (.ok (.f y) af):=fun c d av Q ra pp=>by apply ma h ra;intro a vs n e hI hr;obtain⟨us,v,rfl,h3,h4⟩:=hr.unsnoc;exact As (b:=c.b) hI (FRs.fits hr hz) fun h' n' hI hs=>Dy.putP pp k e h3 hs hI (Nat.le_refl _) fun d' le=>FR.mono (Gh.Le.z le) h4
theorem GH(h:eQ σ xs p)(k:fK σ [] p af)(hz:Nat.ble xs.length aw=true):M0 "list.clear" (.p p) σ (.ok (.f .none) af):=fun c d av Q ra pp=>by apply ma h ra;intro a vs n e hI hr;exact call_meets PySem.F.slot_list_clear (IsL.ty hI) PySem.F.entry_list_clear (PySem.F.args_list_clear_1 _) (AutoSeq1.list_clear_list_0 a vs.toArray n (FRs.fits hr hz)) ⟨hI,Dy.putN (vs:=[]) pp k e rfl (Heap.SameBut.update ..) (PySem.IsL.update hI (fun u_=>#[])) (Nat.le_refl _)⟩
theorem EC{y:Str}(q:u≠y):valueAt ((y,w)::kvs) u=valueAt kvs u:=by simp[valueAt,show ¬y=u from fun z=>q z.symm]
theorem CT:∀{ns:List (Str×aZ)}{kvs:List (Str×Value)},ck b g ns kvs->ad ns u=none->valueAt kvs u=none:=by
 intro ns
 induction ns with
|nil=> intro _ h _;cases(show _=[]from h);rfl
|cons p_ r ih=>
  obtain⟨y,n⟩:=p_;intro _ N h;obtain⟨w,kvs,rfl,h2,h3⟩:=N;rw[i9]at h;by_cases q:u=y
  ·rw[q,bU]at h;cases h
  ·rw[gQ q]at h;exact(EC q).trans (ih h3 h)
theorem xP(hq:σ.q=some q)(hl:ad q.n2i u=none):M1 "dict.get" (.p .n2i) (.f (.str u)) σ (.ok (.f .none) σ):=fun c d av xv Q ra rx pp=>by apply bN rx;intro t;apply qe hq ra;intro l kvs e hs D N;exact call_meetsIn PySem.F.slot_dict_get D.typeIs PySem.F.entry_dict_get (PySem.F.args_dict_get_2 _ _) (meets_dict_get c.b.kd l (strKind_is _ _ u t) hs) ⟨_,D.mapOf,(CT N hl).symm▸fN pp rfl (Nat.le_succ _)⟩
theorem yC(hq:σ.q=some q)(hl:ad q.n2i u=some nd):M1 "dict.get" (.p .n2i) (.f (.str u)) σ (.ok (.p (.nd u)) σ):=fun c d av xv Q ra rx pp=>by
 apply bN rx;intro t;apply qe hq ra;intro l kvs e hs D N;obtain⟨w,r1,r2⟩:=AP N hl;cases r2 with|mk a2 dd l2 tx tn k1 k2 k3 k4 k5 k6 k7=>
 exact call_meetsIn PySem.F.slot_dict_get D.typeIs PySem.F.entry_dict_get (PySem.F.args_dict_get_2 _ _) (meets_dict_get c.b.kd l (strKind_is _ _ u t) hs) ⟨_,D.mapOf,r1▸fN pp ⟨a2,k1,k2⟩ (Nat.le_succ _)⟩
theorem Kf(hq:σ.q=some q):M0 "dict.values" (.p .n2i) σ (.ok .vals σ):=fun c d av Q ra pp=>by apply qe hq ra;intro l kvs e hs D N;exact call_meetsIn PySem.F.slot_dict_values D.typeIs PySem.F.entry_dict_values (PySem.F.args_dict_values_1 _) (meets_dict_values c.b.kd l hs) ⟨⟨_,D⟩,Dy.pushP pp rfl fun g' le h=>⟨l,_,rfl,le.p _ _ e,h⟩⟩
theorem BQ:M0 "dict.values" (.f (.dict es)) σ (.ok (.dview es) σ):=fun c d av Q ra pp=>by
 obtain⟨kvs,ra,rr⟩:=ra;cases ra with|mk l o e h1 h2 h3=>
 haveI D:=h3.at (d.h.zf _ _ h2);subst e;exact call_meetsIn PySem.F.slot_dict_values D.typeIs PySem.F.entry_dict_values (PySem.F.args_dict_values_1 _) (meets_dict_values c.b.kd l h1) ⟨⟨_,D⟩,Dy.pushP pp rfl fun g' le h=>⟨kvs,⟨_,l,o,rfl,h,le.z.f _ _ h2,h3⟩,DRs.mono le.z rr⟩⟩
theorem Cx{b:aN}{h h2:Heap}(e:h2.get? a=h.get? a)(x:h.SetOf b.kd a S n):h2.SetOf b.kd a S n:=by unfold Heap.SetOf;rw[e];exact x
theorem B2{b:aN}{h:Heap}(x:h.SetOf b.kd a S n):∃o,h.get? a=some o:=x.imp fun u_ x=>x.elim fun u_ x=>x.elim fun u_ x=>x.elim fun u_ x=>x.1
noncomputable def jm(us:List Str)(u:Str):List Str:=match aO us u with
|true=>us
|false=>us++[u]
theorem nY:aO (us++[u]) x=(aO us x||ah x u):=by
 induction us with
|nil=>show(match ah x u with|true=>true|false=>false)=_;cases ah x u<;>rfl
|cons y r ih=>
  show(match ah x y with|true=>true|false=>aO (r++[u]) x)=((match ah x y with|true=>true|false=>aO r x)||ah x u);cases ah x y with
 |true=>rfl
 |false=>exact ih
theorem Ek:(aO us x||decide (x=u))=aO (jm us u) x:=by
 have e:decide (x=u)=ah x u:=by rw[Bool.eq_iff_iff,bD,decide_eq_true_iff]
 rw[e];unfold jm;cases q:aO us u with
|true=>
  show _=aO us x;cases z:ah x u with
 |true=>cases bD.mp z;rw[q];rfl
 |false=>exact Bool.or_false _
|false=>exact nY.symm
theorem Hn:(jm us u).length=if aO us u then us.length else us.length+1:=by
 unfold jm;cases aO us u with
|true=>rfl
|false=>exact List.length_append
theorem EG(h:aq σ.h i=some (.set us))(hz:Nat.ble us.length 1000=true):M1 "set.add" (.p (.loc i)) (.f (.str u)) σ (.ok (.f .none) {σ with h:=bc σ.h i (.set (jm us u))}):=fun c d av xv Q ra rx pp=>by apply bN rx;intro t;apply zo h ra;intro a S e hS hm;refine call_set_add (strKind_is _ _ u t) rfl hS (Nat.lt_of_le_of_lt (Nat.succ_le_succ (Nat.le_of_ble_eq_true hz)) (by decide)) fun h' hs hS'=>?_;rw[hm u,<-Hn]at hS';obtain⟨o,ho⟩:=B2 hS';exact Dy.putON pp h e hs ho (Nat.le_succ _) (.mk a Gh.at_same ⟨_,fun x=>(congrArg (·||_) (hm x)).trans Ek,fun h2 q=>Cx (q.trans ((congrArg some Gh.ob_same).trans ho.symm)) hS'⟩:lW c.b (d.g.set (.p (.loc i)) (some a) o) (.loc i) (jm us u))
end
end
section
open PySem PySem.W PyProof.Rows PySem.SeqAt Builtin.Str
noncomputable def M2(id:String)(v x y:V)(σ:Sx)(r:aG V):Prop:=∀(c:Fr)(d:Dy c σ)(av xv yv:Value)(Q:Value->Shared->Prop),VD d v av->VD d x xv->VD d y yv->aB d VV r Q->Wp c (call (.builtin id) [av,xv,yv]) Q d.s
noncomputable def M3(id:String)(v x y z:V)(σ:Sx)(r:aG V):Prop:=∀(c:Fr)(d:Dy c σ)(av xv yv zv:Value)(Q:Value->Shared->Prop),VD d v av->VD d x xv->VD d y yv->VD d z zv->aB d VV r Q->Wp c (call (.builtin id) [av,xv,yv,zv]) Q d.s
theorem M2.up{id:String}(h:M2 id v x y σ r):ky id v [x,y] σ r:=fun c u_ d av us Q ra ru p=>by obtain⟨u1,_,rfl,r1,u2,w,rfl,r2,r3⟩:=ru;exact(show w=[]from r3)▸h c d av u1 u2 Q ra r1 r2 p
theorem M3.up{id:String}(h:M3 id v x y z σ r):ky id v [x,y,z] σ r:=fun c u_ d av us Q ra ru p=>by obtain⟨u1,_,rfl,r1,u2,_,rfl,r2,u3,w,rfl,r3,r4⟩:=ru;exact(show w=[]from r4)▸h c d av u1 u2 u3 Q ra r1 r2 r3 p
noncomputable def kF(u x:Str):Bool:=(occurrences x u 0 x.length (x.length+1)).isEmpty
theorem Eu{d:Dy c σ}(pp:aB d VV (.ok (.f (.str x)) σ) Q)(h:∀Q':Value->Shared->Prop,(∀t k,Q' (.str x t) {d.s with toks:=k})->Wp c m Q' d.s):Wp c m Q d.s:=
 wpAny_mono (wpAny_toks_of (n:=d.s.toks) (Nat.le_refl _) (h (fun v s'=>∃k t,s'={d.s with toks:=k}/\v=.str x t) fun t k=>⟨k,t,rfl,rfl⟩)) (fun v s' hv=>by obtain⟨h1,k,t,rfl,rfl⟩:=hv;exact g7 pp h1) fun u_ u_ x=>x.2
section
variable{σ af:Sx}{t u w:Str}{id:String}{m:Str}
theorem kE(h:∀(s:Shared)(M:Model)(A:Around)(E:Value->Shared->Prop)(tk:Tok)(pl:Sem Bool)(Q:Value×List Value->Shared->Prop),Q (.builtin id,[.str t tk]) s->wpAny M A (getMethod (.str t tk) m pl) Q E s):e9 (.f (.str t)) m σ id:=fun c d av pl Q ra=>by apply bN ra;intro tk;exact h d.s _ _ _ tk pl Q
theorem GG:e9 (.f (.str t)) "endswith" σ "str.endswith":=kE fun u_ u_ u_ u_ u_ u_ u_ h=>by with_reducible exact GM.endswith h
theorem Cv:e9 (.f (.str t)) "index" σ "str.index":=kE fun u_ u_ u_ u_ u_ u_ u_ h=>by with_reducible exact GM.index h
theorem Aa:e9 (.f (.str t)) "split" σ "str.split":=kE fun u_ u_ u_ u_ u_ u_ u_ h=>by with_reducible exact GM.split h
theorem nR:e9 (.f (.str t)) "join" σ "str.join":=kE fun u_ u_ u_ u_ u_ u_ u_ h=>by with_reducible exact GM.join h
theorem yi:e9 (.f (.str t)) "find" σ "str.find":=kE fun u_ u_ u_ u_ u_ u_ u_ h=>by with_reducible exact GM.of (.str t _) (typeIs_str _ _ _) PySem.F.slot_str_find PySem.F.type_str_find GM.noRef h
theorem CG:e9 (.f (.str t)) "replace" σ "str.replace":=kE fun u_ u_ u_ u_ u_ u_ u_ h=>by with_reducible exact GM.replace h
theorem Gy:e9 (.f (.str t)) "translate" σ "str.translate":=kE fun u_ u_ u_ u_ u_ u_ u_ h=>by with_reducible exact GM.of (.str t _) (typeIs_str _ _ _) PySem.F.slot_str_translate PySem.F.type_str_translate GM.noRef h
theorem J3:M1 "str.endswith" (.f (.str t)) (.f (.str u)) σ (.ok (.f (.bool (Txt.endswith t u))) σ):=fun c d av xv Q ra rx pp=>by apply bN ra;intro tk;apply bN rx;intro uk;exact SC.endswith (gy pp rfl)
theorem Bs(h:occurrences t u 0 t.length 1=k::r):M1 "str.index" (.f (.str t)) (.f (.str u)) σ (.ok (.f (.int (k:Int))) σ):=fun c d av xv Q ra rx pp=>by apply bN ra;intro tk;apply bN rx;intro uk;exact SC.index h (eg pp (Nat.le_succ _))
theorem qH(hv:bV σ (ss.map F.str) v)(hok:JoinOk t ss=true):M1 "str.join" (.f (.str t)) v σ (.ok (.f (.str (Txt.join t ss))) σ):=fun c d av xv Q ra rx pp=>by apply bN ra;intro tk;apply iW hv rx;intro l vs n hI hr;obtain⟨L,rfl,e⟩:=yR hr;exact Eu pp fun Q' h=>SC.join (bz hI) e hok h
theorem C5:∀(l:List (Str×Tok)),FRs b z ((l.map (·.1)).map F.str) (strValues l):=by
 intro l
 induction l with
|nil=> exact rfl
|cons p_ l ih=> obtain⟨x,t⟩:=p_;exact⟨.str x t,strValues l,rfl,rfl,ih⟩
theorem tY{d:Dy c σ}(p:aB d VV (.ok (.f (.list (ss.map F.str))) σ) Q)(hL:L.map (·.1)=ss)(hk:d.s.toks<=k):Q (.ref d.s.heap.objs.size) {d.s with toks:=k,heap:=d.s.heap.push {cls:=.type "list",data:=.seq (strValues L).toArray}}:=
 mD (d:=d.tok k hk) (p.after (Gh.Le.refl _)) (hL▸C5 L)
theorem yj(hu:Nat.beq u.length 0=false)(ht:Nat.ble t.length 1000=true)(hl:Nat.ble (Txt.split t u).length 1000=true):M1 "str.split" (.f (.str t)) (.f (.str u)) σ (.ok (.f (.list ((Txt.split t u).map F.str))) σ):=fun c d av xv Q ra rx pp=>by
 apply bN ra;intro tk;apply bN rx;intro uk;haveI hy:(u.length==0)=false:=beq_eq_false_iff_ne.mpr (Nat.ne_of_beq_eq_false hu);haveI big:1000<=sizeLine:=by decide +kernel
 cases h1:(decide (t.length < u.length)||decide (strKind t < strKind u))with
|true=> exact call_meets PySem.F.slot_str_split (typeIs_str _ _ _) PySem.F.entry_str_split (PySem.F.args_str_split_2 _ _) (meets_str_split_cannot_occur t u tk uk h1) (tY (L:=[(t,tk)]) (k:=d.s.toks) pp (if_pos h1).symm (Nat.le_refl _))
|false=>
  cases hf:(occurrences t u 0 t.length (t.length+1)).isEmpty with
 |true=> exact call_meets PySem.F.slot_str_split (typeIs_str _ _ _) PySem.F.entry_str_split (PySem.F.args_str_split_2 _ _) (meets_str_split_not_found t u tk uk h1 hy hf) (tY (L:=[(t,tk)]) (k:=d.s.toks) pp ((if_neg (ne_true_of_eq_false h1)).trans (if_pos hf)).symm (Nat.le_refl _))
 |false=> haveI e1:Txt.split t u=partsBetween t (occurrences t u 0 t.length (t.length+1)) u.length:=(if_neg (ne_true_of_eq_false h1)).trans (if_neg (ne_true_of_eq_false hf));refine call_meets PySem.F.slot_str_split (typeIs_str _ _ _) PySem.F.entry_str_split (PySem.F.args_str_split_2 _ _) (meets_str_split_sep t u tk uk h1 hy hf (Nat.le_trans (Nat.le_of_ble_eq_true ht) big) (by rw[<- e1];exact Nat.le_trans (Nat.le_of_ble_eq_true hl) big)) ?_;show wants Q c.E _ {d.s with toks:=_,heap:=d.s.heap.push {cls:=.type "list",data:=.seq (strsFrom d.s.toks (partsBetween t (occurrences t u 0 t.length (t.length+1)) u.length)).toArray}};rw[strsFrom_eq];exact tY pp ((numbered_texts _ _).trans e1.symm) (Nat.le_add_right ..)
noncomputable def iX(x y:Str)(i j:Int):Int:=match occurrences x y (fromIndex x.length i) (Nat.min (fromIndex x.length j) x.length) 1 with
|k::_=>(k:Int)
|[]=>-1
theorem EJ(x y:Str)(i j:Int)(t u v z:Tok):Gives (Builtin.«str.find» ⟨[.str x t,.str y u,.int i v,.int j z],[]⟩) (.int (iX x y i j)):=by
 show Gives (match occurrences x y (fromIndex x.length i) (Nat.min (fromIndex x.length j) x.length) 1 with|k::_=>retInt k|[]=>(do rule "str.find.not-found";retInt (-1))) _;unfold iX;cases occurrences x y (fromIndex x.length i) (Nat.min (fromIndex x.length j) x.length) 1 with
|nil=>exact .rule (.of_eq rfl)
|cons k _=>exact .of_eq rfl
theorem zJ:M3 "str.find" (.f (.str t)) (.f (.str u)) (.f (.int i)) (.f (.int j)) σ (.ok (.f (.int (iX t u i j))) σ):=fun c d av xv yv zv Q ra rx ry rz pp=>by apply bN ra;intro tk;apply bN rx;intro uk;apply lF ry;intro ik;apply lF rz;intro jk;exact call_gives PySem.F.slot_str_find (typeIs_str _ _ _) PySem.F.entry_str_find (PySem.F.args_str_find_4 _ _ _ _) (EJ t u i j _ _ _ _) (eg pp (Nat.le_succ _))
theorem Hz(h:kF u t=true):M2 "str.replace" (.f (.str t)) (.f (.str u)) (.f (.str w)) σ (.ok (.f (.str t)) σ):=fun c d av xv yv Q ra rx ry pp=>by
 revert pp;apply bN ra;intro tk;apply bN rx;intro uk;apply bN ry;intro wk pp;have hc:((occurrences t u 0 t.length (t.length+1)).isEmpty||(u.length==0&&w.length==0))=true:=by rw[show(occurrences t u 0 t.length (t.length+1)).isEmpty=true from h];rfl
 refine call_gives PySem.F.slot_str_replace (typeIs_str _ _ _) PySem.F.entry_str_replace (PySem.F.args_str_replace_3 _ _ _) (gives_str_replace t u w tk uk wk fun z=>by rw[hc]at z;cases z) ?_;rw[if_pos hc];exact gy pp rfl
end
theorem r9[Decidable c](hc:c)(h:wpAny M A a Q E s):wpAny M A (if c then a else b) Q E s:=by rw[if_pos hc];exact h
theorem lS[Decidable c](hc:¬c)(h:wpAny M A b Q E s):wpAny M A (if c then a else b) Q E s:=by rw[if_neg hc];exact h
theorem AD{f:α->β->Sem (ForInStep β)}(h:wpAny M A (f c b) (fun r s'=>match r with|.done b'=>Q b' s'|.yield b'=>Q b' s') E s):wpAny M A (forIn #[c] b f) Q E s:=by
 rw[<- Array.forIn_toList];show wpAny M A (forIn [c] b f) Q E s;rw[List.forIn_cons];refine wpAny_bind (wpAny_mono h (fun r s' h=>?_) fun u_ u_ h=>h);cases r with
|done b'=>exact wpAny_pure h
|yield b'=> show wpAny M A (forIn [] b' f) Q E s';rw[List.forIn_nil];exact wpAny_pure h
theorem DA:isSubtype (.type "KeyError") (.type "LookupError")=pure true:=by rw[isSubtype_type];kernel_rfl
theorem wl(hm:s.heap.MapOf (intKind prog w) a f)(hv:f c=some (.str r rt))(h:∀tk,s.toks<=tk->Q (.text r) {s with toks:=tk}):
  wpAny (model prog w) A (tableLookup (.ref a) c) Q E s:=by
 refine wpAny_bind (wpAny_attempt (wpAny_bind (wpAny_mkInt ?_)));refine wpAny_getItem_of (s:={s with toks:=s.toks+1}) (intKind_is _ _ _ _) hm hv ?_;exact wpAny_bind (m:=asInt? _) (wpAny_pure (wpAny_bind (m:=asStr? _) (wpAny_pure (wpAny_pure (h _ (Nat.le_trans (Nat.le_succ _) (Nat.le_succ _)))))))
theorem HK(hh:A.handled=none)(hd:(a==sysModules)=false)(hm:s.heap.MapOf (intKind prog w) a f)(hv:f c=none)(h:∀h' tk,s.toks<=tk->(∀c o,s.heap.get? c=some o->h'.get? c=some o)->Q .keep {s with heap:=h',toks:=tk}):
  wpAny (model prog w) A (tableLookup (.ref a) c) Q E s:=by
 refine wpAny_bind (wpAny_attempt (wpAny_bind (wpAny_mkInt ?_)));refine wpAny_getItem_missing_of (s:={s with toks:=s.toks+1}) (intKind_is _ _ _ _) hd hh hm hv fun h' e hn=>?_;obtain⟨ob,t,ho,hc,_⟩:=hn.there;exact wpAny_bind (wpAny_isInstance (T:="KeyError") (b:=true) ⟨ob,ho,hc⟩ DA (r9 rfl (wpAny_bind (wpAny_rule (wpAny_pure (h _ _ (Nat.le_trans (Nat.le_succ _) (Nat.le_succ _)) hn.keeps))))))
theorem G7(hc:c < 128)(hm:s.heap.MapOf (intKind prog w) a f)(hv:f c=some (.str ⟨#[d,e]⟩ rt))(h:∀t tk,s.toks<=tk->Q (.str ⟨#[d,e]⟩ t) {s with toks:=tk}):
  wpAny (model prog w) A (call (.builtin "str.translate") [.str ⟨#[c]⟩ tk,.ref a]) Q E s:=by
 refine wpAny_call_entry PySem.F.slot_str_translate (typeIs_str _ _ _) PySem.F.entry_str_translate ?_ (PySem.F.args_str_translate_2 _ _);haveI hfast:(#[c]:Array Nat).all (fun x=>decide (x < 128))=true:=by simp[hc]
 haveI z2:2<=sizeLine:=by decide +kernel
 refine wpAny_bind (m:=Builtin.Str.strOneArg _ _) (wpAny_pure (lS (show ¬((1==0)=true) by decide) (wpAny_bind (AD (lS (show ¬(Builtin.Str.tooLong 0=true) by decide) (r9 hfast ?_))))));refine wpAny_bind (m:=Builtin.Str.tableLookup (.ref a) c) (wl hm hv fun k hk=>?_);refine wpAny_bind (wpAny_pure (wpAny_bind (wpAny_rule ?_)));refine wpAny_bind (m:=Builtin.Str.tableLookup (.ref a) c) (wl (s:={s with toks:=k}) hm hv fun k2 hk2=>wpAny_pure ?_);exact lS (show ¬(Builtin.Str.tooLong 2=true) by decide) (wpAny_bind (wpAny_mkStr (wpAny_pure ⟨_,rfl,h _ _ (Nat.le_trans hk (Nat.le_trans hk2 (Nat.le_succ _)))⟩) z2))
theorem Fy(hc:c < 128)(hh:A.handled=none)(hd:(a==sysModules)=false)(hm:s.heap.MapOf (intKind prog w) a f)(hv:f c=none)
  (h:∀h' t tk,s.toks<=tk->(∀c o,s.heap.get? c=some o->h'.get? c=some o)->Q (.str ⟨#[c]⟩ t) {s with heap:=h',toks:=tk}) :
  wpAny (model prog w) A (call (.builtin "str.translate") [.str ⟨#[c]⟩ tk,.ref a]) Q E s:=by
 refine wpAny_call_entry PySem.F.slot_str_translate (typeIs_str _ _ _) PySem.F.entry_str_translate ?_ (PySem.F.args_str_translate_2 _ _);haveI hfast:(#[c]:Array Nat).all (fun x=>decide (x < 128))=true:=by simp[hc]
 haveI z1:1<=sizeLine:=by decide +kernel
 refine wpAny_bind (m:=Builtin.Str.strOneArg _ _) (wpAny_pure (lS (show ¬((1==0)=true) by decide) (wpAny_bind (AD (lS (show ¬(Builtin.Str.tooLong 0=true) by decide) (r9 hfast ?_))))));refine wpAny_bind (m:=Builtin.Str.tableLookup (.ref a) c) (HK hh hd hm hv fun h' k hk kp=>?_);refine wpAny_bind (wpAny_pure (wpAny_pure ?_));exact lS (show ¬(Builtin.Str.tooLong 1=true) by decide) (wpAny_bind (wpAny_mkStr (wpAny_pure ⟨_,rfl,h _ _ _ (Nat.le_trans hk (Nat.le_succ _)) kp⟩) z1))
theorem AX{K:Type}[DecidableEq K]{knd:PySem.KeyKind prog w K}{h h':Heap}{f:K->Option Value}(x:h.MapOf knd a f)(k:∀o,h.get? a=some o->h'.get? a=some o):h'.MapOf knd a f:=by obtain⟨o,es,ep,ho,r⟩:=x;exact⟨o,es,ep,k o ho,r⟩
theorem H6{k:Nat}(hk:k=93\/k=124):M1 "str.translate" (.f (.str ⟨#[k]⟩)) (.f (.bi "_special_chars_map")) σ (.ok (.f (.str ⟨#[92,k]⟩)) σ):=fun c d av xv Q ra rx pp=>by
 apply bN ra;intro tk;obtain⟨a,f,hb,hm,hs,hn,f1,f2,_⟩:=c.ok.scm;cases hb.symm.trans (show c.b.blt _=some xv from rx);haveI hm:=AX hm fun o ho=>d.h.b ho hn;haveI f1:∃t,f k=some (.str ⟨#[92,k]⟩ t):=by rcases hk with rfl|rfl<;>assumption
 obtain⟨t1,f1⟩:=f1;exact G7 (by rcases hk with rfl|rfl<;>decide) hm f1 fun t tk htk=>g7 pp htk
theorem B4{k:Nat}(hk:k=33\/k=97):ky "str.translate" (.f (.str ⟨#[k]⟩)) [.f (.bi "_special_chars_map")] σ (.ok (.f (.str ⟨#[k]⟩)) σ):=fun c hh d av us Q ra ru pp=>by
 obtain⟨xv,us,rfl,rx,ru⟩:=ru;cases(show us=[]from ru);apply bN ra;intro tk;obtain⟨a,f,hb,hm,hs,hn,_,_,f3,f4⟩:=c.ok.scm;cases hb.symm.trans (show c.b.blt _=some xv from rx);have hm:=AX hm fun o ho=>d.h.b ho hn;have f1:f k=none:=by rcases hk with rfl|rfl<;>assumption
 exact Fy (by rcases hk with rfl|rfl<;>decide) hh hs hm f1 fun h' t tk htk kp=>pp (d.keeps (s':={d.s with heap:=h',toks:=tk}) kp rfl rfl (Nat.lt_of_lt_of_le d.h.tk htk)) _ (Gh.Le.refl _) rfl
end
section
open PySem PySem.W PyProof.Rows PySem.SeqAt
noncomputable def mQ:Nat->Sre.M->Option Sre.M
|0,_=>none
|n+1,m=>if(m.runFor Builtin.Re.reTurnSteps).outcome.isSome then some (m.runFor Builtin.Re.reTurnSteps)else mQ n (m.runFor Builtin.Re.reTurnSteps)
noncomputable def xh(o:Option Sre.Outcome):Bool:=match o with
|some .failed=>true
|_=>false
noncomputable def Ar(c:Nat):Bool:=match mQ 20 (Sre.forSearch iV.toArray #[c] 1 0 1 false)with
|some m=>xh m.outcome
|none=>false
theorem HT:([42,63,91,93]:List Nat).all Ar=true:=by decide +kernel
theorem s8:Slot "re.Pattern" "sub" "re.Pattern.sub":=
 .of (owner:="re.Pattern") (n:="sub") (by rw[typeLookup_type,builtinLookup_eq_fast];kernel_rfl) (by decide +kernel) (by decide +kernel) (by decide +kernel)
  (by first|exact .inl (by decide +kernel)|exact .inr (by decide +kernel)) (by rw[isSubtype_type];kernel_rfl)
theorem Jj:typeOf (.builtin "re.Pattern.sub")=pure (.type "method_descriptor"):=by show builtinType _=_;rw[builtinType_eq_fast];kernel_rfl
theorem Cr:entryFor table "re.Pattern.sub"=some Builtin.«re.Pattern.sub»:=entryFor_of_tree (by kernel_rfl)
theorem HU:entryFor table "re.Pattern.sub.loop"=some Builtin.«re.Pattern.sub.loop»:=entryFor_of_tree (by kernel_rfl)
theorem C4:(Code.builtin "re.Pattern.sub.loop" as).quiet=true:=Code.quiet_builtin _ (by decide +kernel)
theorem Ke(a c d:Value):argsOk "re.Pattern.sub" ⟨[a,c,d],[]⟩:=by unfold argsOk;kernel_rfl
theorem BW:typeLookup (.type "function") "__call__"=pure (some (.builtin "function.__call__")):=by rw[typeLookup_type,builtinLookup_eq_fast];kernel_rfl
theorem GL(c d:Value):Builtin.Re.reNamed "re.Pattern.sub" "sub" ["repl","string","count"] 2 [c,d] []=pure [some c,some d,none]:=by kernel_rfl
theorem DV:isSubtype (.type "str") (.type "bytearray")=pure false:=by rw[isSubtype_type];kernel_rfl
theorem FK(h:mQ k m=some m')(hk:k<=turns)(hq:Q m' s):wpAny M A (Builtin.Re.reDrive turns m) Q E s:=by
 induction k generalizing turns m with
|zero=>cases h
|succ k ih=>cases turns with
 |zero=>exact absurd hk (Nat.not_succ_le_zero _)
 |succ t=>
   haveI h:(if(m.runFor Builtin.Re.reTurnSteps).outcome.isSome then some (m.runFor Builtin.Re.reTurnSteps)else mQ k (m.runFor Builtin.Re.reTurnSteps))=some m':=h;by_cases hs:(m.runFor Builtin.Re.reTurnSteps).outcome.isSome=true
   ·rw[if_pos hs]at h;cases h;exact wpAny_ite_true (decide_eq_true hs) (wpAny_pure hq)
   ·rw[if_neg hs]at h;exact wpAny_ite_false (decide_eq_false hs) (wpAny_bind (wpAny_rule (ih h (Nat.le_of_succ_le_succ hk))))
theorem Dq{m:Sre.M}(hq:Q ⟨⟩ s):∀(l:List Nat),wpAny M A (forIn l PUnit.unit fun i u_=>if m.seen.has i=true then(do rule (Sre.names.getD i "");pure (ForInStep.yield PUnit.unit))else(pure (ForInStep.yield PUnit.unit):Sem (ForInStep PUnit))) Q E s:=by
 intro l
 induction l with
|nil=> exact wpAny_pure hq
|cons i r ih=>
  rw[List.forIn_cons];refine wpAny_bind ?_;by_cases h:m.seen.has i=true
  ·rw[if_pos h];exact wpAny_bind (wpAny_rule (wpAny_pure (ih)))
  ·rw[if_neg h];exact wpAny_pure (ih)
theorem Kc(hc:c∈([42,63,91,93]:List Nat))(h1:t.code=iV.toArray)(h2:t.text=#[c])(h3:t.groups=1)(h4:t.lim=1)(hq:Q none s):
  wpAny M A (Builtin.Re.reNextFound t 0 false) Q E s:=by
 unfold Builtin.Re.reNextFound Builtin.Re.reRunToEnd;rw[h1,h2,h3,h4];have hn:=List.all_eq_true.mp HT c hc;unfold Ar at hn;cases hs:mQ 20 (Sre.forSearch iV.toArray #[c] 1 0 1 false)with
|none=>rw[hs]at hn;cases hn
|some m=>
  rw[hs]at hn;refine wpAny_bind (FK hs (by decide) ?_);refine wpAny_bind (Dq ?_ _);have hn:xh m.outcome=true:=hn;cases ho:m.outcome with
 |none=>rw[ho]at hn;cases hn
 |some o=>
   rw[ho]at hn;cases o with
  |failed=>exact wpAny_pure hq
  |_=>cases hn
theorem G6:((((iV.map fun(w:Nat)=>rawInt w).toArray:Array Value).map Builtin.Re.reRawOf).map fun(i:Int)=>i.toNat)=iV.toArray:=by decide +kernel
noncomputable def vp(pv fv:Value)(T:Addr):Obj:={cls:=.type "re.Pattern",data:=.fields #[pv,fv,rawInt 1,.none,.none,.ref T,rawInt 0]}
theorem xY(ho:s.heap.get? a=some (vp pv fv T))(hT:IsT s.heap T (iV.map fun(w:Nat)=>rawInt w).toArray nT)
  (hq:∀t:Builtin.Re.ReTarget,t.code=iV.toArray->t.text=#[c]->t.groups=1->t.lim=1->t.kind=0->Q t s):wpAny M A (Builtin.Re.reWholeTarget (.ref a) (.str ⟨#[c]⟩ tk)) Q E s:=by
 unfold Builtin.Re.reWholeTarget;refine wpAny_bind (wpAny_fieldsOf ho rfl ?_);refine wpAny_bind (m:=Builtin.Re.reTextOf _) (wpAny_pure ?_);dsimp only;rw[if_neg (show ¬((Builtin.Re.reRawNat (#[pv,fv,rawInt 1,Value.none,Value.none,.ref T,rawInt 0].getD 6 .none)==0&&(0:Nat)==1)=true)from by show ¬(((0:Nat)==0&&(0:Nat)==1)=true);decide),if_neg (show ¬((Builtin.Re.reRawNat (#[pv,fv,rawInt 1,Value.none,Value.none,.ref T,rawInt 0].getD 6 .none)==1&&(0:Nat)==0)=true)from by show ¬(((0:Nat)==1&&(0:Nat)==0)=true);decide)];refine wpAny_bind (m:=Builtin.Re.reNoCollectionInside _ _) (wpAny_pure ?_);refine wpAny_bind (m:=Builtin.Re.reRawItems _) (wpAny_bind (m:=seqItems? (.ref T)) (wpAny_seqItems hT rfl (wpAny_pure ?_)));refine wpAny_pure (hq _ ?_ rfl rfl rfl rfl);exact G6
theorem EO:PlainAttrs "re.Pattern":=
 ⟨⟨"object.__getattribute__",by rw[typeLookup_type,builtinLookup_eq_fast];kernel_rfl,by decide +kernel⟩,by rw[typeLookup_type,builtinLookup_eq_fast];kernel_rfl⟩
theorem DW:e9 (.f (.bi "_twin_re_1")) "sub" σ "re.Pattern.sub":=fun c d av pl Q ra h=>by obtain⟨a,T,n,pv,fv,hb,ho,hT,n1,n2⟩:=c.ok.twin;cases hb.symm.trans (show c.b.blt _=some av from ra);haveI ho:=d.h.b ho n1;exact getMethod_builtin ⟨_,ho,rfl⟩ EO s8 Jj (fun a e=>by cases e;exact⟨_,ho,rfl⟩) h
theorem Kv(hM:∃prog w,M=model prog w)(hI:IsL s.heap l #[.str u uk] n)(ok:JoinOk t [u]=true)(h:∀t' k,s.toks<=k->Q (.str (Txt.join t [u]) t') {s with toks:=k}):wpAny M A (call (.builtin "str.join") [.str t tk,.ref l]) Q E s:=by obtain⟨prog,w,rfl⟩:=hM;refine wpAny_mono (wpAny_toks_of (n:=s.toks) (Nat.le_refl _) (SC.join (l:=[(u,uk)]) (Q:=fun v s'=>∃k t',s'={s with toks:=k}/\v=.str (Txt.join t [u]) t') (bz (vs:=[.str u uk]) hI) rfl ok fun t' k=>⟨k,t',rfl,rfl⟩)) (fun v s' hv=>?_) fun u_ u_ x=>x.2;obtain⟨h1,k,t',rfl,rfl⟩:=hv;exact h t' k h1
theorem GK:∀c∈([42,63,91,93]:List Nat),Txt.join (⟨(#[c]:Array Nat).extract 0 0⟩:Str) [⟨(#[c]:Array Nat).extract (Int.toNat 0) 1⟩]=⟨#[c]⟩/\JoinOk (⟨(#[c]:Array Nat).extract 0 0⟩:Str) [⟨(#[c]:Array Nat).extract (Int.toNat 0) 1⟩]=true:=by decide +kernel
theorem JJ(hk:k∈([42,63,91,93]:List Nat)):M2 "re.Pattern.sub" (.f (.bi "_twin_re_1")) .lam (.f (.str ⟨#[k]⟩)) σ (.ok (.f (.str ⟨#[k]⟩)) σ):=fun c d av xv yv Q ra rx ry pp=>by
 apply bN ry;intro tk;obtain⟨a,T,n,pv,fv,hb,ho,hT,n1,n2⟩:=c.ok.twin;cases hb.symm.trans (show c.b.blt _=some av from ra);cases rx with|mk l ol e hl hc=>
 subst e;haveI ho:d.s.heap.get? a=some (vp pv fv T):=d.h.b ho n1;haveI hT:IsT d.s.heap T _ n:=d.h.b hT n2;haveI hl:d.s.TypeIs (.ref l) "function":=⟨ol,d.h.zf _ _ hl,hc⟩;haveI fin:∀h' tk t',d.s.toks<=tk->(∀c o,d.s.heap.get? c=some o->h'.get? c=some o)->Q (.str ⟨#[k]⟩ t') {d.s with heap:=h',toks:=tk}:=fun h' tk t' htk kp=>pp (d.keeps (s':={d.s with heap:=h',toks:=tk}) kp rfl rfl (Nat.lt_of_lt_of_le d.h.tk htk)) _ (Gh.Le.refl _) rfl;clear pp;haveI hf:=c.b;haveI hne:=fun c o h=>Nat.ne_of_lt (Heap.lt_size (h:=d.s.heap) (a:=c) (o:=o) h);generalize d.s=s at *;refine wpAny_call (codeAny_call_builtin s8.plain Cr (s8.check _ _ _ _ _ _ _ _ ⟨_,ho,rfl⟩ (Ke _ _ _) ?_));unfold Builtin.«re.Pattern.sub» Builtin.Re.reSubstitute;dsimp only;rw[GL];refine wpAny_bind (wpAny_pure (wpAny_bind (wpAny_pure (wpAny_bind (wpAny_specialOf hl BW ?_)))));dsimp only[Option.isSome];rw[if_pos rfl];refine wpAny_bind (wpAny_pure ?_);rw[if_pos rfl];refine wpAny_bind (wpAny_pure (wpAny_bind (wpAny_holding (xY ho hT fun t u_ u_ u_ u_ u_=>?_))));rw[if_pos (by rfl)];refine wpAny_bind (m:=Builtin.Re.reNotHeld _ _) (wpAny_bind (wpAny_isInstance (T:="str") (typeIs_str _ _ _) DV ?_));rw[if_neg (by decide)];refine wpAny_pure (wpAny_bind (m:=newList []) (wpAny_newObj_type ?_ (by size_fits)));refine wpAny_pure ⟨C4,codeAny_builtin HU ?_⟩;unfold Builtin.«re.Pattern.sub.loop»;dsimp only;haveI k1:∀c o,s.heap.get? c=some o->(s.heap.push {cls:=.type "list",data:=.seq ([]:List Value).toArray}).get? c=some o:=fun c o h=>Heap.get?_push_of_some _ h;refine wpAny_bind (xY (k1 _ _ ho) (k1 _ _ hT) fun t h1 h2 h3 h4 h5=>?_);rw[if_neg (by decide)];dsimp only;refine wpAny_bind ?_;rw[if_neg (by decide)];refine Kc hk h1 h2 h3 h4 ?_;dsimp only;rw[h2,h4,h5];rw[if_pos (by decide)];refine wpAny_bind (m:=Builtin.Re.reSlice _ _ _ _) ?_;unfold Builtin.Re.reSlice;rw[if_pos (by decide)];refine wpAny_mkStr ?_ (by show 1<=sizeLine;decide +kernel);obtain⟨j1,j2⟩:=GK k hk;refine wpAny_bind (wpAny_updateSeq (o:={cls:=.type "list",data:=.seq ([]:List Value).toArray}) (Heap.get?_push_size _ rfl) rfl ?_);haveI hI2:=Heap.get?_update_self (h:=s.heap.push {cls:=.type "list",data:=.seq ([]:List Value).toArray}) (a:=s.heap.objs.size) (o:={cls:=.type "list",data:=.seq ([]:List Value).toArray}) (Obj.mapSeq fun x=>x.push (Value.str {cps:=(#[k]:Array Nat).extract (Int.toNat 0) 1} s.toks)) (Heap.get?_push_size _ rfl) rfl;refine wpAny_bind ?_;rw[if_pos (by decide)];refine wpAny_mkStr ?_ (by show 0<=sizeLine;exact Nat.zero_le _);refine wpAny_bind (m:=seqItems? _) (wpAny_seqItems hI2 rfl ?_);rw[if_neg (by simp)];haveI kp:∀c' o,s.heap.get? c'=some o->((s.heap.push {cls:=.type "list",data:=.seq ([]:List Value).toArray}).update s.heap.objs.size (Obj.mapSeq fun x=>x.push (Value.str {cps:=(#[k]:Array Nat).extract (Int.toNat 0) 1} s.toks))).get? c'=some o:=fun c' o h=>by rw[Heap.get?_update_other _ _ (Ne.symm (hne c' o h))];exact Heap.get?_push_of_some _ h
 refine wpAny_bind (Kv ⟨_,_,rfl⟩ hI2 j2 fun t' kk hkk=>?_);rw[if_neg (by decide),j1];exact wpAny_pure (fin _ kk t' (Nat.le_trans (Nat.le_add_right _ 2) hkk) kp)
theorem yL:l.map F.str++[F.str u]=(l++[u]).map F.str:=by rw[List.map_append];rfl
noncomputable def fo(M:Model)(h:Heap)(f:Value):Prop:=∃k,(k=Keeper.frame\/k=Keeper.machine\/k=Keeper.boundFrame)/\Looks M h (keeperOf f) k
theorem fQ
  (h:wpAny M A (evalArgs f true args []) (fun a ap=>fo M ap.heap f/\wpAny M A (call f (first++a.pos) a.kw) Q E ap) E s):wpAny M A (callWith pos f first args []) Q E s:=by
 cases ha:args.any (·.1)with
|true=>exact ks_call (P:=fun h=>fo M h f) ha (fun h x=>x) h
|false=>exact callWith_of (P:=fun h=>fo M h f) (by rw[ha];rfl) (fun h x=>x) h
theorem fV{id:String}:fo M h (.builtin id):=⟨.machine,.inr (.inl rfl),.now⟩
theorem kI:fo M h (.type T):=⟨.machine,.inr (.inl rfl),.now⟩
theorem qz(ho:h.get? a=some o)(hd:o.data=.func fd):fo M h (.ref a):=by refine⟨.frame,.inl rfl,fun A Q E s k q=>?_⟩;unfold keeperOf;refine wpAny_bind (wpAny_load (k _ _ ho) ?_);rw[hd];exact wpAny_pure q
theorem sb(hne:∀x,T≠[(true,x)])(conv:wpAny M A (spliced T) (fun vs s'=>Q ⟨vs,[]⟩ s') E s):wpAny M A (evalArgs f true T []) Q E s:=by
 haveI gen:∀T',wpAny M A (spliced T') (fun vs s'=>Q ⟨vs,[]⟩ s') E s->wpAny M A (spliced T' >>= fun pos=>holding pos (do pure ⟨pos,<-pure []⟩)) Q E s:=fun T' conv=>
  wpAny_bind (wpAny_mono conv (fun vs s' h'=>wpAny_holding (wpAny_bind (wpAny_pure (wpAny_pure h')))) fun u_ u_ x=>x)
 match T with
|[]=> unfold evalArgs;show wpAny _ A (spliced [] >>= _) Q E s;exact wpAny_bind (wpAny_mono conv (fun vs s' h'=>wpAny_holding (wpAny_bind (wpAny_pure (wpAny_bind (wpAny_pure (wpAny_pure h')))))) fun u_ u_ x=>x)
|(false,x)::r=>exact Calls.evalArgs_plain conv
|(true,x)::y::r=> unfold evalArgs;show wpAny _ A (spliced ((true,x)::y::r) >>= _) Q E s;exact wpAny_bind (wpAny_mono conv (fun vs s' h'=>wpAny_holding (wpAny_bind (wpAny_pure (wpAny_bind (wpAny_pure (wpAny_pure h')))))) fun u_ u_ x=>x)
|[(true,x)]=>exact(hne x rfl).elim
noncomputable def ka:List Expr->Bool
|[x]=>!bx x
|_=>true
theorem Ee:∀{es:List Expr},(backTo pos (starEach es env)).length=es.length:=fun{es}=>by
 unfold backTo;rw[List.length_map]
 induction es with
|nil=>rfl
|cons x r ih=>cases x<;>exact congrArg (·+1) ih
theorem Ju(h:ka es=true):∀x,backTo pos (starEach es env)≠[(true,x)]:=fun x q=>by
 have l:=(Ee (pos:=pos) (env:=env) (es:=es)).symm.trans (congrArg List.length q)
 match es,l with
|[y],_=>
  have:bx y=false:=Bool.eq_false_iff.mpr fun z=>by have h:(!bx y)=true:=h;rw[z]at h;cases h
  rw[gb this]at q;cases q
noncomputable def g6:List Expr->Bool
|[]=>true
|x::r=>match bx x with
 |true=>false
 |false=>g6 r
theorem kJ:∀{args:List Expr},g6 args=true->(backTo pos (starEach args env)).any (·.1)=false:=by
 intro args
 induction args with
|nil=> intro _;exact rfl
|cons x r ih=>
  intro h;haveI h:(match bx x with|true=>false|false=>g6 r)=true:=h;cases hx:bx x with
 |true=>rw[hx]at h;cases h
 |false=> rw[hx]at h;rw[gb hx];exact ih h
theorem Hk(h:g6 args=true):ka args=true:=match args,h with
|[],_=>rfl
|[x],h=>by
  haveI h:(match bx x with|true=>false|false=>true)=true:=h;show(!bx x)=true;cases hx:bx x with
 |true=>rw[hx]at h;cases h
 |false=>rfl
|_::_::_,_=>rfl
theorem oQ(hb:attributeBase o m env (eval o env)=eval o env)(hl:(apos.endLine==pos.line)=true)(hn:args.length < 25)
  (h:wpAny M A (eval o env) (fun ov ap=>wpAny M A (if(backTo pos (starEach args env)).any (·.1)then(do pure (<- getAttr ov m true,[]))else getMethod ov m (do return (<- importBound o env).getD true)) (fun fx s₂=>
   wpAny M A (callWith pos fx.1 fx.2 (backTo pos (starEach args env)) []) Q E s₂) E ap) E s):wpAny M A (eval (.Call (.Attribute o m apos) args [] pos) env) Q E s:=by
 rw[arm_eval_Call,hb];refine wpAny_bind (wpAny_mono h (fun ov ap bk=>wpAny_bind (wpAny_standAt ?_)) fun u_ u_ x=>x);show wpAny M A (methodCall o m apos pos env ov (args.length+0) (backTo pos (starEach args env)) []) Q E ap;generalize backTo pos (starEach args env)=T at bk ⊢;unfold methodCall calleeOf methodCallPos;cases hs:T.any (·.1)with
|true=>
  haveI hf:methodCallForm (args.length+0) T []=false:=by
   unfold methodCallForm;rw[show T.all (fun x=>!x.1)=false from by rw[List.any_eq_true]at hs;obtain⟨x,m,q⟩:=hs;exact List.all_eq_false.mpr ⟨x,m,by rw[q];decide⟩]
   rfl
  rw[hs,if_pos rfl]at bk;rw[hf];exact wpAny_bind (wpAny_holding (wpAny_ite_false (decide_eq_false Bool.false_ne_true) (wpAny_mono bk (fun fx s₂ aY=>wpAny_bind (wpAny_ite_true rfl (wpAny_pure aY))) fun u_ u_ x=>x)))
|false=>
  haveI hf:methodCallForm (args.length+0) T []=true:=by
   unfold methodCallForm;rw[show T.all (fun x=>!x.1)=true from by rw[List.all_eq_true];intro x m;rw[List.any_eq_false]at hs;simpa using hs x m]
   simp;lia
  rw[hs,if_neg Bool.false_ne_true]at bk;rw[hf];exact wpAny_bind (wpAny_holding (wpAny_ite_true rfl (wpAny_mono bk (fun fx s₂ aY=>wpAny_bind (wpAny_ite_true (decide_eq_true (show(!true||apos.endLine==pos.line)=true from hl)) (wpAny_pure aY))) fun u_ u_ x=>x)))
noncomputable abbrev xc:aN->Gh->List V->Args->Prop:=fun b g vs a=>a.kw=[]/\aX b g vs a.pos
noncomputable def sj(e:Ev)(n:Nat)(es:List Expr)(σ:Sx)(r:aG (List V)):Prop:=∀(c:Fr),In c e n->∀(d:Dy c σ)(f:Value)(pos:Pos)(Q:Args->Shared->Prop),aB d xc r Q->Wp c (evalArgs f true (backTo pos (starEach es c.env)) []) Q d.s
theorem aB.kw(p:aB d xc r Q):aB d aX r fun vs s=>Q ⟨vs,[]⟩ s:=by
 cases r with
|ok v s=>exact fun d' val x r=>p d' ⟨val,[]⟩ x ⟨rfl,r⟩
|exc x s=>exact p
|bad=>exact p
theorem sE(h:ka es=true)(hx:cP e n es σ r):sj e n es σ r:=fun c i d f pos Q p=>sb (Ju h) (hx c i d pos _ p.kw)
noncomputable def ln(e:Ev)(n:Nat)(v:V)(m:Str)(args:List Expr)(σ:Sx)(r:aG V):Prop:=∀(c:Fr),In c e n->∀(d:Dy c σ)(av:Value)(pos:Pos)(pl:Sem Bool)(Q:Value->Shared->Prop),VD d v av->aB d VV r Q ->
 Wp c (if(backTo pos (starEach args c.env)).any (·.1)then(do pure (<- getAttr av m true,[]))else getMethod av m pl) (fun fx s₂=>Wp c (callWith pos fx.1 fx.2 (backTo pos (starEach args c.env)) []) Q s₂) d.s
theorem CR{l:List α}{f:α×β->γ->Sem (ForInStep γ)}(h:r=[]):forIn (l.zip r) init f=(pure init:Sem γ):=by rw[h,List.zip_nil_right];rfl
theorem ym:∀{ns:List Str}{vs:List Value},ns.length<=vs.length->∀n∈ns,((ns.zip vs).lookup n).isNone=false:=@fun a b c d e=>match a,b,c,d,e with
|x::ns,v::vs,h,n,m=>by
  show(match n==x with|true=>some v|false=>(ns.zip vs).lookup n).isNone=false;cases q:n==x with
 |true=>rfl
 |false=>exact ym (Nat.le_of_succ_le_succ h) n ((List.mem_cons.mp m).resolve_left fun z=>by rw[z,beq_self_eq_true]at q;cases q)
|x::ns,[],h,_,_=>(Nat.not_succ_le_zero _ h).elim
theorem wc:∀{ns:List Str}{vs:List Value}{f:Str->Option Value},(∀n v,(n,v)∈ns.zip vs->f n=some v)->ns.length<=vs.length->(ns.filterMap fun n=>(f n).map (n,·))=ns.zip vs:=@fun a b c d e=>match a,b,c,d,e with
|[],_,_,_,_=>rfl
|x::ns,v::vs,f,h,l=>by rw[List.filterMap_cons,h x v (.head _)];exact congrArg ((x,v)::·) (wc (fun n v m=>h n v (.tail _ m)) (Nat.le_of_succ_le_succ l))
|x::ns,[],_,_,h=>(Nat.not_succ_le_zero _ h).elim
theorem qv:∀{l:List (Str×α)},(l.map (·.1)).Nodup->(n,v)∈l->l.lookup n=some v:=@fun b c d=>match b,c,d with
|(x,a)::r,nd,m=>by
  show(match n==x with|true=>some a|false=>r.lookup n)=some v;rcases List.mem_cons.mp m with m|m
  ·cases(m);rw[beq_self_eq_true]
  ·have:(n==x)=false:=beq_eq_false_iff_ne.mpr fun q=>(List.nodup_cons.mp nd).1 (q▸List.mem_map.mpr ⟨_,m,rfl⟩);rw[this];exact qv (List.nodup_cons.mp nd).2 m
theorem yV:∀{ns:List Str}{vs:List Value},ns.length<=vs.length->(ns.zip vs).map (·.1)=ns:=@fun a b c=>match a,b,c with
|[],_,_=>rfl
|x::ns,v::vs,h=>congrArg (x::·) (yV (Nat.le_of_succ_le_succ h))
|x::ns,[],h=>(Nat.not_succ_le_zero _ h).elim
theorem nQ{args:List Arg}{vals:List Value}(hn:args.map (·.arg)=ns)(hp:fd.params=⟨[],args,va,[],kd,none,de⟩)(hd:fd.defaults=.none)(nd:ns.Nodup)(hl:ns.length<=vals.length)(hv:va=none->vals.length=ns.length):
  bindArgs fd ⟨vals,[]⟩=(match va with
  |none=>pure (ns.zip vals)
  |some a=>do let t<-newTuple (vals.drop ns.length);pure (ns.zip vals++[(a.arg,t)])):=by
 subst hn;have h1:(decide (vals.length > (args.map (·.arg)).length)&&va.isNone)=false:=by
  cases va with
 |none=>rw[hv rfl];exact Bool.and_eq_false_imp.mpr fun h=>absurd (of_decide_eq_true h) (Nat.lt_irrefl _)
 |some a=>exact Bool.and_false _
 have h2:∀k,(!(List.filter (fun n=>(((args.map (·.arg)).zip vals).lookup n).isNone) (List.take k (args.map (·.arg)))).isEmpty)=false:=fun k=>by rw[List.filter_eq_nil_iff.mpr fun n m=>by rw[ym hl n (List.mem_of_mem_take m)];decide];rfl
 have h3:((List.map (fun x:Arg=>x.arg) args++[]).filterMap fun n:Str=>((List.zip (List.map (fun x:Arg=>x.arg) args) vals).lookup n).map (n,·))=(args.map (·.arg)).zip vals:=by rw[List.append_nil];exact wc (fun n v m=>qv (by rw[yV hl];exact nd) m) hl
 obtain⟨f1,f2,f3,f4,f5,f6,f7,f8,f9⟩:=fd;cases hp;cases hd;refine Eq.trans (if_neg (ne_true_of_eq_false h1)) ?_;refine Eq.trans (if_neg (ne_true_of_eq_false (h2 _))) ?_;refine Eq.trans (congrArg (fun m=>Sem.bind m _) (CR List.drop_nil)) ?_;cases va with
|none=>exact congrArg Sem.pure h3
|some a=>exact congrArg (fun z=>Sem.bind (newTuple _) fun t=>Sem.pure (z++[(a.arg,t)])) h3
noncomputable def BR(b:aN)(g:Gh)(l:List (Str×V))(bs:List (Str×Value)):Prop:=match l with
|[]=>bs=[]
|(x,v)::l=>∃u r,bs=(x,u)::r/\VV b g v u/\BR b g l r
theorem BR.map:∀{l:List (Str×V)}{bs:List (Str×Value)},(∀p∈l,∀val,VV b g p.2 val->VV b g' p.2 val)->BR b g l bs->BR b g' l bs:=by
 intro l
 induction l with
|nil=> intro _ _ h;exact h
|cons p_ _ ih=> obtain⟨_,_⟩:=p_;intro _ f h;exact h.imp fun u h=>h.imp fun r h=>⟨h.1,f _ (.head _) u h.2.1,ih (fun p m=>f p (.tail _ m)) h.2.2⟩
theorem BR.names:∀{l:List (Str×V)}{bs:List (Str×Value)},BR b g l bs->bs.map (·.1)=l.map (·.1):=by
 intro l
 induction l with
|nil=> intro _ h;cases(show _=[]from h);rfl
|cons p_ _ ih=> obtain⟨x,_⟩:=p_;intro _ h;obtain⟨u,r,rfl,_,h⟩:=h;exact congrArg (x::·) (ih h)
theorem BR.snoc(hv:VV b g v u):∀{l:List (Str×V)}{bs:List (Str×Value)},BR b g l bs->BR b g (l++[(x,v)]) (bs++[(x,u)]):=by
 intro l
 induction l with
|nil=> intro _ h;cases(show _=[]from h);exact⟨u,[],rfl,hv,rfl⟩
|cons p_ _ ih=> obtain⟨_,_⟩:=p_;intro _ h;obtain⟨w,r,rfl,a,h⟩:=h;exact⟨w,_,rfl,a,ih h⟩
theorem BR.at:∀{l:List (Str×V)}{bs:List (Str×Value)},BR b g l bs->ad l n=some v->∃u,(n,u)∈bs/\VV b g v u:=by
 intro l
 induction l with
|nil=> intro _ _ h;cases h
|cons p_ _ ih=>
  obtain⟨x,w⟩:=p_;intro _ H h;obtain⟨u,r,rfl,a,H⟩:=H;rw[i9]at h;cases q:ah n x with
 |true=>rw[q]at h;cases h;cases bD.mp q;exact⟨u,.head _,a⟩
 |false=>rw[q]at h;exact(ih H h).imp fun u h=>⟨.tail _ h.1,h.2⟩
theorem BR.zip:∀{ns:List Str}{vs:List V}{us:List Value},aX b g vs us->BR b g (ns.zip vs) (ns.zip us):=@fun c d e f=>match c,d,e,f with
|[],_,_,_=>(rfl:_=[])
|_::_,[],_,h=>by cases(show _=[]from h);exact(rfl:_=[])
|x::ns,v::vs,_,h=>by obtain⟨u,r,rfl,a,h⟩:=h;exact⟨u,ns.zip r,rfl,a,BR.zip h⟩
theorem aX.len:∀{vs:List V}{us:List Value},aX b g vs us->us.length=vs.length:=by
 intro vs
 induction vs with
|nil=> intro _ h;cases(show _=[]from h);rfl
|cons _ _ ih=> intro _ h;obtain⟨u,r,rfl,_,h⟩:=h;exact congrArg (·+1) (ih h)
theorem aX.drop:∀{vs:List V}{us:List Value}(k:Nat),aX b g vs us->aX b g (vs.drop k) (us.drop k):=@fun a c d e=>match a,c,d,e with
|_,_,0,h=>h
|[],_,_+1,h=>by cases(show _=[]from h);exact(rfl:_=[])
|_::_,_,k+1,h=>by obtain⟨u,r,rfl,_,h⟩:=h;exact aX.drop k h
section
variable{kindOf:Str->Option NameKind}{n:Str}{v:Value}
theorem Hg:∀{bs:List (Str×Value)}{m:Str->Option Value},n∉bs.map (·.1)->bindL kindOf bs m n=m n:=by
 intro bs
 induction bs with
|nil=> intro _ _;exact rfl
|cons p_ r ih=>
  obtain⟨x,u⟩:=p_;intro m hn;unfold bindL;rw[ih fun z=>hn (.tail _ z)]
  split
  ·exact if_neg fun z:n=x=>hn (z▸.head _)
  ·rfl
theorem JN:∀{bs:List (Str×Value)}{m:Str->Option Value},n∉bs.map (·.1)->bindC kindOf bs m n=m n:=by
 intro bs
 induction bs with
|nil=> intro _ _;exact rfl
|cons p_ r ih=>
  obtain⟨x,u⟩:=p_;intro m hn;unfold bindC;rw[ih fun z=>hn (.tail _ z)]
  split
  ·rfl
  ·exact if_neg fun z:n=x=>hn (z▸.head _)
theorem vt(hk:kindOf n=some .local):∀{bs:List (Str×Value)}{m:Str->Option Value},(bs.map (·.1)).Nodup->(n,v)∈bs->bindL kindOf bs m n=some v:=@fun a b c d=>match a,b,c,d with
|(x,u)::r,m,nd,h=>by
  unfold bindL;rcases List.mem_cons.mp h with h|h
  ·cases(h);rw[Hg (List.nodup_cons.mp nd).1,if_pos hk];exact if_pos rfl
  ·exact vt hk (List.nodup_cons.mp nd).2 h
theorem xI(hk:kindOf n≠some .local):∀{bs:List (Str×Value)}{m:Str->Option Value},(bs.map (·.1)).Nodup->(n,v)∈bs->bindC kindOf bs m n=some v:=@fun a b c d=>match a,b,c,d with
|(x,u)::r,m,nd,h=>by
  unfold bindC;rcases List.mem_cons.mp h with h|h
  ·cases(h);rw[JN (List.nodup_cons.mp nd).1,if_neg hk];exact if_pos rfl
  ·exact xI hk (List.nodup_cons.mp nd).2 h
end
noncomputable def qR(p:Str×NameKind):Bool:=!(p.1==("__debug__":Str))&&!(p.1==("__classdict__":Str))&&!(p.2==.globalExplicit)
noncomputable def nS(l:List (Str×NameKind)):Bool:=om (l.map (·.1))&&l.all qR
structure fq(l:List (Str×NameKind)):Prop where
 nd:(l.map (·.1)).Nodup
 k:∀x k,ad l x=some k->qR (x,k)=true
theorem lJ:∀{l:List Str},aO l x=true↔x∈l:=by
 intro l
 induction l with
|nil=> exact⟨fun h=>(by cases h),fun h=>(by cases h)⟩
|cons y r ih=>
  show(match ah x y with|true=>true|false=>aO r x)=true↔_;rw[List.mem_cons,<-bD];cases ah x y with
 |true=>exact⟨fun u_=>.inl rfl,fun u_=>rfl⟩
 |false=>exact⟨fun h=>.inr (ih.mp h),fun h=>ih.mpr (h.resolve_left fun z=>by cases z)⟩
theorem tc:∀{l:List Str},om l=true->l.Nodup:=by
 intro l
 induction l with
|nil=> intro _;exact .nil
|cons x r ih=>
  intro h;haveI h:(match aO r x with|true=>false|false=>om r)=true:=h;cases q:aO r x with
 |true=>rw[q]at h;cases h
 |false=>rw[q]at h;exact List.nodup_cons.mpr ⟨fun m=>(by rw[lJ.mpr m]at q;cases q),ih h⟩
theorem gA:∀{l:List (Str×α)},ad l x=some a->(x,a)∈l:=@fun c d=>match c,d with
|(y,b)::r,h=>by
  haveI h:(match ah x y with|true=>some b|false=>ad r x)=some a:=h;cases q:ah x y with
 |true=>rw[q]at h;cases h;cases bD.mp q;exact .head _
 |false=>rw[q]at h;exact .tail _ (gA h)
theorem i8:∀{l:List (Str×α)},l.lookup x=ad l x:=by
 intro l
 induction l with
|nil=> exact rfl
|cons p_ r ih=> obtain⟨y,a⟩:=p_;show(match x==y with|true=>some a|false=>r.lookup x)=(match ah x y with|true=>some a|false=>ad r x);rw[ih,show(x==y)=ah x y from by rw[Bool.eq_iff_iff,bD,beq_iff_eq]]
theorem rV(h:nS l=true):fq l:=have h:=(Bool.and_eq_true _ _).mp h;⟨tc h.1,fun x k q=>List.all_eq_true.mp h.2 _ (gA q)⟩
theorem rG(h:qR p=true):((p.1==("__debug__":Str))=false/\(p.1==("__classdict__":Str))=false)/\(p.2==.globalExplicit)=false:=by unfold qR at h;rw[Bool.and_eq_true,Bool.and_eq_true,Bool.not_eq_true',Bool.not_eq_true',Bool.not_eq_true']at h;exact h
theorem vA(h:(k==.globalExplicit)=false):ni (some k) k:=by
 cases k with
|free=>exact .inl rfl
|globalExplicit=>cases h
|_=>rfl
theorem fq.kinds{env:Env}(h:fq l)(he:env.scope.names=l):(∀n k,ad l n=some k->ni (env.kindOf n) k)/\∀n k,ad l n=some k->(n==("__debug__":Str))=false/\(n==("__classdict__":Str))=false:=
 ⟨fun n k q=>by rw[show env.kindOf n=some k from(congrArg (List.lookup n) he).trans (i8.trans q)];exact vA (rG (h.k n k q)).2,fun n k q=>(rG (h.k n k q)).1⟩
noncomputable def oB:ScopeKind->Bool
|.function=>true
|_=>false
theorem uh(h:oB k=true):k=.function:=by cases k<;>first|rfl|cases h
noncomputable def AF(p:Arguments):Bool:=p.posonlyargs.isEmpty&&p.kwonlyargs.isEmpty&&p.kwarg.isNone
theorem Ak(h:AF p=true):p=⟨[],p.args,p.vararg,[],p.kw_defaults,none,p.defaults⟩:=by obtain⟨a1,a2,a3,a4,a5,a6,a7⟩:=p;have h:=(Bool.and_eq_true _ _).mp h;have h1:=(Bool.and_eq_true _ _).mp h.1;cases List.isEmpty_iff.mp h1.1;cases List.isEmpty_iff.mp h1.2;cases Option.isNone_iff_eq_none.mp h.2;rfl
noncomputable def cV(p:Arguments):List Str:=p.args.map (·.arg)
noncomputable def jl(p:Arguments):List Str:=cV p++(match p.vararg with|some a=>[a.arg]|none=>[])
noncomputable def nr(names:List (Str×NameKind))(x:Str):Bool:=ad names x==some .local||ad names x==some .cell
theorem zX(h:nr names x=true):ad names x=some .local\/ad names x=some .cell:=((Bool.or_eq_true _ _).mp h).imp eq_of_beq eq_of_beq
noncomputable def tm(f:Fn):Bool:=[oB f.scope.kind,!f.scope.isCoroutine,!f.scope.isGenerator,AF f.params,nS f.scope.names,om (jl f.params),(jl f.params).all (nr f.scope.names)].all id
structure yX(f:Fn):Prop where
 fn:f.scope.kind=.function
 co:f.scope.isCoroutine=false
 gen:f.scope.isGenerator=false
 par:f.params=⟨[],f.params.args,f.params.vararg,[],f.params.kw_defaults,none,f.params.defaults⟩
 names:fq f.scope.names
 nd:(jl f.params).Nodup
 lc:∀x∈jl f.params,nr f.scope.names x=true
theorem HA(h:tm f=true):yX f:=
 have H:=fun b m=>List.all_eq_true.mp h b m
 ⟨uh (H _ (.head _)),(Bool.not_eq_true' _).mp (H _ (.tail _ (.head _))),(Bool.not_eq_true' _).mp (H _ (.tail _ (.tail _ (.head _)))),Ak (H _ (.tail _ (.tail _ (.tail _ (.head _))))),rV (H _ (.tail _ (.tail _ (.tail _ (.tail _ (.head _)))))),
  tc (H _ (.tail _ (.tail _ (.tail _ (.tail _ (.tail _ (.head _))))))),List.all_eq_true.mp (H _ (.tail _ (.tail _ (.tail _ (.tail _ (.tail _ (.tail _ (.head _))))))))⟩
noncomputable def fF(k:Nat):Bool:=Nat.beq k 15||Nat.beq k 16||Nat.beq k 17
theorem notCls(h:fF k=false):k≠15/\k≠16/\k≠17:=by haveI h:=Bool.or_eq_false_iff.mp h;haveI h1:=Bool.or_eq_false_iff.mp h.1;exact⟨Nat.ne_of_beq_eq_false h1.1,Nat.ne_of_beq_eq_false h1.2,Nat.ne_of_beq_eq_false h.2⟩
noncomputable def uJ(k:Nat):List (Str×Fn)->Bool
|[]=>true
|p::r=>(fF k||tm p.2)&&uJ (k+1) r
theorem EL:uJ 0 eU=true:=by decide +kernel
theorem wZ:∀{l:List (Str×Fn)}{j k:Nat},uJ j l=true->aq l k=some (nm,f)->fF (j+k)=false->tm f=true:=@fun a b d g i m=>match a,b,d,g,i,m with
|_::_,j,0,h,e,c=>by cases e;exact((Bool.or_eq_true _ _).mp ((Bool.and_eq_true _ _).mp h).1).resolve_left fun z=>by rw[show fF j=fF (j+0)from rfl,c]at z;cases z
|_::_,j,k+1,h,e,c=>wZ (j:=j+1) ((Bool.and_eq_true _ _).mp h).2 e (by rw[Nat.add_right_comm];exact c)
theorem xH(h:aq eU k=some (nm,f))(c:fF k=false):yX f:=HA (wZ EL h (by rw[Nat.zero_add];exact c))
theorem nI{α:Type}{a:α}:∀{l:List (Str×α)},l.lookup n=some a->(n,a)∈l:=fun h=>gA (i8.symm.trans h)
theorem sF:∀{l:List (Str×Addr)},(l.Pairwise fun x y=>x.2≠y.2)->(n,a)∈l->(n',a)∈l->n=n':=@fun b c d e=>match b,c,d,e with
|_::_,h,m,m'=>by
  haveI h:=List.pairwise_cons.mp h;rcases List.mem_cons.mp m with q|q<;>rcases List.mem_cons.mp m' with q'|q'
  ·cases q;cases q';rfl
  ·cases q;exact absurd rfl (h.1 (n',a) q')
  ·cases q';exact absurd rfl (h.1 (n,a) q)
  ·exact sF h.2 q q'
theorem yf:∀{l:List (Str×NameKind)}{k:Nat}{acc:List (Str×Addr)},n∉l.map (·.1)->ad (cellsFrom k l acc) n=ad acc n:=by
 intro l
 induction l with
|nil=> intro _ _ _;exact rfl
|cons p_ r ih=>
  obtain⟨x,kd⟩:=p_;intro k acc hn;unfold cellsFrom
  split
  ·rw[ih fun z=>hn (.tail _ z)];show(match ah n x with|true=>some k|false=>ad acc n)=ad acc n;rw[gQ fun z:n=x=>hn (z▸.head _)]
  ·exact ih fun z=>hn (.tail _ z)
theorem pX:∀{l:List (Str×NameKind)}{k:Nat}{acc:List (Str×Addr)},(l.map (·.1)).Nodup->ad l n=some .cell->∃c,ad (cellsFrom k l acc) n=some c:=@fun a b d e f=>match a,b,d,e,f with
|(x,kd)::r,k,acc,nd,h=>by
  haveI nd:=List.nodup_cons.mp nd;haveI h:(match ah n x with|true=>some kd|false=>ad r n)=some .cell:=h;unfold cellsFrom;cases q:ah n x with
 |true=> rw[q]at h;cases h;cases bD.mp q;rw[if_pos (show(NameKind.cell==NameKind.cell)=true from rfl),yf nd.1];exact⟨k,by show(match ah n n with|true=>some k|false=>ad acc n)=_;rw[bU]⟩
 |false=>
   rw[q]at h
   split<;>exact pX nd.2 h
noncomputable def fg(env:Env):aE->Option Addr
|.L=>some env.locals
|.cell n=>env.cells.lookup n
|_=>none
noncomputable abbrev oi(scope:Scope)(L:Addr)(qual:Str)(func:Option Addr)(code:Value):Env:=newEnv scope L mainGlobals (cellsFrom (L+1) scope.names []) qual func code none builtinsNs
section
variable{c:Fr}{σ au:Sx}{sh:Bool}{n:Nat}{env:Env}{e:Ev}
theorem ca.deeper(h:HC c g s)(r:db c σ.l g)(hn:n+1<=c.n)(hfr:env.frame=some env.locals)(fn:env.scope.kind=.function)(glo:env.globals=mainGlobals)(blt:env.builtins=builtinsNs)(ks:(∀n k,ad e.names n=some k->ni (env.kindOf n) k)/\∀n k,ad e.names n=some k->(n==("__debug__":Str))=false/\(n==("__classdict__":Str))=false)
  (code:ad e.free "<lambda>"=none->∃p∈c.b.tabs,env.code=.ref p.1):ca c.b (c.A.deeper env) env e (c.xs g sh) (env.locals::c.fs) n:=by
 haveI k:=c.k;obtain⟨fenv,outer,f1,f2,f3,f4⟩:=k.frames;refine⟨?_,?_,⟨env,fenv::outer,congrArg (Option.map _) f1,rfl,fun f m=>?_,?_⟩,fn,glo,blt,ks.1,ks.2,code,fun a m=>?_⟩
 ·haveI:=k.depth;show c.A.depth+1+3*n+3 < recursionLimit;lia
 ·haveI:=k.units;show c.A.units+3+20*n+20 < cLine;lia
 ·rcases List.mem_cons.mp m with rfl|m
  ·exact⟨by rw[fn];decide,by rw[hfr];rfl⟩
  ·exact f3 f m
 ·rw[List.filterMap_cons,hfr,f4]
 ·rcases List.mem_cons.mp m with rfl|m
  ·exact .inl rfl
  ·rcases k.frm a m with rfl|⟨o,es,ep,q,q2⟩
   ·obtain⟨m,r1,_⟩:=r.ns;cases r1 with|mk es ep z=>
    exact .inr ⟨_,es,ep,kS h id r.L,z⟩
   ·exact .inr ⟨o,es,ep,iD h q,q2⟩
theorem F1(h:ad l x=some .cell):(ad l x:Option NameKind)≠some .local:=by rw[h];decide
theorem HC.entered(h:HC c g s)(tb:∀a∈c.b.tabA,∃k,g.at_ (.tab k)=some a){code:Value}{A:Around}{fs:List Addr}(E:Value->Shared->Prop){k:ca c.b A env ⟨scope.names,[]⟩ (c.xs g sh) fs n}(hfs:∀a∈c.fs,a∈fs)(ok:fq scope.names)(R:BR c.b g l binds)(nl:(l.map (·.1)).Nodup)
  (ol:∀p∈l,seen sh p.2=true) (he:env=oi scope s.heap.objs.size qual func code) (ht:s.toks<=ap.toks) (x:InCallC s env.locals (bindL env.kindOf binds fun u_=>none) env.cells (bindC env.kindOf binds fun u_=>none) ap) :
  HC (c.sub A env ⟨scope.names,[]⟩ E (c.xs g sh) fs n k) (g.enter sh (fg env) ap.heap) ap/\db (c.sub A env ⟨scope.names,[]⟩ E (c.xs g sh) fs n k) l (g.enter sh (fg env) ap.heap)/\s.heap.get? env.locals=none:=by
 have ko:∀n,env.kindOf n=ad scope.names n:=fun n=>by rw[<- i8,he];rfl
 have hL:env.locals=s.heap.objs.size:=by rw[he];rfl
 haveI hcl:∀n,ad env.cells n=ad (cellsFrom (s.heap.objs.size+1) scope.names []) n:=fun n=>by rw[he];rfl
 clear he;obtain⟨h',tk,hs⟩:=x.toInCall.same;obtain⟨o,es,ep,ho,hd,hr1,hr2⟩:=x.toInCall.ns;have nL:s.heap.get? env.locals=none:=by rw[hL];exact Heap.get?_none_of_le (Nat.le_refl _)
 have nd:(binds.map (·.1)).Nodup:=by rw[R.names];exact nl
 have fresh:∀T a,fg env T=some a->s.heap.get? a=none/\∃o,ap.heap.get? a=some o:=fun T a q=>by
  cases T with
 |L=>cases q;exact⟨nL,o,ho⟩
 |cell n=> obtain⟨oc,hoc,_⟩:=x.cell n a q;exact⟨Heap.get?_none_of_le (Nat.le_trans (Nat.le_of_eq hL.symm) (Nat.le_of_lt (x.above n a (nI q)))),oc,hoc⟩
 |_=>cases q
 haveI inj:∀T T' a,fg env T=some a->fg env T'=some a->T=T':=fun T T' a q q'=>by
  cases T with
 |L=>cases q;cases T' with
  |L=>rfl
  |cell n=>exact absurd (x.above n _ (nI q')) (Nat.lt_irrefl _)
  |_=>cases q'
 |cell n=>cases T' with
  |L=>cases q';exact absurd (x.above n _ (nI q)) (Nat.lt_irrefl _)
  |cell n'=>rw[sF x.apart (nI q) (nI q')]
  |_=>cases q'
 |_=>cases q
 haveI nt:∀T a,fg env T=some a->a∉c.b.tabA:=fun T a q m=>by obtain⟨k,z⟩:=tb a m;have:=(fresh T a q).1;rw[h.at_ _ _ z]at this;cases this
 have R':BR c.b (g.enter sh (fg env) ap.heap) l binds:=R.map fun p m val=>VV.enter (ol p m);refine⟨HC.enter h x.toInCall.keep fresh inj hfs (by rw[hs]) (by rw[hs]) ht nt,⟨if_neg id,⟨_,⟨es,ep,?_,hr1,hr2⟩,fun n v h1 h2=>?_⟩,fun n h1=>?_,fun n v u_ h2=>by cases h2⟩,nL⟩
 ·exact(congrArg Obj.data ((if_neg id).trans (dR ho))).trans hd
 ·obtain⟨u,m,r⟩:=R'.at h2;exact⟨u,vt ((ko n).trans h1) nd m,r⟩
 ·obtain⟨a,ha⟩:=pX (k:=s.heap.objs.size+1) (acc:=[]) ok.nd h1;have ha:env.cells.lookup n=some a:=by rw[i8,hcl];exact ha
  obtain⟨oc,hoc,hdc⟩:=x.cell n a ha;refine⟨a,_,ha,(if_neg id).trans ha,(congrArg Obj.data ((if_neg id).trans ((congrArg (dq ap.heap · _) ha).trans (dR hoc)))).trans hdc,fun v h2=>?_⟩;obtain⟨u,m,r⟩:=R'.at h2;exact⟨u,xI (by rw[ko n];exact F1 h1) nd m,r⟩
theorem yg(t:T.own i):fg env T=none:=by
 cases T with
|L=>exact t.elim
|cell n=>exact t.elim
|_=>rfl
theorem Dy.entered(d:Dy c σ){code:Value}(E:Value->Shared->Prop)(hn:n+1<=c.n)(hk:scope.kind=.function)(ok:fq scope.names)(R:BR c.b d.g l binds)(nl:(l.map (·.1)).Nodup)
  (ol:∀p∈l,seen sh p.2=true) (hcd:∃p∈c.b.tabs,code=.ref p.1) (he:env=oi scope d.s.heap.objs.size qual func code) (ht:d.s.toks<=ap.toks) (x:InCallC d.s env.locals (bindL env.kindOf binds fun u_=>none) env.cells (bindC env.kindOf binds fun u_=>none) ap) :
  ∃(k:ca c.b (c.A.deeper env) env ⟨scope.names,[]⟩ (c.xs d.g sh) (env.locals::c.fs) n)(ak:Dy (c.sub (c.A.deeper env) env ⟨scope.names,[]⟩ E (c.xs d.g sh) (env.locals::c.fs) n k) (σ.enter sh l)),ak.s=ap/\ak.g=d.g.enter sh (fg env) ap.heap/\d.s.heap.get? env.locals=none:=
 haveI k:ca c.b (c.A.deeper env) env ⟨scope.names,[]⟩ (c.xs d.g sh) (env.locals::c.fs) n:=ca.deeper d.h d.r.fr hn (by rw[he];rfl) (by rw[he];exact hk) (by rw[he];rfl) (by rw[he];rfl) (fq.kinds (env:=env) ok (by rw[he];rfl)) fun u_=>by rw[he];exact hcd
 haveI H:=d.h.entered d.r.tb (k:=k) E (fun a m=>.tail _ m) ok R nl ol he ht x
 ⟨k,⟨_,ap,H.1,aW.enter d.r (fun u_ u_=>yg) H.2.1⟩,rfl,rfl,H.2.2⟩
end
end
section
open PySem PySem.W PyProof.Rows PySem.SeqAt
open Classical
noncomputable def Gh.adopt(g:Gh)(S:Addr->Prop)(h:Heap):Gh:={g with z:={g.z with f:=fun a=>if S a then h.get? a else g.z.f a}}
section
variable{c:Fr}{σ au:Sx}{g g₂:Gh}{sh:Bool}{S:Addr->Prop}{h:Heap}
theorem qj(hS:∀a,S a->g.z.f a=none):g.Le (g.adopt S h):=⟨⟨fun a o e=>(if_neg fun q=>by rw[hS a q]at e;cases e).trans e,fun u_ u_ e=>e⟩,fun u_ u_=>.inl rfl,fun u_ u_ e=>e⟩
theorem HC.adopt(h:HC c g s)(hS:∀a,S a->g.z.f a=none/\(∀T,g.at_ T≠some a)/\c.X a=none):HC c (g.adopt S s.heap) s:=by
 haveI ns:∀a,¬S a->(g.adopt S s.heap).z.f a=g.z.f a:=fun a n=>if_neg n;refine⟨fun a o e=>?_,h.at_,h.inj,fun T a e=>(ns a fun q=>(hS a q).2.1 T e).trans (h.nz T a e),fun a o e=>⟨(ns a fun q=>by rw[(hS a q).2.2]at e;cases e).trans (h.xz a o e).1,(h.xz a o e).2⟩,h.xs,fun a o e m=>(ns a fun q=>by haveI:=h.base a o e m;rw[(hS a q).1]at this;cases this).trans (h.base a o e m),h.tabs,h.old,h.os,h.gens,h.tk⟩;by_cases q:S a
 ·exact(if_pos q).symm.trans e
 ·exact h.zf a o ((ns a q).symm.trans e)
theorem VV.leave(k:seen sh v=true)(r:VV b g₂ v val):VV b (g.leave g₂ sh h) v val:=match v,k,r with
|.f _,_,r=>r
|.p _,k,r=>by cases r with|mk a e q=>exact⟨a,e,(iE (kZ (rB k))).1.trans q⟩
|.bnd _,k,r=>by cases r with|mk a x e q t=>exact⟨a,x,e,(iE (T:=.p (.loc _)) k).1.trans q,t⟩
|.vals,_,r=>by cases r with|mk a x e q t=>exact⟨a,x,e,(iE (T:=.p .n2i) trivial).1.trans q,t⟩
|.dview _,_,r=>r
|.lam,_,r=>r
variable{A:Around}{env:Env}{e:Ev}{E:Value->Shared->Prop}{fs:List Addr}{n:Nat}{fa:aE->Option Addr}{k:ca c.b A env e (c.xs g sh) fs n}
theorem rY(h:HC c g s)(aY:HC (c.sub A env e E (c.xs g sh) fs n k) g₂ s₂)(nb:¬T.back sh)(e:g₂.at_ T=some a):(g.leave g₂ sh s₂.heap).z.f a=none/\(∀T,(g.leave g₂ sh s₂.heap).at_ T≠some a)/\c.X a=none:=by
 refine⟨aY.nz _ _ e,fun T' q=>?_,?_⟩
 ·by_cases w:T'.back sh
  ·exact nb (aY.inj _ _ _ e ((if_pos w).symm.trans q)▸w)
  ·exact(aY.xz a _ (kS h (fun y=>w (kZ y)) ((if_neg w).symm.trans q))).2 T e
 ·cases q:c.X a with
 |none=>rfl
 |some o=>exact absurd e ((aY.xz a o (iD h q)).2 T)
noncomputable def qa(o:Option AO):Option (List F):=o.bind fun
|.list xs=>some xs
|_=>none
theorem Du(h:qa o=some xs):o=some (.list xs):=by
 cases o with
|none=>cases h
|some a=>cases a with
 |list ys=>cases h;rfl
 |_=>cases h
noncomputable def lE(h:List AO):List (Str×Nat)->Option (List (Str×F))
|[]=>some []
|(k,j)::r=>(qa (aq h j)).bind fun xs=>(lE h r).map ((k,.list xs)::·)
inductive kb(sh:Bool)(σ:Sx):V->V->Prop
|same (v:V):seen sh v=true->kb sh σ v v
|list (i:Nat) (xs:List F):sh=false->aq σ.h i=some (.list xs)->kb sh σ (.p (.loc i)) (.f (.list xs))
|dict (i:Nat) (es:List (Str×F)):sh=false->aq σ.h i=some (.dict es)->kb sh σ (.p (.loc i)) (.f (.dict es))
|dl (i:Nat) (es:List (Str×Nat)) (fs:List (Str×F)):sh=false->aq σ.h i=some (.dl es)->lE σ.h es=some fs->kb sh σ (.p (.loc i)) (.f (.dict fs))
theorem DF(d:Dy c σ)(hz:d.g.z.Le z)(ho:∀j a,d.g.at_ (.p (.loc j))=some a->z.f a=some (d.g.ob (.p (.loc j)))){fs:List (Str×F)}(e:lE σ.h es=some fs)(h:fS d.g es kvs):DRs c.b z fs kvs:=by
 induction es generalizing fs kvs with
|nil=>cases e;exact h
|cons p es ih=>
  obtain⟨k,j⟩:=p;obtain⟨v,r,rfl,a,h⟩:=h;obtain⟨xs,hj,e⟩:=Option.bind_eq_some_iff.mp (show(qa (aq σ.h j)).bind _=_ from e);obtain⟨l,hl,e⟩:=Option.map_eq_some_iff.mp e;cases e;have L:=d.r.loc j;rw[Du hj]at L;cases(show cA c.b d.g (.loc j) xs from L)with|mk a' vs n k1 k2 k3=>
  cases a with|mk a'' q1 q2=>
  exact⟨v,r,rfl,⟨vs,⟨a'',n,q1,(ho j a'' q2).trans (congrArg some k2)⟩,FRs.mono hz k3⟩,ih hl h⟩
theorem Dy.left(d:Dy c σ){k:ca c.b A env e (c.xs d.g sh) fs n}(am:Dy (c.sub A env e E (c.xs d.g sh) fs n k) au)(hs:∀a∈fs,a∈c.fs\/d.s.heap.get? a=none)(le:(d.g.enter sh fa h).Le am.g):
  ∃d':Dy c (σ.leave sh au),d'.s=am.s/\Le d d'/\d'.g=d.g.leave am.g sh am.s.heap:=
 haveI R:=aW.leave d.h d.r am.h am.r hs le.z (fun p a kp q=>le.p p a ((fm kp).1.trans q)) fun a q=>(fm (g:=d.g) (fa:=fa) (h:=h) (sh:=sh) (T:=.p .n2i) trivial).2▸le.n a ((fm (T:=.p .n2i) trivial).1.trans q)
 ⟨⟨_,am.s,HC.leave d.h am.h hs,R.1⟩,rfl,R.2,rfl⟩
theorem Dy.handed(d:Dy c σ){k:ca c.b A env e (c.xs d.g sh) fs n}(am:Dy (c.sub A env e E (c.xs d.g sh) fs n k) au)(hs:∀a∈fs,a∈c.fs\/d.s.heap.get? a=none)(le:(d.g.enter sh fa h).Le am.g)(ho:kb sh au v w)(r:VD am v val):
  ∃d':Dy c (σ.leave sh au),d'.s=am.s/\Le d d'/\VD d' w val:=by
 obtain⟨d',e1,e2,e3⟩:=d.left am hs le;have key:sh=false->∃d'':Dy c (σ.leave sh au),d''.s=am.s/\Le d d''/\am.g.z.Le d''.g.z/\∀T a,¬T.back sh->am.g.at_ T=some a->d''.g.z.f a=some (am.g.ob T):=fun hsh=>by
  have hS:∀a,(∃T:aE,¬T.back sh/\am.g.at_ T=some a)->d'.g.z.f a=none/\(∀T,d'.g.at_ T≠some a)/\c.X a=none:=fun a q=>by obtain⟨T,t,q⟩:=q;rw[e3];exact rY d.h am.h t q
  have le1:=qj (h:=d'.s.heap) fun a q=>(hS a q).1;refine⟨⟨_,d'.s,d'.h.adopt hS,d'.r.frz le1 (fun u_=>⟨rfl,rfl⟩) rfl⟩,e1,e2.trans le1,(show am.g.z.Le d'.g.z from by rw[e3];exact .refl _).trans le1.z,fun T a t q=>?_⟩;exact(if_pos ⟨T,t,q⟩).trans (by rw[e1];exact am.h.at_ _ _ q)
 cases ho with
|same _ kk=>exact⟨d',e1,e2,by unfold VD;rw[e3];exact VV.leave kk r⟩
|list i xs hsh hi=>
  obtain⟨d'',f1,f2,f3,f4⟩:=key hsh;cases r with|mk a q1 q2=>
  have L:=am.r.loc i;rw[hi]at L;cases(show cA _ _ (.loc i) xs from L)with|mk a' vs m k1 k2 k3=>
  exact⟨d'',f1,f2,vs,⟨a,m,q1,(f4 (.p (.loc i)) a (ji (i:=i) rfl hsh) q2).trans (congrArg some k2)⟩,FRs.mono f3 k3⟩
|dict i es hsh hi=>
  obtain⟨d'',f1,f2,f3,f4⟩:=key hsh;cases r with|mk a q1 q2=>
  have L:=am.r.loc i;rw[hi]at L;cases(show iQ _ _ (.loc i) es from L)with|mk a' kvs k1 k2 k3=>
  exact⟨d'',f1,f2,kvs,⟨a,_,q1,am.h.sys q2 (fun u_ z=>by cases z),f4 (.p (.loc i)) a (ji (i:=i) rfl hsh) q2,k2⟩,DRs.mono f3 k3⟩
|dl i es fs hsh hi hf=>
  obtain⟨d'',f1,f2,f3,f4⟩:=key hsh;cases r with|mk a q1 q2=>
  have L:=am.r.loc i;rw[hi]at L;cases(show ke _ _ i es from L)with|mk a' kvs k1 k2 k3=>
  exact⟨d'',f1,f2,kvs,⟨a,_,q1,am.h.sys q2 (fun u_ z=>by cases z),f4 (.p (.loc i)) a (ji (i:=i) rfl hsh) q2,k2⟩,DF am f3 (fun j a q=>f4 (.p (.loc j)) a (ji (i:=j) rfl hsh) q) hf k3⟩
theorem Dy.take(d:Dy c σ)(f:d.g.z.f a=none/\(∀T,d.g.at_ T≠some a)/\c.X a=none)(ho:d.s.heap.get? a=some o)(k:∀g':Gh,d.g.z.Le g'.z->g'.at_ (.p (.loc σ.h.length))=some a->g'.ob (.p (.loc σ.h.length))=o->OR c.b g' σ.h.length (some ao)):
  ∃d':Dy c {σ with h:=σ.h++[ao]},d'.s=d.s/\Le d d'/\VD d' (.p (.loc σ.h.length)) (.ref a):=by
 haveI R:=d.r.new (a:=a) (o:=o) (k _ (.refl _) Gh.at_same Gh.ob_same);exact⟨⟨_,d.s,d.h.place ho f fun m=>let ⟨k,q⟩:=d.r.tb a m;f.2.1 _ q,R.1⟩,rfl,R.2,⟨a,rfl,Gh.at_same⟩⟩
theorem Dy.handedO(hsh:sh=false)(d:Dy c σ){k:ca c.b A env e (c.xs d.g sh) fs n}(am:Dy (c.sub A env e E (c.xs d.g sh) fs n k) au)(hs:∀a∈fs,a∈c.fs\/d.s.heap.get? a=none)(le:(d.g.enter sh fa h).Le am.g)(hi:aq au.h i=some (.list xs))(r:VD am (.p (.loc i)) val):
  ∃d':Dy c {σ.leave sh au with h:=σ.h++[.list xs]},d'.s=am.s/\Le d d'/\VD d' (.p (.loc σ.h.length)) val:=by
 subst hsh;obtain⟨d',e1,e2,e3⟩:=d.left am hs le;cases r with|mk a q1 q2=>
 haveI L:=am.r.loc i;rw[hi]at L;cases(show cA _ _ (.loc i) xs from L)with|mk a' vs m k1 k2 k3=>
 haveI z:am.g.z.Le d'.g.z:=by rw[e3];exact .refl _
 obtain⟨d'',f1,f2,f3⟩:=d'.take (a:=a) (ao:=.list xs) (by rw[e3];exact rY d.h am.h (ji (T:=.p (.loc i)) rfl rfl) q2) (by rw[e1];exact am.h.at_ _ _ q2) fun g' hz h1 h2=>(.mk a vs m h1 (h2.trans k2) (FRs.mono (z.trans hz) k3):cA c.b g' (.loc σ.h.length) xs);exact⟨d'',f1.trans e1,e2.trans f2,q1▸f3⟩
end
end
section
open PySem PySem.W PyProof.Rows PySem.SeqAt
set_option tactic.hygienic true in
noncomputable def e6(b:aN)(g:Gh)(fl:Fl)(f:Flow):Prop:=match fl with
|.next=>f=.next
|.brk=>f=.brk
|.cont=>f=.cont
|.ret v=>∃val,f=.ret val/\VV b g v val
noncomputable def fU(c:Fr):Prop:=∃outer,c.A.frames=some (c.env::outer)
noncomputable def SB(e:Ev)(n:Nat)(body:List Stmt)(σ:Sx)(r:aG Fl):Prop:=∀(c:Fr),In c e n->fU c->∀(d:Dy c σ)(Q:Flow->Shared->Prop),aB d e6 r Q->Wp c (execs body c.env) Q d.s
noncomputable def RR(Q:Value->Shared->Prop)(E:Value->Shared->Prop)(r:Result)(s:Shared):Prop:=match r with
|.ok (.ret v)=>Q v s
|.ok _=>False
|.error e=>E e s
noncomputable def bo(n k:Nat)(vs:List V)(σ:Sx)(r:aG V):Prop:=∀(c:Fr),c.A.handled=none->n<=c.n->∀(d:Dy c σ)(us:List Value)(Q:Value->Shared->Prop),aX c.b d.g vs us->aB d VV r Q->codeAny c.b.M c.A (.call (.ref (c.b.fa k)) ⟨us,[]⟩) (RR Q c.E) d.s
inductive bd(p:Arguments)(vs:List V):List (Str×V)->Prop
|plain:p.vararg=none->Nat.beq vs.length (cV p).length=true->bd p vs ((cV p).zip vs)
|star (a:Arg) (xs:List F):p.vararg=some a->Nat.ble (cV p).length vs.length=true->jR (vs.drop (cV p).length)=some xs->Nat.ble xs.length aw=true->bd p vs ((cV p).zip vs++[(a.arg,.f (.tup xs))])
set_option tactic.hygienic true in
noncomputable def sv(fl:Fl):Option V:=match fl with
|.ret v=>some v
|.next=>some (.f .none)
|_=>none
inductive dC(sh:Bool)(σ:Sx):aG Fl->aG V->Prop
|bad (r:aG Fl):dC sh σ r .bad
|exc (x:X) (au:Sx):dC sh σ (.exc x au) (.exc x (σ.leave sh au))
|hand (fl:Fl) (au:Sx) (v w:V):sv fl=some v->kb sh au v w->dC sh σ (.ok fl au) (.ok w (σ.leave sh au))
|own (fl:Fl) (au:Sx) (i:Nat) (xs:List F):sv fl=some (.p (.loc i))->sh=false->aq au.h i=some (.list xs)->dC sh σ (.ok fl au) (.ok (.p (.loc σ.h.length)) {σ.leave sh au with h:=σ.h++[.list xs]})
noncomputable def GD:Flow->Value
|.ret v=>v
|_=>.none
set_option tactic.hygienic true in
theorem yz(hv:sv fl=some v)(r:e6 b g fl f):VV b g v (GD f):=by
 cases fl with
|ret u=>cases hv;obtain⟨val,rfl,h⟩:=r;exact h
|next=>cases hv;cases(show f=.next from r);exact rfl
|_=>cases hv
theorem HC.limit(h:HC c g s):s.heap.NoLimit:=c.ok.nolimit.imp fun u_ q=>⟨h.bns q.1,q.2⟩
theorem bI.leave{g g₂:Gh}(e:bI b fr g₂ x a):bI b fr (g.leave g₂ sh h) x a:=by
 cases e with|mk vs e1 e2 e3 e4 e5=>
 have q:=fun k=>iE (g:=g) (g₂:=g₂) (sh:=sh) (h:=h) (T:=.exc k) trivial;refine .mk vs ((q 0).1.trans e1) ((congrArg Obj.cls (q 0).2).trans e2) ((congrArg Obj.data (q 0).2).trans e3) e4 ?_;rcases e5 with⟨h1,h2⟩|⟨T,ts,fl,h1,h2,h3,h4⟩
 ·exact .inl ⟨h1,(q 1).1.trans h2⟩
 ·exact .inr ⟨T,ts,fl,h1,(q 1).1.trans h2,(congrArg Obj.data (q 1).2).trans h3,h4⟩
theorem bd.names(h:bd p vs l):l.map (·.1)=jl p/\∀q∈l,vs.all (seen sh)=true->seen sh q.2=true:=by
 have zn:∀{ns:List Str}{vs:List V},ns.length<=vs.length->(ns.zip vs).map (·.1)=ns/\∀q∈ns.zip vs,vs.all (seen sh)=true->seen sh q.2=true:=fun{ns vs}hl=>
  ⟨by rw[<- List.unzip_fst,List.unzip_zip_left hl],fun q m a=>List.all_eq_true.mp a _ (List.of_mem_zip m).2⟩
 cases h with
|plain h1 h2=> have z:=zn (ns:=cV p) (vs:=vs) (Nat.le_of_eq (Nat.eq_of_beq_eq_true h2).symm);exact⟨by rw[z.1];unfold jl;rw[h1,List.append_nil],z.2⟩
|star a xs h1 h2 h3 h4=>
  have z:=zn (ns:=cV p) (vs:=vs) (Nat.le_of_ble_eq_true h2);refine⟨by rw[List.map_append,z.1];unfold jl;rw[h1];rfl,fun q m s=>?_⟩;rcases List.mem_append.mp m with m|m
  ·exact z.2 q m s
  ·cases List.mem_singleton.mp m;rfl
theorem bd.run(h:bd p vs l)(pk:∃kd de,p=⟨[],p.args,p.vararg,[],kd,none,de⟩)(nd:(jl p).Nodup)(hp:fd.params=p)(hd:fd.defaults=.none)(d:Dy c σ)(r:aX c.b d.g vs us)
  (hQ:∀(d':Dy c σ)bs,Le d d'->BR c.b d'.g l bs->(p.vararg=none->bs=(cV p).zip us)->Q bs d'.s):wpAny c.b.M A (bindArgs fd ⟨us,[]⟩) Q E d.s:=by
 obtain⟨kd,de,pk⟩:=pk;have e0:=aX.len r;have n1:(cV p).Nodup:=(List.nodup_append.mp nd).1;cases h with
|plain h1 h2=> have h2:=Nat.eq_of_beq_eq_true h2;rw[nQ (va:=none) rfl (by rw[hp,pk,h1]) hd n1 (Nat.le_of_eq (e0.trans h2).symm) fun u_=>e0.trans h2];exact wpAny_pure (hQ d _ (Le.refl d) (BR.zip r) fun u_=>rfl)
|star a xs h1 h2 h3 h4=> have h2:=Nat.le_of_ble_eq_true h2;rw[nQ (va:=some a) rfl (by rw[hp,pk,h1]) hd n1 (by rw[e0];exact h2) fun z=>by cases z];have f:=aX.frs h3 (aX.drop (cV p).length r);refine wpAny_bind (wpAny_newTuple (wpAny_pure ?_) (Nat.le_trans (Nat.le_of_eq (FRs.length f)) (fits h4)));have le:=Gh.fz_le (o:=iN (us.drop (cV p).length) 0) (d.h.fresh (Heap.get?_none_of_le (h:=d.s.heap) (Nat.le_refl _))).1;exact hQ (d.push _ rfl) _ le (BR.snoc (v:=.f (.tup xs)) ⟨_,⟨_,0,rfl,Z.add_same⟩,FRs.mono le.z f⟩ ((BR.zip r).map fun p u_ val=>VV.mono le)) fun z=>by rw[h1]at z;cases z
theorem yp(hO:dC sh σ r r')(hf:aq eU k=some (nm,f))(hk:fF k=false)(hb:bd f.params vs l)(hv:vs.all (seen sh)=true)(c:Fr)(hh:c.A.handled=none)(hn:n+1<=c.n)(d:Dy c σ)(us:List Value)(Q:Value->Shared->Prop)(ru:aX c.b d.g vs us)(p:aB d VV r' Q)
  (hB:∀(ak:Dy c σ)(aP:Env)(il:Value->Shared->Prop)(bs:List (Str×Value))(im:ca c.b (c.A.deeper aP) aP ⟨f.scope.names,[]⟩ (c.xs ak.g sh) (aP.locals::c.fs) n)(am:Dy (c.sub (c.A.deeper aP) aP ⟨f.scope.names,[]⟩ il (c.xs ak.g sh) (aP.locals::c.fs) n im) (σ.enter sh l)),Le d ak->am.g=ak.g.enter sh (fg aP) am.s.heap->(f.params.vararg=none->bs=(cV f.params).zip us)->aP.scope=f.scope ->
   am.s.heap.Ns aP.locals (bindL aP.kindOf bs fun u_=>none)->fU (c.sub (c.A.deeper aP) aP ⟨f.scope.names,[]⟩ il (c.xs ak.g sh) (aP.locals::c.fs) n im)->∀oE,aB am e6 r oE->Wp (c.sub (c.A.deeper aP) aP ⟨f.scope.names,[]⟩ il (c.xs ak.g sh) (aP.locals::c.fs) n im) (execs f.body aP) oE am.s):codeAny c.b.M c.A (.call (.ref (c.b.fa k)) ⟨us,[]⟩) (RR Q c.E) d.s:=by
 have k3:=notCls hk;have K:=xH hf hk;cases c.ok.fn k nm f hf k3.1 k3.2.1 k3.2.2 with|mk o fd a oc cvs ct ho hnt hdata fs1 fs2 fs3 fs4 fs5 fs6 fs7 hcode hoc hct hdc hq=>
 have hcd:∃p∈c.b.tabs,fd.code=.ref p.1:=by obtain⟨o',fd',c',P,z1,z2,z3,z4⟩:=c.ok.coded k nm f hf k3.1 k3.2.1 k3.2.2;rw[ho]at z1;cases z1;rw[hdata]at z2;cases z2;exact⟨_,z4,z3⟩
 have hdep:=c.k.depth;refine codeAny_call_function (by omega) (d.h.b ho hnt) hdata (by rw[fs1];exact K.co) (by rw[fs1];exact K.gen) fs3 ⟨a,oc,cvs,ct,hcode,d.h.b hoc hct,hdc,hq⟩ ?_;rw[fs1,fs4,fs5,fs6];refine hb.run ⟨_,_,K.par⟩ K.nd fs2 fs7 d ru fun ak bs le R hbs=>?_;have bn:=hb.names (sh:=sh);refine wpAny_mono (wpAny_toks_of (n:=ak.s.toks) (Nat.le_refl _) (wpAny_newFunctionEnv_cells (Q:=fun aP cj=>aP=oi f.scope ak.s.heap.objs.size (fd.qualname++".<locals>.") (some (c.b.fa k)) fd.code /\
   InCallC ak.s aP.locals (bindL aP.kindOf bs fun u_=>none) aP.cells (bindC aP.kindOf bs fun u_=>none) cj) K.fn (fun y m=>?_) (fun aP he cj x=>⟨he,x⟩))) (fun aP cj hx=>?_) fun u_ u_ h=>h.2
 ·have:=K.lc y.1 (by rw[<- bn.1,<-R.names];exact List.mem_map.mpr ⟨y,m,rfl⟩);rw[i8,i8];rcases zX this with h|h
  ·exact .inl h
  ·exact .inr ⟨h,by obtain⟨c,hc⟩:=pX (k:=ak.s.heap.objs.size+1) (acc:=[]) K.names.nd h;rw[hc];rfl⟩
 ·obtain⟨ht3,he,hx⟩:=hx;obtain⟨im,am,e1,e2,e3⟩:=ak.entered (n:=n) (sh:=sh) (fun e s'=>wpAny c.b.M (c.A.deeper aP) (leaving aP e) (fun u_ s''=>RR Q c.E (.error e) s'') (fun e' s''=>RR Q c.E (.error e') s'') s') hn K.fn K.names R (by rw[bn.1];exact K.nd) (fun q m=>bn.2 q m hv) hcd he ht3 hx;have hs:∀a∈aP.locals::c.fs,a∈c.fs\/ak.s.heap.get? a=none:=fun a m=>(List.mem_cons.mp m).elim (fun z=>.inr (z▸e3)) .inl;have here:fU (c.sub (c.A.deeper aP) aP ⟨f.scope.names,[]⟩ (fun e s'=>wpAny c.b.M (c.A.deeper aP) (leaving aP e) (fun u_ s''=>RR Q c.E (.error e) s'') (fun e' s''=>RR Q c.E (.error e') s'') s') (c.xs ak.g sh) (aP.locals::c.fs) n im):=by obtain⟨fenv,outer,f1,_⟩:=c.k.frames;exact⟨fenv::outer,congrArg (Option.map _) f1⟩
  subst e1;refine⟨am.h.limit,codeAny_func (hB ak aP _ bs im am le e2 hbs (by rw[he];rfl) hx.toInCall.ns here _ ?_)⟩;cases hO with
 |bad=>exact p.elim
 |hand fl au v w hfl hw=> intro ay fv le3 rf;obtain⟨d',g1,g2,g3⟩:=ak.handed ay hs (fa:=fg aP) (h:=am.s.heap) (by rw[<- e2];exact le3) hw (yz hfl rf);have:=p d' _ (le.trans g2) g3;rw[g1]at this;cases fv<;>first|exact this|(cases fl<;>first|cases hfl;done|cases rf;done|(obtain⟨_,q,_⟩:=rf;cases q))
 |own fl au i xs hfl hsh hi=> intro ay fv le3 rf;obtain⟨d',g1,g2,g3⟩:=Dy.handedO hsh ak ay hs (fa:=fg aP) (h:=am.s.heap) (by rw[<- e2];exact le3) hi (yz hfl rf);have:=p d' _ (le.trans g2) g3;rw[g1]at this;cases fv<;>exact this
 |exc x au=> refine⟨hh,fun ay ax le3 ex=>Dy.leaving ay (fr':=c.env.frame) ex here fun bH le4 ex4=>?_⟩;obtain⟨d',g1,g2,g3⟩:=ak.left bH hs (fa:=fg aP) (h:=am.s.heap) (by rw[<- e2];exact le3.trans le4);exact g1▸p.2 d' ax (le.trans g2) (by rw[g3];exact ex4.leave)
theorem HJ(hO:dC sh σ r r')(hf:aq eU k=some (nm,f))(hk:fF k=false)(hb:bd f.params vs l)(hv:vs.all (seen sh)=true)(hB:SB ⟨f.scope.names,[]⟩ n f.body (σ.enter sh l) r):bo (n+1) k vs σ r':=fun c hh hn d us Q ru p=>
 yp hO hf hk hb hv c hh hn d us Q ru p fun ak aP il u_ im am u_ u_ u_ u_ u_ here oE jT=>hB (c.sub (c.A.deeper aP) aP _ il (c.xs ak.g sh) (aP.locals::c.fs) n im) ⟨rfl,Nat.le_refl _,hh⟩ here am oE jT
theorem AI(fa:oz b a f d)(hB:∀a o,b.B.get? a=some o->a∉b.tabA->s.heap.get? a=some o)(hlim:s.heap.NoLimit)(hroom:A.depth < recursionLimit)
  (hk:f.scope.kind=.function) (hco:f.scope.isCoroutine=false) (hge:f.scope.isGenerator=false) (hnc:∀x∈f.scope.names,x.2≠.cell) (hl:∀x∈binds,f.scope.names.lookup x.1=some .local)
  (hb:∀fd Q,fd.params=f.params->fd.defaults=d->Q binds s->wpAny b.M A.in1 (bindArgs fd ⟨vals,[]⟩) Q (fun e s'=>R (.error e) s') s)
  (hQ:∀env h',env.scope=f.scope->env.locals=s.heap.objs.size->h'.Ns s.heap.objs.size (fun x=>binds.reverse.lookup x)->(∀c o,s.heap.get? c=some o->h'.get? c=some o) ->
   wpAny b.M (A.deeper env) (execs f.body env) (fun fl s'=>R (.ok (.ret (match fl with|.ret v=>v|_=>.none))) s')
    (fun e s'=>wpAny b.M (A.deeper env) (leaving env e) (fun u_ s''=>R (.error e) s'') (fun e' s''=>R (.error e') s'') s') {s with heap:=h',toks:=s.toks+binds.length}) :
  codeAny b.M A (.call (.ref a) ⟨vals,[]⟩) R s:=by
 cases fa with|mk o fd c oc cvs ct ho hnt hdata fs1 fs2 fs3 fs4 fs5 fs6 fs7 hcode hoc hct hdc hq=>
 refine codeAny_call_function hroom (hB _ o ho hnt) hdata (by rw[fs1];exact hco) (by rw[fs1];exact hge) fs3 ⟨c,oc,cvs,ct,hcode,hB c oc hoc hct,hdc,hq⟩ (hb fd _ fs2 fs7 ?_);rw[fs1,fs4,fs5,fs6];refine wpAny_newFunctionEnv hnc hl (fun h' hn hs=>?_) hk;haveI keep:∀c o,s.heap.get? c=some o->h'.get? c=some o:=fun c o ho=>(hs.2 c (Nat.ne_of_lt (Heap.lt_size ho))).trans (Heap.get?_push_of_some _ ho);exact⟨hlim.keeps keep,codeAny_func (hQ _ h' rfl rfl hn keep)⟩
theorem HZ(hp:fd.params=(du "TopologicalSorter").params)(hd:fd.defaults=.ref dt)(hT:IsT s.heap dt #[.none] 0)(h:Q [("self",v),("graph",.none)] s):wpAny M A (bindArgs fd ⟨[v],[]⟩) Q E s:=by obtain⟨f1,f2,f3,f4,f5,f6,f7,f8,f9⟩:=fd;cases hp;cases hd;refine wpAny_bind (m:=seqItems? (.ref dt)) (wpAny_seqItems hT rfl ?_);exact wpAny_pure h
structure mi(b:aN)(cW h:Heap)(x d L:Addr)(bs:Str->Option Value)(o:Obj)(l:List (Str×Value)):Prop where
 keep:∀c o,cW.get? c=some o->h.get? c=some o
 inst:h.get? x=some {cls:=.ref (b.fa 15),dict:=some d,data:=.plain}
 ho:h.get? d=some o
 ns:gn o l
 loc:h.Ns L bs
 dL:d≠L
 dx:d≠x
 new:cW.get? d=none
theorem mi.grow(I:mi b cW h x d L bs o l)(hk:∀c o,h.get? c=some o->h'.get? c=some o):mi b cW h' x d L bs o l:=
 ⟨fun c o ho=>hk c o (I.keep c o ho),hk _ _ I.inst,hk _ _ I.ho,I.ns,I.loc.keeps hk,I.dL,I.dx,I.new⟩
structure qt(env:Env)(L:Addr):Prop where
 L:env.locals=L
 fn:env.scope.kind=.function
 self:env.scope.names.lookup ("self":Str)=some NameKind.local
noncomputable abbrev Fb:List Str:=["_node2info","_ready_nodes","_npassedout","_nfinished"]
theorem qY(ok:ib b)(XK:b.K.In cW)(I:mi b cW s.heap x d L bs o l)(hl:l.length<=6)
  (hn:nm∈Fb) (F:qt env L) (hb:bs "self"=some (.ref x)) (hQ:∀h' o',mi b cW h' x d L bs o' (ag l nm v)->(∀c o,c≠d->s.heap.get? c=some o->h'.get? c=some o)->Q {s with heap:=h',toks:=s.toks+1+1}) :
  wpAny b.M A (eval (.Name "self" p) env) (fun ov s₂=>wpAny b.M A (PySem.setAttr ov nm v) (fun u_=>Q) E s₂) E s:=by
 refine wpAny_Name (wpAny_loadName_local F.fn F.self (F.L▸I.loc) hb ?_);refine ue ok (fun a o e=>I.keep a o (XK a o e)) I.inst I.ho I.ns hl hn fun h' o' ho' hns hs=>?_;have kk:∀c o,c≠d->s.heap.get? c=some o->h'.get? c=some o:=fun c o hc ho=>(hs.2 c hc).trans ho;exact hQ h' o' ⟨fun c o ho=>kk c o (fun q=>by rw[q,I.new]at ho;cases ho) (I.keep c o ho),kk _ _ I.dx.symm I.inst,ho',hns,I.loc.sameBut hs I.dL.symm,I.dL,I.dx,I.new⟩ kk
theorem JD:(du "TopologicalSorter").scope.kind=.function/\(du "TopologicalSorter").scope.isCoroutine=false/\(du "TopologicalSorter").scope.isGenerator=false/\((du "TopologicalSorter").scope.names.all fun p=>!(p.2==.cell))=true /\
 (du "TopologicalSorter").scope.names.lookup ("self":Str)=some NameKind.local/\(du "TopologicalSorter").scope.names.lookup ("graph":Str)=some NameKind.local:=by decide +kernel
theorem xZ{names:List (Str×NameKind)}(h:(names.all fun p=>!(p.2==.cell))=true):∀x∈names,x.2≠.cell:=fun x m q=>by haveI:=List.all_eq_true.mp h x m;rw[q]at this;cases this
theorem xW(h:Heap)(C:Addr):((h.push emptyDict).push (instObj C h.objs.size)).get? (h.objs.size+1)=some (instObj C h.objs.size)/\((h.push emptyDict).push (instObj C h.objs.size)).get? h.objs.size=some emptyDict/\((h.push emptyDict).push (instObj C h.objs.size)).objs.size=h.objs.size+2 /\
  ∀c o,h.get? c=some o->((h.push emptyDict).push (instObj C h.objs.size)).get? c=some o:=by
 haveI:=Heap.get?_push_size (h.push emptyDict) (o:=instObj C h.objs.size) rfl;rw[Heap.size_push]at this;exact⟨this,Heap.get?_push_of_some _ (Heap.get?_push_size _ rfl),by rw[Heap.size_push,Heap.size_push],fun c o ho=>Heap.get?_push_of_some _ (Heap.get?_push_of_some _ ho)⟩
theorem HX(ok:ib b)(XB:∀a o,b.B.get? a=some o->a∉b.tabA->s.heap.get? a=some o)(hlim:s.heap.NoLimit)(hroom:A.depth+1 < recursionLimit)
  (hQ:∀h' tk n2i o tp tf,s.toks<=tk->(∀c o,s.heap.get? c=some o->h'.get? c=some o)->s.heap.objs.size+2 < n2i->h'.get? (s.heap.objs.size+1)=some {cls:=.ref (b.fa 15),dict:=some s.heap.objs.size,data:=.plain}->h'.get? s.heap.objs.size=some o ->
   gn o (sL n2i .none ⟨[],none,0,0,none⟩ tp tf)->h'.get? n2i=some {cls:=.type "dict",data:=.dict #[]}->Q (.ref (s.heap.objs.size+1)) {s with heap:=h',toks:=tk}) :
  wpAny b.M A (call (.ref (b.fa 15)) []) Q E s:=by
 obtain⟨dt,o0_,hdt,hdn⟩:=ok.sInit;obtain⟨hm,fI,hfi,htf,fa⟩:=o0_;haveI XK:b.K.In s.heap:=fun a o e=>XB a o (ok.kIn a o e).1 (ok.kIn a o e).2;obtain⟨hh,gens,dr,t,os⟩:=s;refine wpAny_call (make_core (makes_of XK hm) (looks_findIn XK hfi) (fun self=>bind_fn XK self htf) (.inl rfl) ?_);obtain⟨hx0,hd0,hsz,keep0⟩:=xW hh (b.fa 15);haveI T:=JD;refine AI (binds:=[("self",.ref (hh.objs.size+1)),("graph",.none)]) fa (fun c o ho hn=>keep0 c o (XB c o ho hn)) (hlim.keeps keep0) hroom T.1 T.2.1 T.2.2.1 (xZ T.2.2.2.1) (fun y m=>?_) (fun fd Q hp hd hq=>HZ hp hd (keep0 _ _ (XB dt _ hdt hdn)) hq) fun aP aY hsc hLe hns hk2=>?_
 ·rcases List.mem_cons.mp m with rfl|m
  ·exact T.2.2.2.2.1
  ·cases List.mem_singleton.mp m;exact T.2.2.2.2.2
 ·haveI F:qt aP (hh.objs.size+2):=⟨hLe.trans hsz,hsc▸T.1,hsc▸T.2.2.2.2.1⟩;haveI hn:∀c,hh.objs.size<=c->hh.get? c=none:=fun c hc=>Heap.get?_none_of_le hc;rw[hsz]at hns;haveI l2:hh.objs.size+2 < aY.objs.size:=by obtain⟨o,_,_,ho,_⟩:=hns;exact Heap.lt_size ho
  haveI I0:mi b hh aY (hh.objs.size+1) hh.objs.size (hh.objs.size+2) (fun x=>List.lookup x ([("self",Value.ref (hh.objs.size+1)),("graph",.none)]:List (Str×Value)).reverse) emptyDict []:=
   ⟨fun c o ho=>hk2 c o (keep0 c o ho),hk2 _ _ hx0,hk2 _ _ hd0,⟨#[],0,rfl,fun u_ h=>by simp at h,fun u_=>rfl,Nat.le_refl _⟩,hns,Nat.ne_of_lt (Nat.lt_add_of_pos_right (by decide)),Nat.ne_of_lt (Nat.lt_succ_self _),hn _ (Nat.le_refl _)⟩
  refine wpAny_execs_cons (plainObj_wpAny_Assign_Attribute (wpAny_Dict_empty ?_));refine qY ok XK (I0.grow fun c o ho=>Heap.get?_push_of_some _ ho) (Nat.zero_le _) (.head _) F rfl fun cI rK I1 Bd=>?_;refine wpAny_execs_cons (plainObj_wpAny_Assign_Attribute (wpAny_Constant_none ?_));refine qY ok XK I1 (by show 1<=6;decide) (.tail _ (.head _)) F rfl fun ja Ls I2 Be=>?_;refine wpAny_execs_cons (plainObj_wpAny_Assign_Attribute (wpAny_Constant_int ?_));refine qY ok XK I2 (by show 2<=6;decide) (.tail _ (.tail _ (.head _))) F rfl fun fA Lu I3 uS=>?_;refine wpAny_execs_cons (plainObj_wpAny_Assign_Attribute (wpAny_Constant_int ?_));refine qY ok XK I3 (by show 3<=6;decide) (.tail _ (.tail _ (.tail _ (.head _)))) F rfl fun Bf KQ I4 KU=>?_;refine wpAny_execs_cons (wpAny_If (wpAny_isTrue_Compare1 (wpAny_Name (wpAny_loadName_local F.fn (show aP.scope.names.lookup ("graph":Str)=some NameKind.local from hsc▸T.2.2.2.2.2) (F.L▸I4.loc) (show _=some Value.none from rfl) (wpAny_Constant_none ?_))) rfl));refine mI (neg:=true) rfl (wpAny_truthy_bool (wpAny_execs_nil (wpAny_execs_nil ⟨rfl,?_⟩)));haveI n2:aY.objs.size≠hh.objs.size:=Nat.ne_of_gt (Nat.lt_trans (Nat.lt_add_of_pos_right (by decide)) l2);haveI ne:∀c,c≠hh.objs.size->∀o,cI.get? c=some o->Bf.get? c=some o:=fun c hc o ho=>KU c o hc (uS c o hc (Be c o hc ho));exact hQ Bf _ aY.objs.size KQ _ _ (Nat.le_trans (Nat.le_add_right _ 12) (Nat.le_refl _)) I4.keep l2 I4.inst I4.ho I4.ns (ne _ n2 _ (Bd _ _ n2 (Heap.get?_push_size _ rfl)))
noncomputable abbrev FD:List (Str×Nat):=[("node",0),("npredecessors",1),("successors",2)]
open Builtin Builtin.ObjectAttr Builtin.Getset_descriptor in
theorem wI(ok:ib b)(X':b.K.In s.heap)(hx:s.heap.get? x=some {cls:=.ref (b.fa 16),dict:=some dx,data:=.plain,slots:=sl})(hd:s.heap.get? dx=some gY)
  (hn:(nm,i)∈([("node",0),("npredecessors",1),("successors",2)]:List (Str×Nat)))
  (hQ:∀h',h'.get? x=some {cls:=.ref (b.fa 16),dict:=some dx,data:=.plain,slots:=(sl++Array.replicate (i+1-sl.size) none).setIfInBounds i (some v)}->Heap.SameBut x s.heap h'->Q () {s with heap:=h',toks:=s.toks+1}) :
  wpAny (b.M) A (PySem.setAttr (.ref x) nm v) Q E s:=by
 obtain⟨p,h1,h2,h3,h4,h5⟩:=ok.nSlot _ hn;haveI I:InstAt s.heap x {cls:=.ref (b.fa 16),dict:=some dx,data:=.plain,slots:=sl} (b.fa 16) (some gY):=⟨hx,rfl,rfl,hd⟩;haveI ht:takerIn b.K (b.fa 16) nm=some (some (.ref p)):=by unfold takerIn;rw[h1,Option.bind_some];show(takesIn b.K (.ref p)).map _=_;rw[h3];rfl
 haveI hi:i < 3:=by
  rcases List.mem_cons.mp hn with h|h
  ·cases(h);decide
  ·rcases List.mem_cons.mp h with h|h
   ·cases(h);decide
   ·cases List.mem_singleton.mp h;decide
 refine set_plain X' I ok.nSet (osa_descr (s:={s with toks:=s.toks+1}) KF.slot_mset X' I ok.nOver ht h5 ?_);obtain⟨n,tn,owner,behind,tb,d,sl',cd,ho,hc,hm,hb,rfl⟩:=slot_of X' h4;obtain⟨hh,g,dr,t,os⟩:=s;haveI L0:=I.type (M:=b.M);haveI L1:=looks_mroIn (M:=b.M) X' hm;haveI L2:Looks (b.M) hh (Slots.slotNamesOf (.ref (b.fa 16))) cd.slotNames:=(looks_clsIn X' hc).andThen .now;haveI hx:=I.at_;dsimp only at ho hx L0 L1;haveI f0:=looks_field (M:=b.M) ho 0 (v:=.str n tn) rfl;haveI f1:=looks_field (M:=b.M) ho 1 (v:=owner) rfl;haveI f3:=looks_field (M:=b.M) ho 3 (v:=.builtin "proto.slot#set") rfl;haveI f4:=looks_field (M:=b.M) ho 4 (v:=.int behind tb) rfl;refine codeAny_call_builtin KF.slot_mset.plain KF.entry_mset (KF.slot_mset.check _ _ _ _ _ _ _ _ ⟨_,ho,rfl⟩ (KF.args_mset _ _ _) ?_);unfold Builtin.«member_descriptor.__set__» descrSet descrStoreThrough descrCheckInstance descrNameAndClass isInstance;haveI f5:Looks (b.M) hh (descrItself (.ref p)) [.ref p]:=((Looks.ld (part:=none) ho).andThen .now).andThen (Looks.of_pure (by kernel_rfl))
 repeat lk
 refine⟨Code.quiet_builtin _ (by decide +kernel),codeAny_builtin KF.entry_slotset ?_⟩;unfold Builtin.«proto.slot#set» Slots.target
 repeat lk
 rw[if_neg hb];refine wpAny_pure (wpAny_bind ?_);unfold setSlotAt;dsimp only;rw[if_neg (by rw[sizeLine_eq];lia)];refine wpAny_updatePart hx (wpAny_pure ?_);refine hQ _ (Heap.get?_update_self _ hx rfl) (Heap.SameBut.update ..)
noncomputable def m7(sl:Array (Option Value))(i:Nat)(v:Value):Array (Option Value):=(sl++Array.replicate (i+1-sl.size) none).setIfInBounds i (some v)
structure lw(b:aN)(cW h:Heap)(x d L:Addr)(bs:Str->Option Value)(sl:Array (Option Value)):Prop where
 keep:∀c o,cW.get? c=some o->h.get? c=some o
 inst:h.get? x=some {cls:=.ref (b.fa 16),dict:=some d,data:=.plain,slots:=sl}
 dict:h.get? d=some gY
 loc:h.Ns L bs
 dx:d≠x
 Lx:L≠x
 new:cW.get? x=none
theorem lw.grow(I:lw b cW h x d L bs sl)(hk:∀c o,h.get? c=some o->h'.get? c=some o):lw b cW h' x d L bs sl:=
 ⟨fun c o ho=>hk c o (I.keep c o ho),hk _ _ I.inst,hk _ _ I.dict,I.loc.keeps hk,I.dx,I.Lx,I.new⟩
theorem se(ok:ib b)(XK:b.K.In cW)(I:lw b cW s.heap x d L bs sl)(hn:(nm,i)∈FD)(F:qt env L)(hb:bs "self"=some (.ref x))
  (hQ:∀h',lw b cW h' x d L bs (m7 sl i v)->(∀c o,c≠x->s.heap.get? c=some o->h'.get? c=some o)->Q {s with heap:=h',toks:=s.toks+1}) :
  wpAny b.M A (eval (.Name "self" p) env) (fun ov s₂=>wpAny b.M A (PySem.setAttr ov nm v) (fun u_=>Q) E s₂) E s:=by
 refine wpAny_Name (wpAny_loadName_local F.fn F.self (F.L▸I.loc) hb ?_);refine wI ok (fun a o e=>I.keep a o (XK a o e)) I.inst I.dict hn fun h' ho hs=>?_;have kk:∀c o,c≠x->s.heap.get? c=some o->h'.get? c=some o:=fun c o hc ho=>(hs.2 c hc).trans ho;exact hQ h' ⟨fun c o ho=>kk c o (fun q=>by rw[q,I.new]at ho;cases ho) (I.keep c o ho),ho,kk _ _ I.dx I.dict,I.loc.sameBut hs I.Lx,I.dx,I.Lx,I.new⟩ kk
theorem C8:(du "_NodeInfo").scope.kind=.function/\(du "_NodeInfo").scope.isCoroutine=false/\(du "_NodeInfo").scope.isGenerator=false/\((du "_NodeInfo").scope.names.all fun p=>!(p.2==.cell))=true /\
 (du "_NodeInfo").scope.names.lookup ("self":Str)=some NameKind.local/\(du "_NodeInfo").scope.names.lookup ("node":Str)=some NameKind.local:=by decide +kernel
theorem Cb(hp:fd.params=(du "_NodeInfo").params)(hd:fd.defaults=.none)(h:Q [("self",v),("node",u)] s):wpAny M A (bindArgs fd ⟨[v,u],[]⟩) Q E s:=by rw[nQ (va:=none) (vals:=[v,u]) (ns:=["self","node"]) (by kernel_rfl) (hp.trans (Ak (by decide +kernel))) hd (tc (by decide +kernel)) (Nat.le_refl 2) fun u_=>rfl];exact wpAny_pure h
theorem Cn(a c d:Value):m7 (m7 (m7 #[] 0 a) 1 c) 2 d=#[some a,some c,some d]:=by kernel_rfl
theorem CO(ok:ib b)(XB:∀a o,b.B.get? a=some o->a∉b.tabA->s.heap.get? a=some o)(hlim:s.heap.NoLimit)(hroom:A.depth+1 < recursionLimit)
  (hQ:∀h' tk l tn,s.toks<=tk->(∀c o,s.heap.get? c=some o->h'.get? c=some o)->s.heap.objs.size+2 < l->h'.get? (s.heap.objs.size+1)=some (kP b u 0 tu tn s.heap.objs.size l)->h'.get? s.heap.objs.size=some gY->h'.get? l=some (aV [] 0)->Q (.ref (s.heap.objs.size+1)) {s with heap:=h',toks:=tk}) :
  wpAny b.M A (call (.ref (b.fa 16)) [.str u tu]) Q E s:=by
 obtain⟨hm,fI,hfi,htf,fa⟩:=ok.nInit;haveI XK:b.K.In s.heap:=fun a o e=>XB a o (ok.kIn a o e).1 (ok.kIn a o e).2;obtain⟨hh,gens,dr,t,os⟩:=s;refine wpAny_call (make_core (makes_of XK hm) (looks_findIn XK hfi) (fun self=>bind_fn XK self htf) (.inl rfl) ?_);obtain⟨hx0,hd0,hsz,keep0⟩:=xW hh (b.fa 16);haveI T:=C8;refine AI (binds:=[("self",.ref (hh.objs.size+1)),("node",.str u tu)]) fa (fun c o ho hn=>keep0 c o (XB c o ho hn)) (hlim.keeps keep0) hroom T.1 T.2.1 T.2.2.1 (xZ T.2.2.2.1) (fun y m=>?_) (fun fd Q hp hd hq=>Cb hp hd hq) fun aP aY hsc hLe hns hk2=>?_
 ·rcases List.mem_cons.mp m with rfl|m
  ·exact T.2.2.2.2.1
  ·cases List.mem_singleton.mp m;exact T.2.2.2.2.2
 ·haveI F:qt aP (hh.objs.size+2):=⟨hLe.trans hsz,hsc▸T.1,hsc▸T.2.2.2.2.1⟩;rw[hsz]at hns;haveI l2:hh.objs.size+2 < aY.objs.size:=by obtain⟨o,_,_,ho,_⟩:=hns;exact Heap.lt_size ho
  haveI I0:lw b hh aY (hh.objs.size+1) hh.objs.size (hh.objs.size+2) (fun x=>List.lookup x ([("self",Value.ref (hh.objs.size+1)),("node",.str u tu)]:List (Str×Value)).reverse) #[]:=
   ⟨fun c o ho=>hk2 c o (keep0 c o ho),hk2 _ _ hx0,hk2 _ _ hd0,hns,Nat.ne_of_lt (Nat.lt_succ_self _),Nat.ne_of_gt (Nat.lt_succ_self _),Heap.get?_none_of_le (Nat.le_succ _)⟩
  refine wpAny_execs_cons (plainObj_wpAny_Assign_Attribute (wpAny_Name (wpAny_loadName_local F.fn (show aP.scope.names.lookup ("node":Str)=some NameKind.local from hsc▸T.2.2.2.2.2) (F.L▸I0.loc) (show _=some (Value.str u tu)from rfl) ?_)));refine se ok XK I0 (.head _) F rfl fun cI I1 Bd=>?_;refine wpAny_execs_cons (plainObj_wpAny_Assign_Attribute (wpAny_Constant_int ?_));refine se ok XK I1 (.tail _ (.head _)) F rfl fun ja I2 Be=>?_;refine wpAny_execs_cons (plainObj_wpAny_Assign_Attribute (wpAny_List (Calls.spliced_nil ⟨Nat.zero_le _,?_⟩)));refine se ok XK (I2.grow fun c o ho=>Heap.get?_push_of_some _ ho) (.tail _ (.tail _ (.head _))) F rfl fun fA I3 uS=>?_;refine wpAny_execs_nil ⟨rfl,?_⟩;haveI l4:hh.objs.size+2 < ja.objs.size:=by obtain⟨o,_,_,ho,_⟩:=I2.loc;exact Heap.lt_size ho
  exact hQ fA _ ja.objs.size _ (Nat.le_trans (Nat.le_add_right _ 6) (Nat.le_refl _)) I3.keep l4 (Cn ..▸I3.inst) I3.dict (uS _ _ (Nat.ne_of_gt (Nat.lt_of_succ_lt l4)) (Heap.get?_push_size _ rfl))
noncomputable def r7(k:Nat)(vs:List V)(σ:Sx)(r:aG V):Prop:=∀(c:Fr)(d:Dy c σ)(us:List Value)(Q:Value->Shared->Prop),aX c.b d.g vs us->aB d VV r Q->Wp c (call (.ref (c.b.fa k)) us) Q d.s
section
variable{c:Fr}{σ:Sx}{q:bW}{u x:Str}{g g':Gh}
theorem sk(f:g.z.f a=none/\(∀T,g.at_ T≠some a)/\c.X a=none)(ne:a≠y):(g.set T (some y) o).z.f a=none/\(∀T',(g.set T (some y) o).at_ T'≠some a)/\c.X a=none:=⟨f.1,fun T' e=>by
 by_cases z:T'=T
 ·rw[z,Gh.at_same]at e;cases e;exact ne rfl
 ·exact f.2.1 T' ((Gh.at_ne z).symm.trans e),f.2.2⟩
theorem Dy.three(d:Dy c σ)(hk:∀a o,d.s.heap.get? a=some o->s'.heap.get? a=some o)(ho:s'.os=d.s.os)(hg:s'.gens=d.s.gens)(ht:d.s.toks<=s'.toks)
  (e:rL=d.s.heap.objs.size+1/\rM=d.s.heap.objs.size/\d.s.heap.objs.size+2 < rN) (bk:s'.heap.get? rL=some io) (aY:s'.heap.get? rM=some mq) (cI:s'.heap.get? rN=some rK):HC c (((d.g.set T₁ (some rL) io).set T₂ (some rM) mq).set T₃ (some rN) rK) s':=by
 obtain⟨rfl,rfl,l⟩:=e;haveI fr:∀a,d.s.heap.objs.size<=a->(d.g.z.f a=none/\(∀T,d.g.at_ T≠some a)/\c.X a=none)/\a∉c.b.tabA:=fun a la=>⟨d.h.fresh (Heap.get?_none_of_le la),fun m=>by obtain⟨k,z⟩:=d.r.tb a m;haveI:=d.h.at_ _ _ z;rw[Heap.get?_none_of_le la]at this;cases this⟩
 haveI f1:=fr _ (Nat.le_succ d.s.heap.objs.size);haveI f2:=fr _ (Nat.le_refl d.s.heap.objs.size);haveI f3:=fr _ (Nat.le_of_lt (Nat.lt_of_le_of_lt (Nat.le_add_right _ 2) l));refine HC.place (HC.place (HC.place (d.h.keeps hk ho hg (Nat.lt_of_lt_of_le d.h.tk ht)) bk f1.1 f1.2) aY (sk f2.1 (Nat.ne_of_lt (Nat.lt_succ_self _))) f2.2) cI (sk (sk f3.1 (Nat.ne_of_gt (Nat.lt_of_succ_lt l))) (Nat.ne_of_gt (Nat.lt_of_succ_lt (Nat.lt_of_succ_lt l)))) f3.2
theorem ww(n12:T₁≠T₂)(n13:T₁≠T₃)(n23:T₂≠T₃)(hg:g'=((g.set T₁ rL io).set T₂ rM mq).set T₃ rN rK):
  (g'.at_ T₁=rL/\g'.ob T₁=io)/\(g'.at_ T₂=rM/\g'.ob T₂=mq)/\(g'.at_ T₃=rN/\g'.ob T₃=rK)/\(∀T,T≠T₁->T≠T₂->T≠T₃->g'.at_ T=g.at_ T/\g'.ob T=g.ob T)/\g'.z=g.z:=by
 subst hg;refine⟨⟨(Gh.at_ne n13).trans ((Gh.at_ne n12).trans Gh.at_same),(Gh.ob_ne n13).trans ((Gh.ob_ne n12).trans Gh.ob_same)⟩,⟨(Gh.at_ne n23).trans Gh.at_same,(Gh.ob_ne n23).trans Gh.ob_same⟩,⟨Gh.at_same,Gh.ob_same⟩,fun T h1 h2 h3=>⟨(Gh.at_ne h3).trans ((Gh.at_ne h2).trans (Gh.at_ne h1)),(Gh.ob_ne h3).trans ((Gh.ob_ne h2).trans (Gh.ob_ne h1))⟩,rfl⟩
theorem zD(c:Fr):c.A.depth+1 < recursionLimit:=by haveI:=c.k.depth;lia
theorem Al:DictO b {cls:=.type "dict",data:=.dict #[]} []:=⟨#[],0,⟨rfl,rfl,rfl⟩,rfl,fun u_ h=>by simp at h,.nil,.nil⟩
theorem HE(hq:σ.q=none):r7 15 [] σ (.ok (.p .self) {σ with q:=some ⟨[],none,0,0,none⟩}):=fun c d us Q ru p=>by
 cases(show us=[]from ru);refine HX c.ok (fun a o e m=>d.h.b e m) d.h.limit (zD c) fun h' tk n2i o tp tf ht hk l2 e1 e2 e3 e4=>?_;have H:=d.three (s':={d.s with heap:=h',toks:=tk}) (T₁:=.p .self) (T₂:=.sd) (T₃:=.p .n2i) hk rfl rfl ht ⟨rfl,rfl,l2⟩ e1 e2 e4;have S:=ww (T₁:=.p .self) (T₂:=.sd) (T₃:=.p .n2i) (fun z=>by cases z) (fun z=>by cases z) (fun z=>by cases z) (Eq.refl (((d.g.set (.p .self) (some (d.s.heap.objs.size+1)) {cls:=.ref (c.b.fa 15),dict:=some d.s.heap.objs.size,data:=.plain}).set .sd (some d.s.heap.objs.size) o).set (.p .n2i) (some n2i) {cls:=.type "dict",data:=.dict #[]}));generalize((d.g.set (.p .self) (some (d.s.heap.objs.size+1)) {cls:=.ref (c.b.fa 15),dict:=some d.s.heap.objs.size,data:=.plain}).set .sd (some d.s.heap.objs.size) o).set (.p .n2i) (some n2i) {cls:=.type "dict",data:=.dict #[]}=g at H S;obtain⟨s1,s2,s3,s4,sz⟩:=S;have R:=d.r.srt;rw[hq]at R;have no:∀p,(∀i,p≠.loc i)->d.g.at_ (.p p)=none:=fun p n=>by
  cases z:d.g.at_ (.p p)with
 |none=>rfl
 |some a=>obtain⟨i,e⟩:=(show ∀p a,d.g.at_ (.p p)=some a->∃i,p=.loc i from R) p a z;exact absurd e (n i)
 have no':∀p,(∀i,p≠.loc i)->p≠.self->p≠.n2i->g.at_ (.p p)=none:=fun p n n1 n2=>(s4 _ (fun z=>by cases z;exact n1 rfl) (fun z=>by cases z) (fun z=>by cases z;exact n2 rfl)).1.trans (no p n);have le:d.g.Le g:=⟨by rw[sz];exact .refl _,fun a e=>by(rw[no .n2i fun u_ z=>by cases z]at e;cases e),fun p a e=>by obtain⟨i,rfl⟩:=(show ∀p a,d.g.at_ (.p p)=some a->∃i,p=.loc i from R) p a e;exact(s4 _ (fun z=>by cases z) (fun z=>by cases z) (fun z=>by cases z)).1.trans e⟩
 refine p ⟨g,_,H,d.r.srtG le (fun T t=>s4 T (fun z=>t (z▸trivial)) (fun z=>t (z▸trivial)) (fun z=>t (z▸trivial))) (by rw[sz]) ?_⟩ _ le ⟨_,rfl,s1.1⟩;exact .mk _ _ n2i tp tf .none [] s1.1 s1.2 s2.1 (s2.2▸e3) s3.1 (s3.2▸Al) rfl ⟨rfl,no' .rd (fun u_ z=>by cases z) (fun z=>by cases z) (fun z=>by cases z)⟩ trivial fun x u_ u_=>⟨no' (.nd x) (fun u_ z=>by cases z) (fun z=>by cases z) (fun z=>by cases z),no' (.suc x) (fun u_ z=>by cases z) (fun z=>by cases z) (fun z=>by cases z)⟩
theorem oU:∀{l:List (Str×α)},ad l u=none->u∉l.map (·.1):=@fun b c d=>match b,c,d with
|(y,a)::r,h,m=>by
  haveI h:(match ah u y with|true=>some a|false=>ad r u)=none:=h;cases q:ah u y with
 |true=>rw[q]at h;cases h
 |false=>
   rw[q]at h;rcases List.mem_cons.mp m with m|m
   ·rw[show u=y from m,bU]at q;cases q
   ·exact oU h m
theorem ch.same(z:g.z.Le g'.z)(e1:g'.at_ (.p (.nd x))=g.at_ (.p (.nd x))/\g'.ob (.p (.nd x))=g.ob (.p (.nd x)))(e2:g'.at_ (.ndd x)=g.at_ (.ndd x)/\g'.ob (.ndd x)=g.ob (.ndd x))(e3:g'.at_ (.p (.suc x))=g.at_ (.p (.suc x))/\g'.ob (.p (.suc x))=g.ob (.p (.suc x)))(N:ch b g x nd v):ch b g' x nd v:=by
 cases N with|mk a d l tx tn h1 h2 h3 h4 h5 h6 h7=>
 exact .mk a d l tx tn h1 (e1.1.trans h2) (e1.2.trans h3) (e2.1.trans h4) (e2.2.trans h5) (e3.1.trans h6) (h7.eq z e3)
theorem J6(hq:σ.q=some q)(hp:q.pend=none)(hl:ad q.n2i u=none):r7 16 [.f (.str u)] σ (.ok (.p (.nd u)) {σ with q:=some {q with pend:=some u}}):=fun c d us Q ru p=>by
 obtain⟨uv,_,rfl,ru,r0⟩:=ru;cases(show _=[]from r0);rw[ru.str];refine CO c.ok (fun a o e m=>d.h.b e m) d.h.limit (zD c) fun h' tk l tn ht hk l2 e1 e2 e3=>?_;have H:=d.three (s':={d.s with heap:=h',toks:=tk}) (T₁:=.p (.nd u)) (T₂:=.ndd u) (T₃:=.p (.suc u)) hk rfl rfl ht ⟨rfl,rfl,l2⟩ e1 e2 e3;have S:=ww (T₁:=.p (.nd u)) (T₂:=.ndd u) (T₃:=.p (.suc u)) (fun z=>by cases z) (fun z=>by cases z) (fun z=>by cases z) (Eq.refl (((d.g.set (.p (.nd u)) (some (d.s.heap.objs.size+1)) (kP c.b u 0 (dA uv) tn d.s.heap.objs.size l)).set (.ndd u) (some d.s.heap.objs.size) gY).set (.p (.suc u)) (some l) (aV [] 0)));generalize((d.g.set (.p (.nd u)) (some (d.s.heap.objs.size+1)) (kP c.b u 0 (dA uv) tn d.s.heap.objs.size l)).set (.ndd u) (some d.s.heap.objs.size) gY).set (.p (.suc u)) (some l) (aV [] 0)=g at H S;obtain⟨s1,s2,s3,s4,sz⟩:=S;have z0:d.g.z.Le g.z:=by rw[sz];exact .refl _
 cases d.sr hq with|mk a sd n2i tp tf rd kvs h1 h2 h3 h4 h5 h6 h7 h8 h9 h10=>
 have N:=h10 u hl (by rw[hp];exact fun z=>by cases z);have out:=fun(T:aE)(n1:T≠.p (.nd u))(n2:T≠.ndd u)(n3:T≠.p (.suc u))=>s4 T n1 n2 n3;have o1:=out (.p .self) (fun z=>by cases z) (fun z=>by cases z) (fun z=>by cases z);have o2:=out .sd (fun z=>by cases z) (fun z=>by cases z) (fun z=>by cases z);have o3:=out (.p .n2i) (fun z=>by cases z) (fun z=>by cases z) (fun z=>by cases z);have on:=fun y(n:y≠u)=>And.intro (out (.p (.nd y)) (fun z=>by cases z;exact n rfl) (fun z=>by cases z) (fun z=>by cases z)) (And.intro (out (.ndd y) (fun z=>by cases z) (fun z=>by cases z;exact n rfl) (fun z=>by cases z)) (out (.p (.suc y)) (fun z=>by cases z) (fun z=>by cases z) (fun z=>by cases z;exact n rfl)));have le:d.g.Le g:=⟨z0,fun u_ u_=>.inl o3.2,fun p a e=>by
  by_cases q1:p=.nd u
  ·rw[q1,N.1]at e;cases e
  ·by_cases q2:p=.suc u
   ·rw[q2,N.2]at e;cases e
   ·exact(out (.p p) (fun z=>q1 (by cases(z);rfl)) (fun z=>by cases(z)) (fun z=>q2 (by cases(z);rfl))).1.trans e⟩
 refine p ⟨g,_,H,d.r.srtG le (fun T t=>s4 T (fun z=>t (z▸trivial)) (fun z=>t (z▸trivial)) (fun z=>t (z▸trivial))) (by rw[sz]) ?_⟩ _ le ⟨_,rfl,s1.1⟩;refine .mk a sd n2i tp tf rd kvs (o1.1.trans h1) (o1.2.trans h2) (o2.1.trans h3) (o2.2▸h4) (o3.1.trans h5) (o3.2▸h6) (so.rest (x:=u) (fun y nd v n N=>N.same z0 (on y n).1 (on y n).2.1 (on y n).2.2) (by rw[oW h7];exact oU hl) h7)
  (gi.eq z0 (out (.p .rd) (fun z=>by cases z) (fun z=>by cases z) (fun z=>by cases z)) h8) ⟨hl,_,.mk _ _ l (dA uv) tn rfl s1.1 s1.2 s2.1 s2.2 s3.1 (.mk l [] 0 s3.1 s3.2 rfl)⟩ fun y hy hpy=>?_
 have ny:y≠u:=fun z=>hpy (by rw[z]);have N:=h10 y hy (by rw[hp];exact fun z=>by cases z);exact⟨(on y ny).1.1.trans N.1,(on y ny).2.2.1.trans N.2⟩
end
section
variable{c:Fr}{σ:Sx}{q:bW}{u x:Str}{nd:aZ}{g g':Gh}
theorem KB(a c d v:Value):m7 #[some a,some c,some d] 1 v=#[some a,some v,some d]:=by kernel_rfl
theorem oR(hq:σ.q=some q)(hl:ad q.n2i x=some nd):nv (.p (.nd x)) "npredecessors" (.f (.int i)) σ (.ok () {σ with q:=some {q with n2i:=ag q.n2i x {nd with np:=i}}}):=fun c d av uv Q ra ru p=>by
 revert ru;apply eT ra;intro a e ru;obtain⟨_,N⟩:=d.node hq hl;cases N with|mk a' dx l tx tn h1 h2 h3 h4 h5 h6 h7=>
 refine wI c.ok d.h.K ((d.h.at_ _ _ e).trans (congrArg some h3)) ((d.h.at_ _ _ h4).trans (congrArg some h5)) (.tail _ (.head _)) fun h' ho hs=>?_;haveI ho:h'.get? a=some (kP c.b x i tx (dA uv) dx l):=by rw[ru.int]at ho;exact ho.trans (congrArg (fun s=>some ({cls:=.ref (c.b.fa 16),dict:=some dx,data:=.plain,slots:=s}:Obj)) (KB ..))
 refine p ⟨_,_,d.hset e (fun u_ z=>by cases z) hs ho (Nat.le_succ _),d.r.node hq hl e (.inl rfl) fun v N=>?_⟩ () (Gh.set_le e) trivial;cases N with|mk a'' d'' l'' tx'' tn'' k1 k2 k3 k4 k5 k6 k7=>
 cases e.symm.trans k2;haveI o2:=Gh.set_out (g:=d.g) (a:=some a) (o:=kP c.b x i tx (dA uv) dx l) (T:=.p (.nd x)) (T':=.ndd x) (fun z=>by cases z);haveI o3:=Gh.set_out (g:=d.g) (a:=some a) (o:=kP c.b x i tx (dA uv) dx l) (T:=.p (.nd x)) (T':=.p (.suc x)) (fun z=>by cases z);exact .mk a dx l tx (dA uv) k1 Gh.at_same Gh.ob_same (o2.1.trans h4) (o2.2.trans h5) (o3.1.trans h6) (k7.eq (g:=d.g) (.refl _) o3)
theorem Kd:∀{l:List (Str×α)},ad (l++[(u,a)]) n=none->ad l n=none/\n≠u:=by
 intro l
 induction l with
|nil=>
  intro h;exact⟨rfl,fun z=>by
  haveI h:(match ah n u with|true=>some a|false=>none)=none:=h;rw[z,bU]at h;cases h⟩
|cons p_ r ih=>
  obtain⟨y,c⟩:=p_;intro h;haveI h:(match ah n y with|true=>some c|false=>ad (r++[(u,a)]) n)=none:=h;show(match ah n y with|true=>some c|false=>ad r n)=none/\_;cases q:ah n y with
 |true=>rw[q]at h;cases h
 |false=>rw[q]at h;exact ih h
theorem A9(h:u∉kvs.map (·.1)):stored kvs u v=kvs++[(u,v)]:=by unfold stored;refine if_neg fun z=>?_;obtain⟨p,m,e⟩:=List.any_eq_true.mp z;exact h (List.mem_map.mpr ⟨p,m,of_decide_eq_true e⟩)
theorem By(z:g.z.Le g'.z)(e:e8 aE.nds g g')(N:ch b g' u nd v):∀{ns:List (Str×aZ)}{kvs:List (Str×Value)},ck b g ns kvs->ck b g' (ns++[(u,nd)]) (kvs++[(u,v)]):=by
 intro ns
 induction ns with
|nil=> intro _ h;cases(show _=[]from h);exact⟨v,[],rfl,N,rfl⟩
|cons p_ _ ih=> obtain⟨x,nd'⟩:=p_;intro _ h;obtain⟨w,r,rfl,M,h⟩:=h;exact⟨w,_,rfl,M.eq z e,ih h⟩
theorem DictO.size(h:DictO b o kvs):eY o=kvs.length:=by
 obtain⟨es,ep,_,hd,_,hp,_⟩:=h;haveI len:∀{l:List DictEntry}{kvs:List (Str×Value)},PySem.Pairs b.kd l kvs->l.length=kvs.length:=fun h=>by
  induction h with
 |nil=>rfl
 |cons _ _ _ ih=>exact congrArg (·+1) ih
 unfold eY;rw[hd];exact len hp
theorem IU(hq:σ.q=some q)(hp:q.pend=some u)(hz:Nat.ble q.n2i.length aw=true):jQ (.p .n2i) (.f (.str u)) (.p (.nd u)) σ (.ok () {σ with q:=some {q with n2i:=q.n2i++[(u,⟨0,[]⟩)],pend:=none}}):=fun c d av iv xv Q ra ri rx p=>by
 apply bN (v:=iv) ri;intro ti;obtain⟨N,rfl,eN⟩:=rx;apply eT (v:=av) ra;intro a e;cases d.sr hq with|mk a0 sd n2i tp tf rd kvs h1 h2 h3 h4 h5 h6 h7 h8 h9 h10=>
 cases e.symm.trans h5;rw[hp]at h9;obtain⟨hl,v,NA⟩:=h9;haveI hv:v=.ref N:=by cases NA with|mk a d l tx tn k1 k2=>rw[k1,Option.some.inj (eN.symm.trans k2)]
 subst hv;haveI nk:=oW h7;refine wpAny_setItem_pairs (strKind_is _ _ u _) (h6.at (d.h.at_ _ _ e)) (fun h' hd' hs=>?_) (by rw[<- List.length_map (·.1),nk,List.length_map];exact fits hz);rw[A9 (by rw[nk];exact oU hl)]at hd';obtain⟨o,ho,hd⟩:=DictO.of hd';haveI s:=Gh.set_le (o:=o) e (fun u_=>.inr (by rw[DictO.size h6,DictO.size hd,List.length_append];exact Nat.lt_succ_self _));haveI out:=fun{T}(z:T≠aE.p .n2i)=>Gh.set_out (g:=d.g) (a:=some a) (o:=o) z;haveI sm:e8 aE.nds d.g (d.g.set (.p .n2i) (some a) o):=fun T t=>out fun z=>by rw[z]at t;exact t
 haveI o1:=out (T:=.p .self) fun z=>by cases z
 haveI o2:=out (T:=.sd) fun z=>by cases z
 refine p ⟨_,_,d.hset e (fun u_ z=>by cases z) hs ho (Nat.le_succ _),d.r.srtG s (fun T t=>out fun z:T=aE.p .n2i=>t (z▸trivial)) rfl ?_⟩ () s trivial;refine .mk a0 sd a tp tf rd _ (o1.1.trans h1) (o1.2.trans h2) (o2.1.trans h3) (o2.2▸h4) Gh.at_same (by rw[Gh.ob_same];exact hd) (By (g:=d.g) (g':=d.g.set (.p .n2i) (some a) o) (.refl _) sm (NA.eq (g:=d.g) (g':=d.g.set (.p .n2i) (some a) o) (.refl _) sm) h7) (gi.eq (g:=d.g) (.refl _) (out fun z=>by cases z) h8) trivial fun y hy u_=>?_;haveI L:=Kd hy;haveI F:=h10 y L.1 (by rw[hp];exact fun z=>L.2 (by cases z;rfl));exact⟨(sm (.p (.nd y)) trivial).1.trans F.1,(sm (.p (.suc y)) trivial).1.trans F.2⟩
end
section
variable{c:Fr}{x:Mine.X}{a I:Addr}
theorem FM{T:aE}(t:T.exc?):¬T.frm:=by cases T<;>first|exact t.elim|exact id
theorem aW.excG(r:aW c σ g)(s:g.Le g')(e:∀T,¬T.exc?->g'.at_ T=g.at_ T/\g'.ob T=g.ob T)(z:g'.z.st=g.z.st):aW c σ g':=
 ⟨r.fr.mono s fun T t=>e T fun q=>FM q t,fun i=>OR.eq s.z (fun p a u_=>s.p p a) (fun T t=>e T fun q=>by cases T<;>first|exact q|exact t) (r.loc i),eH.eq s.z (fun T t=>e T fun q=>by cases T<;>first|exact q|exact t) r.srt,fun k p h=>⟨(e (.tab k) id).1.trans (r.tab k p h).1,(e (.tab k) id).2▸(r.tab k p h).2.mono s.z⟩,fun k h=>(congrFun z k).trans (r.st k h)⟩
theorem Dy.noted(d:Dy c σ)(ex:bI c.b c.env.frame d.g x a)(here:fU c)(hE:∀d':Dy c σ,Le d d'->bI c.b c.env.frame d'.g x a->E (.ref a) d'.s):notedBy c.b.M c.A c.env (fun e s'=>cameBackBy c.b.M c.A c.env E e s') (.ref a) d.s:=by
 unfold notedBy;refine d.note ex here fun ak le uT hT=>?_;obtain⟨T,hT⟩:=hT;obtain⟨outer,hA⟩:=here;obtain⟨fenv,out',hA',hf,hall,hfs⟩:=c.k.frames;rw[hA]at hA';cases hA';obtain⟨L,hL⟩:=Option.isSome_iff_exists.mp (hall _ (.head _)).2;cases uT with|mk vs e1 e2 e3 e4 e5=>
 rcases e5 with⟨_,q⟩|⟨T',ts,fl,h1,t1,t2,t3,hfl⟩
 ·rw[hT]at q;cases q
 ·have ho:=ak.h.at_ _ _ e1;have hTT:=ak.h.at_ _ _ t1;have hsz3:3 < ts.size:=(Array.getElem?_eq_some_iff.mp t3).1;unfold cameBackBy;refine wpAny_bind (wpAny_field ho e3 h1 ?_);rw[if_neg (show ¬((Value.ref T'==Value.none)=true)from Bool.false_ne_true)];unfold setFlight;refine wpAny_bind (wpAny_field ho e3 h1 ?_);rw[if_pos (show(Value.ref T' != Value.none)=true from rfl)];refine wpAny_setField hTT t2 hsz3 ?_;rw[hL];have hT2:=Heap.get?_update_self (Obj.mapFields (·.setIfInBounds 3 (rawInt L))) hTT (Obj.isFreed_of_fields (Obj.data_mapFields t2 _));have hd2:=Obj.data_mapFields t2 (·.setIfInBounds 3 (rawInt L));generalize Obj.mapFields (·.setIfInBounds 3 (rawInt L)) (ak.g.ob (.exc 1))=o2 at hT2 hd2;have s:=Gh.set_le (o:=o2) t1;have out:=fun{T}(z:T≠aE.exc 1)=>Gh.set_out (g:=ak.g) (a:=some T') (o:=o2) z;refine hE ⟨_,_,ak.hset t1 (fun u_ z=>by cases z) (Heap.SameBut.update ..) hT2 (Nat.le_refl _),ak.r.excG s (fun T t=>out fun z=>t (z▸trivial)) rfl⟩ (le.trans s) (.mk vs ((out (T:=.exc 0) fun z=>by cases z).1.trans e1) ?_ ?_ e4 (.inr ⟨T',ts.setIfInBounds 3 (rawInt L),rawInt L,h1,Gh.at_same,?_,?_,.inr ⟨L,hL,rfl⟩⟩))
  ·exact(congrArg Obj.cls (out (T:=.exc 0) fun z=>by cases z).2).trans e2
  ·exact(congrArg Obj.data (out (T:=.exc 0) fun z=>by cases z).2).trans e3
  ·exact(congrArg Obj.data Gh.ob_same).trans hd2
  ·exact Array.getElem?_setIfInBounds_self_of_lt hsz3
noncomputable def lL(o:Obj):Prop:=∃vs,o.data=.fields vs
noncomputable def kx(o:Obj):Prop:=∀v,o.data≠.cell v
theorem lL.nc(h:lL o):kx o:=fun v q=>by obtain⟨vs,e⟩:=h;rw[e]at q;cases q
noncomputable def cq(c:Fr)(g:Gh)(a:Addr):Prop:=g.z.f a=none/\(∀T,g.at_ T≠some a)/\c.X a=none
theorem HC.touch(h:HC c g s)(f:cq c g I)(b0:c.b.B.get? I=none)(hk:∀a o,a≠I->s.heap.get? a=some o->s'.heap.get? a=some o)(ho:s'.os=s.os)(hg:s'.gens=s.gens)(ht:s.toks<=s'.toks):HC c g s':=by haveI ne:∀{a},g.z.f a≠none->a≠I:=fun h z=>h (z▸f.1);refine⟨fun a o e=>hk a o (ne fun z=>by rw[z]at e;cases e) (h.zf a o e),fun T a e=>hk a _ (fun z=>f.2.1 T (z▸e)) (h.at_ T a e),h.inj,h.nz,h.xz,fun a o e=>(h.xs a o e).imp fun sl r=>⟨hk a _ (fun z=>by rw[z,f.2.2]at e;cases e) r.1,r.2⟩,h.base,h.tabs,sI h.old fun a o o' q q'=>hk a o' (fun z=>by rw[z,b0]at q;cases q) q',ho.trans h.os,hg▸h.gens,Nat.lt_of_lt_of_le h.tk ht⟩
open Classical in
noncomputable def Fr.xp(c:Fr)(I:Addr)(o:Obj):Addr->Option Obj:=fun a=>if a=I then some o else c.X a
theorem ca.plus{o:Obj}(x:c.X I=none):ca c.b c.A c.env c.e (c.xp I o) c.fs c.n:=by haveI k:=c.k;exact⟨k.depth,k.units,k.frames,k.fn,k.glo,k.blt,k.kinds,k.dbg,k.code,fun a m=>(k.frm a m).imp id fun h=>h.imp fun ob h=>h.imp fun es h=>h.imp fun ep h=>⟨(if_neg fun z=>by rw[z,x]at h;cases h.1).trans h.1,h.2⟩⟩
noncomputable def Fr.plus(c:Fr)(I:Addr)(o:Obj)(x:c.X I=none)(E:Value->Shared->Prop):Fr:=⟨c.b,c.ok,c.A,c.env,c.e,E,c.xp I o,c.fs,c.n,ca.plus x⟩
theorem oh(h:a≠I):c.xp I o a=c.X a:=if_neg h
theorem qE{o:Obj}:c.xp I o I=some o:=if_pos rfl
theorem db.plus(x:c.X I=none)(r:db c l g):db (c.plus I o x E) l g:=
 ⟨r.L,r.ns,r.cell,fun n v h1 h2=>(r.free n v h1 h2).imp fun a h=>h.imp fun ob h=>h.imp fun val h=>⟨h.1,(oh fun z=>by rw[z,x]at h;cases h.2.1).trans h.2.1,h.2.2⟩⟩
theorem aW.plus(x:c.X I=none)(r:aW c σ g):aW (c.plus I o x E) σ g:=⟨r.fr.plus x,r.loc,r.srt,r.tab,r.st⟩
theorem aW.minus(x:c.X I=none)(ho:kx o)(r:aW (c.plus I o x E) σ g):aW c σ g:=⟨⟨r.fr.L,r.fr.ns,r.fr.cell,fun n v h1 h2=>by
 obtain⟨a,ob,val,q1,q2,q3,q4⟩:=r.fr.free n v h1 h2;refine⟨a,ob,val,q1,?_,q3,q4⟩;by_cases z:a=I
 ·rw[z]at q2;cases qE.symm.trans q2;exact absurd q3 (ho _)
 ·exact(oh z).symm.trans q2⟩,r.loc,r.srt,r.tab,r.st⟩
theorem HC.plus(h:HC c g s)(f:cq c g I)(ho:s.heap.get? I=some o):HC (c.plus I o f.2.2 E) g s:=
 ⟨h.zf,h.at_,h.inj,h.nz,fun a ob e=>by
  by_cases z:a=I
  ·rw[z];exact⟨f.1,f.2.1⟩
  ·exact h.xz a ob ((oh z).symm.trans e),fun a ob e=>by
  by_cases z:a=I
  ·rw[z]at e ⊢;cases qE.symm.trans e;exact⟨o.slots,ho,fun u_=>rfl⟩
  ·exact h.xs a ob ((oh z).symm.trans e),h.base,h.tabs,h.old,h.os,h.gens,h.tk⟩
theorem HC.minus{x:c.X I=none}(h:HC (c.plus I o x E) g s):HC c g s:=
 haveI ne:∀{a ob},c.X a=some ob->c.xp I o a=some ob:=fun e=>(oh fun z=>by rw[z,x]at e;cases e).trans e
 ⟨h.zf,h.at_,h.inj,h.nz,fun a ob e=>h.xz a ob (ne e),fun a ob e=>h.xs a ob (ne e),h.base,h.tabs,h.old,h.os,h.gens,h.tk⟩
noncomputable def Dy.plus(d:Dy c σ)(E:Value->Shared->Prop)(f:cq c d.g I)(ho:d.s.heap.get? I=some o):Dy (c.plus I o f.2.2 E) σ:=⟨d.g,d.s,d.h.plus f ho,d.r.plus f.2.2⟩
noncomputable def Dy.minus{x:c.X I=none}(ho:kx o)(d:Dy (c.plus I o x E) σ):Dy c σ:=⟨d.g,d.s,d.h.minus,d.r.minus x ho⟩
theorem Dy.still{x:c.X I=none}(nf:I∉c.fs)(d:Dy (c.plus I o x E) σ):cq c d.g I/\d.s.heap.get? I=some o:=by obtain⟨sl,e,f⟩:=d.h.xs I o qE;haveI:=d.h.xz I o qE;exact⟨⟨this.1,this.2,x⟩,by rw[f nf]at e;exact e⟩
end
noncomputable abbrev fT(c:Fr):Value->Shared->Prop:=notedBy c.b.M c.A c.env fun e s'=>cameBackBy c.b.M c.A c.env c.E e s'
noncomputable def Fr.out(c:Fr)(E:Value->Shared->Prop):Fr:=⟨c.b,c.ok,c.A,c.env,c.e,E,c.X,c.fs,c.n,c.k⟩
noncomputable def Dy.out(d:Dy c σ)(E:Value->Shared->Prop):Dy (c.out E) σ:=
 ⟨d.g,d.s,⟨d.h.zf,d.h.at_,d.h.inj,d.h.nz,d.h.xz,d.h.xs,d.h.base,d.h.tabs,d.h.old,d.h.os,d.h.gens,d.h.tk⟩,⟨⟨d.r.fr.L,d.r.fr.ns,d.r.fr.cell,d.r.fr.free⟩,d.r.loc,d.r.srt,d.r.tab,d.r.st⟩⟩
noncomputable def Dy.back(d:Dy (c.out E) σ):Dy c σ:=
 ⟨d.g,d.s,⟨d.h.zf,d.h.at_,d.h.inj,d.h.nz,d.h.xz,d.h.xs,d.h.base,d.h.tabs,d.h.old,d.h.os,d.h.gens,d.h.tk⟩,⟨⟨d.r.fr.L,d.r.fr.ns,d.r.fr.cell,d.r.fr.free⟩,d.r.loc,d.r.srt,d.r.tab,d.r.st⟩⟩
noncomputable abbrev Nx:=Nat->Sx->Option (Option V)
set_option tactic.hygienic true in
noncomputable def nN(fl:Fl)(P:Sx->aG Fl->Prop)(σ:Sx)(r:aG Fl):Prop:=match fl with
|.next=>P σ r
|.cont=>P σ r
|.brk=>r=.ok .next σ
|.ret v=>r=.ok (.ret v) σ
set_option tactic.hygienic true in
noncomputable def gM(nx:Nx)(y:Str)(K:Sx->aG Fl->Prop):Nat->Nat->Sx->aG Fl->Prop
|0,_,_,r=>r=.bad
|m+1,i,σ,r=>match nx i σ with
 |none=>r=.bad
 |some none=>r=.ok .next σ
 |some (some v)=>∃rb f,K {σ with l:=ag σ.l y v} rb/\r=rb.bnd f/\∀fl af,rb=.ok fl af->nN fl (gM nx y K m (i+1)) af (f fl af)
set_option tactic.hygienic true in
theorem mW{K:Sx->aG Fl->Prop}:gM nx y K (m+1) i σ r=match nx i σ with
 |none=>r=.bad
 |some none=>r=.ok .next σ
 |some (some v)=>∃rb f,K {σ with l:=ag σ.l y v} rb/\r=rb.bnd f/\∀fl af,rb=.ok fl af->nN fl (gM nx y K m (i+1)) af (f fl af):=rfl
structure oq(c:Fr)(I:Addr)(nx:Nx)(St:Nat->Gh->Heap->Prop):Prop where
 self:∀i g(s:Shared)(A:Around)(Q:Value->Shared->Prop)(E:Value->Shared->Prop),A.handled=none->St i g s.heap->Q (.ref I) s->wpAny c.b.M A (pyIter (.ref I)) Q E s
 fld:∀i g h,St i g h->∃o,h.get? I=some o/\lL o
 ext:∀i g g' h h',St i g h->g.Le g'->(∀a o,g'.z.f a=some o->h'.get? a=some o)->h'.get? I=h.get? I->St i g' h'
 item:∀i σ(d:Dy c σ)v(Q:Option Value->Shared->Prop)(E:Value->Shared->Prop),c.A.handled=none->cq c d.g I->St i d.g d.s.heap->nx i σ=some (some v) ->
  (∀h' tk val,d.s.toks<=tk->St (i+1) d.g h'->(∀a o,a≠I->d.s.heap.get? a=some o->h'.get? a=some o)->VV c.b d.g v val->Q (some val) {d.s with heap:=h',toks:=tk})->wpAny c.b.M c.A (pyNext (.ref I)) Q E d.s
 done:∀i σ(d:Dy c σ)(Q:Option Value->Shared->Prop)(E:Value->Shared->Prop),c.A.handled=none->cq c d.g I->St i d.g d.s.heap->nx i σ=some none ->
  (∀h' tk,d.s.toks<=tk->(∀a o,a≠I->d.s.heap.get? a=some o->h'.get? a=some o)->Q none {d.s with heap:=h',toks:=tk})->wpAny c.b.M c.A (pyNext (.ref I)) Q E d.s
section
variable{c:Fr}{σ af:Sx}{I:Addr}{e:Ev}{n:Nat}{nx:Nx}{St:Nat->Gh->Heap->Prop}
theorem aB.bndO{ak:Dy c σ₁}{ay:Dy (c.out (fT c)) au}{f:α->Sx->aG γ}{Q:β->Shared->Prop}{Q':δ->Shared->Prop}(here:fU c)(le:ak.g.Le ay.g)(p:aB ak R' (r.bnd f) Q')
  (h:∀v af(d':Dy c af)val,r=.ok v af->ak.g.Le d'.g->ay.g.Le d'.g->R c.b d'.g v val->aB d' R' (f v af) Q'->Q val d'.s):aB ay R r Q:=by
 cases r with
|ok v s=>exact fun d' val le' r=>h v s d'.back val rfl (le.trans le') le' r (p.after (le.trans le'))
|exc z s=>exact⟨p.1,fun d' a le' ex=>d'.back.noted ex here fun d'' le'' ex'=>p.2 d'' a (le.trans (Gh.Le.trans le' le'')) ex'⟩
|bad=>exact p
theorem aB.bndI{ak:Dy c σ₁}{ay:Dy (c.plus I o x (fT c)) au}{r:aG α}{f:α->Sx->aG γ}{Q:β->Shared->Prop}{Q':δ->Shared->Prop}(hf:kx o)(nf:I∉c.fs)(here:fU c)(le:ak.g.Le ay.g)(p:aB ak R' (r.bnd f) Q')
  (h:∀v af(d':Dy c af)val,r=.ok v af->ay.g.Le d'.g->cq c d'.g I->d'.s.heap.get? I=some o->R c.b d'.g v val->aB d' R' (f v af) Q'->Q val d'.s):aB ay R r Q:=by
 cases r with
|ok v s=>exact fun d' val le' r=>h v s (d'.minus hf) val rfl le' (d'.still nf).1 (d'.still nf).2 r (p.after (le.trans le'))
|exc z s=>exact⟨p.1,fun d' a le' ex=>(d'.minus hf).noted ex here fun d'' le'' ex'=>p.2 d'' a (le.trans (Gh.Le.trans le' le'')) ex'⟩
|bad=>exact p
theorem cq.noB(h:HC c g s)(r:aW c σ g)(f:cq c g I):c.b.B.get? I=none:=by
 cases q:c.b.B.get? I with
|none=>rfl
|some o=>
  by_cases m:I∈c.b.tabA
  ·obtain⟨k,z⟩:=r.tb I m;exact absurd z (f.2.1 _)
  ·haveI:=h.base I o q m;rw[f.1]at this;cases this
noncomputable def Dy.moved(d:Dy c σ)(f:cq c d.g I){h':Heap}(hk:∀a o,a≠I->d.s.heap.get? a=some o->h'.get? a=some o)(ht:d.s.toks<=tk):Dy c σ:=⟨d.g,{d.s with heap:=h',toks:=tk},d.h.touch f (f.noB d.h d.r) hk rfl rfl ht,d.r⟩
inductive rX(c:Fr)(I:Addr)(nx:Nx)(St:Nat->Gh->Heap->Prop)(y:Str)(K:Sx->aG Fl->Prop)(Q:Flow->Shared->Prop)(m:Nat)(s:Shared):Prop
|mk (i:Nat) (σ:Sx) (d:Dy c σ) (r:aG Fl):d.s=s->cq c d.g I->St i d.g s.heap->gM nx y K m i σ r->aB d e6 r Q->rX c I nx St y K Q m s
set_option tactic.hygienic true in
theorem Cl{y:Str}{body:List Stmt}{K:Sx->aG Fl->Prop}(hB:∀σ r,K σ r->SB e n body σ r)(hy:bF e y)(i:In c e n)(here:fU c)(d:Dy c σ)(ho:o.isFreed=false)(C:oq c d.s.heap.objs.size nx St)(st0:St 0 d.g (d.s.heap.push o)){r:aG Fl}{Q:Flow->Shared->Prop}(hr:gM nx y K k 0 σ r)(p:aB d e6 r Q):
  codeAny c.b.M c.A (.forLoop (.Name y py) (.ref d.s.heap.objs.size) body [] c.env) (fun r s'=>match r with|.ok f=>Q f s'|.error e=>cameBackBy c.b.M c.A c.env c.E e s') {d.s with heap:=d.s.heap.push o}:=by
 haveI hI:=Heap.get?_none_of_le (h:=d.s.heap) (Nat.le_refl d.s.heap.objs.size);haveI nf:d.s.heap.objs.size∉c.fs:=fun m=>by obtain⟨ob,_,_,h,_⟩:=d.frame m;rw[hI]at h;cases h
 haveI I0:rX c d.s.heap.objs.size nx St y K Q k {d.s with heap:=d.s.heap.push o}:=.mk 0 σ (d.keeps (s':={d.s with heap:=d.s.heap.push o}) (fun u_ u_ h=>Heap.get?_push_of_some _ h) rfl rfl d.h.tk) r rfl (d.h.fresh hI) st0 hr (p.after (Gh.Le.refl _));generalize d.s.heap.objs.size=I at C nf I0;clear hI st0 hr p;refine codeAny_forLoop (I:=rX c I nx St y K Q) (fun m ap hInv=>?_) k I0;clear I0;cases hInv with|mk i' σ₁ ak dw lb dp ms lg lh=>
 subst lb;cases m with
|zero=>cases(show dw=.bad from lg);exact lh.elim
|succ m=>
  rw[mW]at lg;cases hn:nx i' σ₁ with
 |none=>rw[hn]at lg;cases(show dw=.bad from lg);exact lh.elim
 |some v=>
   rw[hn]at lg;cases v with
  |none=>cases(show dw=.ok .next σ₁ from lg);exact C.done i' σ₁ ak _ _ i.h dp ms hn fun h' tk ht hk=>wpAny_execs_nil (lh (ak.moved dp hk ht) .next (Gh.Le.refl _) rfl)
  |some v=>
    obtain⟨rb,f,KV,rfl,hf⟩:=lg;refine C.item i' σ₁ ak v _ _ i.h dp ms hn fun h' tk val ht st' hk rv=>?_;clear hn ms;obtain⟨oI,hoI,hfI⟩:=C.fld _ _ _ st';refine wpAny_assign_Name (kj (c:=c.plus I oI dp.2.2 (fT c)) hy i.e ((ak.moved dp hk ht).plus (fT c) dp hoI) rv fun ay cC=>?_);refine hB _ _ KV (c.plus I oI dp.2.2 (fT c)) ⟨i.e,i.n,i.h⟩ here ay _ (aB.bndI hfI.nc nf here cC lh fun fl cD bH fv uU gW Bg KW rf mt=>?_);haveI Bh:=C.ext _ _ bH.g _ bH.s.heap st' (Gh.Le.trans cC gW) bH.h.zf (KW.trans hoI.symm);haveI N:=hf fl cD uU;cases fl with
   |next=>cases(show fv=.next from rf);exact⟨m,Nat.lt_succ_self m,.mk (i'+1) cD bH _ rfl Bg Bh N mt⟩
   |cont=>cases(show fv=.cont from rf);exact⟨m,Nat.lt_succ_self m,.mk (i'+1) cD bH _ rfl Bg Bh N mt⟩
   |brk=>cases(show fv=.brk from rf);rw[show f .brk cD=_ from N]at mt;exact mt bH .next (Gh.Le.refl _) rfl
   |ret u=>obtain⟨w,rfl,rw_⟩:=rf;rw[show f (.ret u) cD=_ from N]at mt;exact mt bH (.ret w) (Gh.Le.refl _) ⟨w,rfl,rw_⟩
end
noncomputable def bw(xs:List F):Nx:=fun i u_=>match aq xs i with
|some x=>some (some (.f x))
|none=>some none
theorem bC:∀{l:List α}{i:Nat},aq l i=l[i]?:=@fun a b=>match a,b with
|[],_=>List.getElem?_nil.symm
|_::_,0=>rfl
|_::r,i+1=>(bC (l:=r) (i:=i)).trans List.getElem?_cons_succ.symm
noncomputable def bX(v:V)(σ:Sx)(nx:Nx):Prop:=∀(c:Fr),c.A.handled=none->∀(d:Dy c σ)(av:Value)(Q:Value->Shared->Prop),VD d v av->(∀o St,o.isFreed=false->(∀c':Fr,c'.b=c.b->oq c' d.s.heap.objs.size nx St)->St 0 d.g (d.s.heap.push o)->Q (.ref d.s.heap.objs.size) {d.s with heap:=d.s.heap.push o})->Wp c (pyIter av) Q d.s
noncomputable def Ft(b:aN)(I:Addr)(xs:List F)(fp:List Addr)(P:Nat->Value->Prop)(St:Nat->Heap->Prop):Nat->Gh->Heap->Prop:=fun i g h=>
 St i h/\i<=xs.length/\(∀a∈fp,a≠I->∃o,g.z.f a=some o/\h.get? a=some o)/\∀j v,j < xs.length->P j v->∃x,aq xs j=some x/\FR b g.z x v
section
variable{b:aN}{I:Addr}{xs:List F}{fp:List Addr}{P:Nat->Value->Prop}{St:Nat->Heap->Prop}
theorem mV{n:Nat}(hn:n=xs.length)(hW:∀A:Around,A.handled=none->Walks b.prog b.w A I fp [I] n P St)(hf:∀i h,St i h->∃o,h.get? I=some o/\lL o)(c:Fr)(hb:c.b=b):oq c I (bw xs) (Ft b I xs fp P St):=by
 subst hb hn;have mv:∀{h h':Heap},(∀a o,a∉[I]->h.get? a=some o->h'.get? a=some o)->∀a o,a≠I->h.get? a=some o->h'.get? a=some o:=fun k a o n=>k a o fun m=>n (List.mem_singleton.mp m);refine⟨fun i g s A Q E hh st hq=>(hW A hh).self i s Q E st.1 hq,fun i g h st=>hf i h st.1,fun i g g' h h' st le hz hI=>⟨(hW {} rfl).frame i h h' st.1 fun a m o ho=>?_,st.2.1,fun a m n=>?_,fun j v hj hp=>(st.2.2.2 j v hj hp).imp fun x r=>⟨r.1,FR.mono le.z r.2⟩⟩,fun i σ d v Q E hh f st hn hQ=>?_,fun i σ d Q E hh f st hn hQ=>?_⟩
 ·by_cases z:a=I
  ·rw[z,hI];exact z▸ho
  ·obtain⟨io,h1,h2⟩:=st.2.2.1 a m z;rw[h2]at ho;cases(ho);exact hz a o (le.z.f a o h1)
 ·obtain⟨io,h1,h2⟩:=st.2.2.1 a m n;exact⟨io,le.z.f a io h1,hz a io (le.z.f a io h1)⟩
 ·obtain⟨st,hi,hc,hp⟩:=st;unfold bw at hn;cases hx:aq xs i with
 |none=>rw[hx]at hn;cases(hn)
 |some x=> rw[hx]at hn;cases(hn);have hlt:i < xs.length:=(List.getElem?_eq_some_iff.mp (bC.symm.trans hx)).1;refine wpAny_with_toks (n:=d.s.toks) (Nat.le_refl _) ((hW c.A hh).item i d.s _ _ hlt st fun val h' tk hP st' hk ht=>?_);obtain⟨y,h1,h2⟩:=hp i val hlt hP;cases hx.symm.trans h1;exact hQ h' tk val ht ⟨st',hlt,fun a m n=>(hc a m n).imp fun o r=>⟨r.1,mv hk a o n r.2⟩,hp⟩ (mv hk) h2
 ·obtain⟨st,hi,hc,hp⟩:=st;unfold bw at hn;cases hx:aq xs i with
 |some x=>rw[hx]at hn;cases(hn)
 |none=> haveI:i=xs.length:=Nat.le_antisymm hi (List.getElem?_eq_none_iff.mp (bC.symm.trans hx));subst this;exact wpAny_with_toks (n:=d.s.toks) (Nat.le_refl _) ((hW c.A hh).done d.s _ _ st fun h' tk hk ht=>hQ h' tk ht (mv hk))
end
theorem FRs.get:∀{xs:List F}{vs:List Value}{j:Nat}{v:Value},FRs b z xs vs->vs[j]?=some v->∃x,aq xs j=some x/\FR b z x v:=@fun c d f g i k=>match c,d,f,g,i,k with
|[],_,_,_,h,e=>by cases(show _=[]from h);rw[List.getElem?_nil]at e;cases e
|x::_,_,0,_,h,e=>by obtain⟨w,r,rfl,a,_⟩:=h;cases e;exact⟨x,rfl,a⟩
|_::_,_,j+1,_,h,e=>by obtain⟨w,r,rfl,_,h⟩:=h;exact FRs.get (j:=j) h (List.getElem?_cons_succ.symm.trans e)
theorem qc{h:Heap}(e:h.get? l=some o):l≠h.objs.size:=Nat.ne_of_lt (Heap.lt_size e)
theorem dc:bX (.f (.list xs)) σ (bw xs):=fun c hh d av Q ra h=>by
 obtain⟨vs,o0_,hr⟩:=ra;obtain⟨l,n,rfl,hz⟩:=o0_;have hI:=d.h.zf _ _ hz;haveI hW:=fun(A:Around)(hh:A.handled=none)=>Walks.list (prog:=c.b.prog) (w:=c.b.w) (A:=A) hh d.s.heap.objs.size l (qc hI) vs.toArray;haveI hn:vs.toArray.size=xs.length:=by rw[List.size_toArray,FRs.length hr]
 refine wpAny_pyIter_list (bz hI) (h _ _ rfl (mV hn hW fun i h st=>st.1.imp fun o r=>⟨r.1,_,r.2.2⟩) ⟨⟨⟨_,Heap.get?_push_size _ rfl,rfl,rfl⟩,bz (Heap.get?_push_of_some _ hI)⟩,Nat.zero_le _,fun a m n=>?_,fun j v u_ hv=>FRs.get hr (List.getElem?_toArray.symm.trans hv)⟩);cases List.mem_singleton.mp ((List.mem_cons.mp m).resolve_left n);exact⟨_,hz,Heap.get?_push_of_some _ hI⟩
theorem tC:bX (.f (.tup xs)) σ (bw xs):=fun c hh d av Q ra h=>by
 obtain⟨vs,o0_,hr⟩:=ra;obtain⟨l,n,rfl,hz⟩:=o0_;have hI:=d.h.zf _ _ hz;haveI hW:=fun(A:Around)(hh:A.handled=none)=>Walks.tuple (prog:=c.b.prog) (w:=c.b.w) (A:=A) hh d.s.heap.objs.size l (qc hI) vs.toArray;haveI hn:vs.toArray.size=xs.length:=by rw[List.size_toArray,FRs.length hr]
 refine wpAny_pyIter_tuple (jF hI) (h _ _ rfl (mV hn hW fun i h st=>st.1.imp fun o r=>⟨r.1,_,r.2.2⟩) ⟨⟨⟨_,Heap.get?_push_size _ rfl,rfl,rfl⟩,jF (Heap.get?_push_of_some _ hI)⟩,Nat.zero_le _,fun a m n=>?_,fun j v u_ hv=>FRs.get hr (List.getElem?_toArray.symm.trans hv)⟩);cases List.mem_singleton.mp ((List.mem_cons.mp m).resolve_left n);exact⟨_,hz,Heap.get?_push_of_some _ hI⟩
noncomputable def DJ(t:Str):List F:=t.cps.toList.map fun k=>F.str ⟨#[k]⟩
theorem oj{l:List α}(h:l[j]?=some x):aq (l.map f) j=some (f x):=by rw[bC,List.getElem?_map,h];rfl
theorem Ds(ha:t.cps.all (· < 128)=true):bX (.f (.str t)) σ (bw (DJ t)):=fun c hh d av Q ra h=>by revert h;apply bN ra;intro tk h;haveI hW:=fun(A:Around)(hh:A.handled=none)=>Walks.strAscii (prog:=c.b.prog) (w:=c.b.w) (A:=A) hh d.s.heap.objs.size t tk;refine wpAny_pyIter_ascii ha (h _ _ rfl (mV (List.length_map ..).symm hW fun i h st=>st.imp fun o r=>⟨r.1,_,r.2.2⟩) ⟨⟨_,Heap.get?_push_size _ rfl,rfl,rfl⟩,Nat.zero_le _,fun a m n=>absurd (List.mem_singleton.mp m) n,fun j v u_ hv=>?_⟩);obtain⟨k,u,hk,rfl⟩:=hv;exact⟨_,oj (by rw[Array.getElem?_toList];exact hk),rfl⟩
theorem B3:∀{es:List (Str×F)}{kvs:List (Str×Value)},DRs b z es kvs->kvs.map (·.1)=es.map (·.1):=by
 intro es
 induction es with
|nil=> intro _ h;cases(show _=[]from h);rfl
|cons p_ _ ih=> obtain⟨k,_⟩:=p_;intro _ h;obtain⟨v,r,rfl,_,h⟩:=h;exact congrArg (k::·) (ih h)
theorem Gv{kvs:List (Str×Value)}{b:aN}(e:kvs.map (·.1)=l)(h:∃k x,kvs[j]?=some (k,x)/\b.kd.is k v=true):∃x,aq (l.map F.str) j=some x/\FR b z x v:=by obtain⟨k,x,hk,hi⟩:=h;obtain⟨t,rfl⟩:=Value.isStrOf_shape hi;exact⟨.str k,oj (by rw[<- e,List.getElem?_map,hk];rfl),rfl⟩
theorem oZ:bX (.f (.dict es)) σ (bw ((es.map (·.1)).map F.str)):=fun c hh d av Q ra h=>by
 obtain⟨kvs,ra,rr⟩:=ra;cases ra with|mk l o e h1 h2 h3=>
 subst e;have ho:=d.h.zf _ _ h2;have ek:=B3 rr;obtain⟨ep,hA⟩:=(h3.at ho).dictAt;haveI hW:=fun(A:Around)(hh:A.handled=none)=>Walks.dictKeys (prog:=c.b.prog) (w:=c.b.w) (A:=A) (knd:=c.b.kd) hh d.s.heap.objs.size l (qc ho) kvs ep;haveI hn:kvs.length=((es.map (·.1)).map F.str).length:=by rw[<- ek,List.length_map,List.length_map]
 refine wpAny_pyIter_dict h1 hA (h _ _ rfl (mV hn hW fun i h st=>st.1.imp fun o r=>⟨r.1,_,r.2.2⟩) ⟨⟨⟨_,Heap.get?_push_size _ rfl,rfl,rfl⟩,hA.push _⟩,Nat.zero_le _,fun a m n=>?_,fun j v u_ hv=>Gv ek hv⟩);cases List.mem_singleton.mp ((List.mem_cons.mp m).resolve_left n);exact⟨_,h2,Heap.get?_push_of_some _ ho⟩
noncomputable def ot(a c:Int)(n:Nat):List F:=(List.range n).map fun(j:Nat)=>F.int (a+(j:Int)*c)
theorem wz{n:Nat}{σ:Sx}(hs:Builtin.Range.small i j k=true)(hn:decide (Builtin.Range.rangeSize i j k=(n:Int))=true):bX (.f (.rng i j k)) σ (bw (ot i k n)):=fun c hh d av Q ra h=>by
 cases ra with|mk a t u w e hz=>
 subst e;have hn:=of_decide_eq_true hn;haveI hW:=fun(A:Around)(hh:A.handled=none)=>Walks.range (prog:=c.b.prog) (w:=c.b.w) (A:=A) hh d.s.heap.objs.size i k n;have hl:n=(ot i k n).length:=by unfold ot;rw[List.length_map,List.length_range]
 refine wpAny_pyIter_range (d.h.zf _ _ hz) hs (h _ _ rfl (mV hl hW fun i h st=>⟨_,st,_,rfl⟩) ⟨?_,Nat.zero_le _,fun a m n=>absurd (List.mem_singleton.mp m) n,fun j v hj hv=>?_⟩)
 ·show IsRangeIter _ _ (i+((0:Nat):Int)*k) ((n:Int)-((0:Nat):Int)) k;rw[show i+((0:Nat):Int)*k=i from(congrArg (i+·) (Int.zero_mul k)).trans (Int.add_zero i),show(n:Int)-((0:Nat):Int)=Builtin.Range.rangeSize i j k from(Int.sub_zero _).trans hn.symm];exact Heap.get?_push_size _ rfl
 ·obtain⟨t,rfl⟩:=hv;refine⟨_,oj (List.getElem?_range ?_),rfl⟩;rw[<- hl]at hj;exact hj
noncomputable def md(p:P):Nx:=fun i σ=>match nH σ p with
|some xs=>match aq xs.1 i with
 |some x=>some (some (.f x))
 |none=>some none
|none=>none
noncomputable def iB(n:Nat)(mk:Str->V):Nx:=fun i σ=>match σ.q with
|some q=>match Nat.beq q.n2i.length n with
 |true=>match aq q.n2i i with
  |some p=>some (some (mk p.1))
  |none=>some none
 |false=>none
|none=>none
theorem Ax(x:Heap.SameBut I h h'):∀a o,a≠I->h.get? a=some o->h'.get? a=some o:=fun a o n e=>(x.2 a n).trans e
theorem xu(hp:eQ σ xs p):bX (.p p) σ (md p):=fun c hh d av Q ra h=>by
 revert h;apply ma hp ra;intro l vs n e hI hr h;refine wpAny_pyIter_list (bz hI) (h _ (fun i g h=>h.IsListIter d.s.heap.objs.size l i/\g.at_ (.p p)=some l) rfl (fun c' hb=>?_) ⟨⟨_,Heap.get?_push_size _ rfl,rfl,rfl⟩,e⟩);refine⟨fun i g s A Q E hh st hq=>wpAny_pyIter_listiter st.1 hq,fun i g h st=>st.1.imp fun o r=>⟨r.1,_,r.2.2⟩,fun i g g' h h' st le u_ hI=>⟨st.1.imp fun o r=>⟨hI.trans r.1,r.2⟩,le.p _ _ st.2⟩,fun i σ d v Q E hh f st hn hQ=>?_,fun i σ d Q E hh f st hn hQ=>?_⟩
 ·unfold md at hn;cases hl:nH σ p with
 |none=>rw[hl]at hn;cases hn
 |some ys=>
   rw[hl]at hn;cases(ys.2.at_ d).v st.2 with|mk _ us m hI hr=>
   cases hx:aq ys.1 i with
  |none=>simp only[hx]at hn;cases hn
  |some x=> simp only[hx]at hn;cases hn;obtain⟨val,h1,h2⟩:=FRs.at_ hr hx;exact wpAny_pyNext_list_item st.1 (bz hI) (x:=val) (List.getElem?_toArray.trans h1) fun h' st' hs=>hQ h' d.s.toks val (Nat.le_refl _) ⟨st',st.2⟩ (Ax hs) h2
 ·unfold md at hn;cases hl:nH σ p with
 |none=>rw[hl]at hn;cases hn
 |some ys=>
   rw[hl]at hn;cases(ys.2.at_ d).v st.2 with|mk _ us m hI hr=>
   cases hx:aq ys.1 i with
  |some x=>simp only[hx]at hn;cases hn
  |none=>exact wpAny_pyNext_list_end hh st.1 (bz hI) (by rw[List.getElem?_toArray,List.getElem?_eq_none_iff,FRs.length hr];exact List.getElem?_eq_none_iff.mp (bC.symm.trans hx)) fun h' he=>hQ h' d.s.toks (Nat.le_refl _) he
theorem uG:∀{ns:List (Str×aZ)}{kvs:List (Str×Value)}{i:Nat},ck b g ns kvs->(∀p,aq ns i=some p->∃v,kvs[i]?=some (p.1,v)/\ch b g p.1 p.2 v)/\(aq ns i=none->kvs[i]?=none):=@fun c d e f=>match c,d,e,f with
|[],_,_,h=>by cases(show _=[]from h);exact⟨fun u_ q=>(by cases q),fun u_=>List.getElem?_nil⟩
|(x,nd)::_,_,0,h=>by obtain⟨v,r,rfl,a,_⟩:=h;exact⟨fun p q=>by cases q;exact⟨v,rfl,a⟩,fun q=>by cases q⟩
|(_,_)::_,_,i+1,h=>by obtain⟨v,r,rfl,_,h⟩:=h;rw[List.getElem?_cons_succ];exact uG h
section
variable{b:aN}{I l ep:Nat}{mk:Str->V}{It:Nat->Heap->Prop}{R:Str->Value->Value->Prop}
theorem ya{es:Array DictEntry}(hd:gx.data=.dict es ep)(self:∀i(s:Shared)(A:Around)(Q:Value->Shared->Prop)(E:Value->Shared->Prop),A.handled=none->It i s.heap->Q (.ref I) s->wpAny b.M A (pyIter (.ref I)) Q E s)(fld:∀i h,It i h->∃o,h.get? I=some o/\lL o)(ext:∀i h h',It i h->h'.get? I=h.get? I->It i h')
  (item:∀i A E(s:Shared)(Q:Option Value->Shared->Prop)kvs k v,It i s.heap->s.heap.DictAt b.kd l kvs ep->kvs.length=eY gx->kvs[i]?=some (k,v)->(∀h' out,R k v out->It (i+1) h'->Heap.SameBut I s.heap h'->Q (some out) {s with heap:=h'})->wpAny b.M A (pyNext (.ref I)) Q E s)
  (stop:∀i(A:Around)E(s:Shared)(Q:Option Value->Shared->Prop)kvs,A.handled=none->It i s.heap->s.heap.DictAt b.kd l kvs ep->kvs.length=eY gx->kvs[i]?=none->(∀h',Heap.ExtBut I s.heap h'->Q none {s with heap:=h'})->wpAny b.M A (pyNext (.ref I)) Q E s)
  (hR:∀g k nd v out,ch b g k nd v->R k v out->VV b g (mk k) out) (c:Fr) (hb:c.b=b):oq c I (iB (eY gx) mk) (fun i g h=>It i h/\g.at_ (.p .n2i)=some l/\Dg gx (g.ob (.p .n2i))):=by
 subst hb;have key:∀{σ:Sx}(d:Dy c σ){q:bW},σ.q=some q->Nat.beq q.n2i.length (eY gx)=true->d.g.at_ (.p .n2i)=some l->Dg gx (d.g.ob (.p .n2i))->∃kvs,d.s.heap.DictAt c.b.kd l kvs ep/\kvs.length=eY gx/\ck c.b d.g q.n2i kvs:=fun d q hq hl e dg=>by
  cases d.sr hq with|mk a' sd n2i tp tf rd kvs h1 h2 h3 h4 h5 h6 h7 h8 h9 h10=>
  cases h5.symm.trans e;have hn:kvs.length=eY gx:=by rw[<- Nat.eq_of_beq_eq_true hl,<-List.length_map (·.1),oW h7,List.length_map]
  have ho:d.g.ob (.p .n2i)=gx:=dg.resolve_right fun z=>by rw[DictO.size h6,hn]at z;exact Nat.lt_irrefl _ z
  have hg:=d.h.at_ _ _ e;rw[ho]at h6 hg;obtain⟨es',ep',x1,x2,x3⟩:=h6;rw[hd]at x2;cases x2;exact⟨kvs,⟨gx,es,hg,x1,hd,x3⟩,hn,h7⟩
 refine⟨fun i g s A Q E hh st hq=>self i s A Q E hh st.1 hq,fun i g h st=>fld i h st.1,fun i g g' h h' st le u_ hI=>⟨ext i h h' st.1 hI,le.p _ _ st.2.1,st.2.2.trans (le.n _ st.2.1)⟩,fun i σ d v Q E hh f st hn hQ=>?_,fun i σ d Q E hh f st hn hQ=>?_⟩
 ·unfold iB at hn;cases hq:σ.q with
 |none=>rw[hq]at hn;cases hn
 |some q=>
   rw[hq]at hn;cases hl:Nat.beq q.n2i.length (eY gx)with
  |false=>simp only[hl]at hn;cases hn
  |true=>
    obtain⟨kvs,k1,k2,k3⟩:=key d hq hl st.2.1 st.2.2;cases hx:aq q.n2i i with
   |none=>simp only[hl,hx]at hn;cases hn
   |some p=> simp only[hl,hx]at hn;cases hn;obtain⟨w,r1,r2⟩:=(uG k3).1 p hx;exact item i _ _ d.s _ kvs _ w st.1 k1 k2 r1 fun h' out r st' hs=>hQ h' d.s.toks out (Nat.le_refl _) ⟨st',st.2⟩ (Ax hs) (hR _ _ _ _ _ r2 r)
 ·unfold iB at hn;cases hq:σ.q with
 |none=>rw[hq]at hn;cases hn
 |some q=>
   rw[hq]at hn;cases hl:Nat.beq q.n2i.length (eY gx)with
  |false=>simp only[hl]at hn;cases hn
  |true=>
    obtain⟨kvs,k1,k2,k3⟩:=key d hq hl st.2.1 st.2.2;cases hx:aq q.n2i i with
   |some p=>simp only[hl,hx]at hn;cases hn
   |none=>exact stop i _ _ d.s _ kvs hh st.1 k1 k2 ((uG k3).2 hx) fun h' he=>hQ h' d.s.toks (Nat.le_refl _) he
end
section
variable{σ:Sx}{q:bW}
theorem Bb(hq:σ.q=some q)(d:Dy c σ)(e:d.g.at_ (.p .n2i)=some l):∃kvs es ep,d.s.heap.DictAt c.b.kd l kvs ep/\(d.g.ob (.p .n2i)).data=.dict es ep/\eY (d.g.ob (.p .n2i))=q.n2i.length/\kvs.length=q.n2i.length:=by
 cases d.sr hq with|mk a' sd n2i tp tf rd kvs h1 h2 h3 h4 h5 h6 h7 h8 h9 h10=>
 haveI hn:kvs.length=q.n2i.length:=by rw[<- List.length_map (·.1),oW h7,List.length_map]
 haveI hz:=(DictO.size h6).trans hn;obtain⟨es,ep,x1,x2,x3⟩:=h6;exact⟨kvs,es,ep,⟨_,es,d.h.at_ _ _ e,x1,x2,x3⟩,x2,hz,hn⟩
theorem GF(hq:σ.q=some q):bX (.p .n2i) σ (iB q.n2i.length fun x=>.f (.str x)):=fun c hh d av Q ra h=>by
 revert h;apply eT ra;intro l e h;obtain⟨kvs,es,ep,hA,hd,hz,hn⟩:=Bb hq d e;rw[<- hz]at h;refine wpAny_pyIter_dict (d.h.sys e (fun u_ z=>by cases z)) hA (h _ _ rfl (ya (b:=c.b) (It:=fun i h=>h.IsKeyIter d.s.heap.objs.size l i (eY (d.g.ob (.p .n2i))) ep) (R:=fun k u_ out=>c.b.kd.is k out=true) hd (fun i s A Q E hh st hq=>wpAny_pyIter_keyiter st hq) (fun i h st=>st.imp fun o r=>⟨r.1,_,r.2.2⟩) (fun i h h' st hI=>st.imp fun o r=>⟨hI.trans r.1,r.2⟩)
  (fun i A E s Q kvs k v it hA hl hx hQ=>wpAny_pyNext_dict_item (hl▸it) hA hx fun key h' r st' hs=>hQ h' key r (hl▸st') hs) (fun i A E s Q kvs hh it hA hl hx hQ=>wpAny_pyNext_dict_end hh (hl▸it) hA hx hQ) fun g k nd v out u_ r=>?_) ⟨⟨_,Heap.get?_push_size _ rfl,rfl,by rw[hz,<-hn];rfl⟩,e,.inl rfl⟩)
 obtain⟨t,rfl⟩:=Value.isStrOf_shape r;exact rfl
theorem Ci(hq:σ.q=some q):bX .vals σ (iB q.n2i.length fun x=>.p (.nd x)):=fun c hh d av Q ra h=>by
 cases ra with|mk l v ev e hv=>
 subst ev;obtain⟨kvs,es,ep,hA,hd,hz,hn⟩:=Bb hq d e;rw[<- hz]at h;exact wpAny_pyIter_values ⟨_,d.h.zf _ _ hv,rfl,rfl⟩ hA (h _ _ rfl (ya (b:=c.b) (It:=fun i h=>h.IsValIter d.s.heap.objs.size l i (eY (d.g.ob (.p .n2i))) ep) (R:=fun u_ v out=>out=v) hd (fun i s A Q E hh st hq=>wpAny_pyIter_valiter st hq) (fun i h st=>st.imp fun o r=>⟨r.1,_,r.2.2⟩) (fun i h h' st hI=>st.imp fun o r=>⟨hI.trans r.1,r.2⟩)
  (fun i A E s Q kvs k v it hA hl hx hQ=>wpAny_pyNext_values_item (hl▸it) hA hx fun h' st' hs=>hQ h' v rfl (hl▸st') hs) (fun i A E s Q kvs hh it hA hl hx hQ=>wpAny_pyNext_values_end hh (hl▸it) hA hx hQ) fun g k nd v out N r=>by cases N with|mk a d l tx tn k1 k2=>exact⟨a,r.trans k1,k2⟩) ⟨⟨_,Heap.get?_push_size _ rfl,rfl,by rw[hz,<-hn];rfl⟩,e,.inl rfl⟩)
end
noncomputable def SS(e:Ev)(n:Nat)(st:Stmt)(σ:Sx)(r:aG Fl):Prop:=∀(c:Fr),In c e n->fU c->∀(d:Dy c σ)(Q:Flow->Shared->Prop),aB d e6 r Q->Wp c (exec st c.env) Q d.s
noncomputable def xU:Unit->Sx->aG Fl:=fun u_ σ=>.ok .next σ
noncomputable def iO:Expr->Bool
|.ListComp ..=>false
|.SetComp ..=>false
|.DictComp ..=>false
|_=>true
theorem pW(h:iO x=true):swapsWith x t l env=pure false:=by cases x<;>first|rfl|cases h
section
variable{e:Ev}{n:Nat}{σ σ₁ au:Sx}{st:Stmt}{rest body orelse:List Stmt}{x o i t:Expr}{rs r:aG Fl}{v:V}
theorem fL{d:Dy c σ}(p:aB d e6 (.ok .next σ) Q):Q .next d.s:=p d .next (Gh.Le.refl _) rfl
theorem eA:SB e n [] σ (.ok .next σ):=fun c i h d Q p=>wpAny_execs_nil (fL p)
theorem cG(hs:SS e n st σ (.ok .next σ₁))(hr:SB e n rest σ₁ r):SB e n (st::rest) σ r:=fun c i h d Q p=>wpAny_execs_cons (hs c i h d _ fun d' f le q=>by cases(show f=.next from q);exact hr c i h d' Q (p.after le))
set_option tactic.hygienic true in
theorem fO(hs:SS e n st σ rs)(h:∀af,rs≠.ok .next af):SB e n (st::rest) σ rs:=fun c i hh d Q p=>wpAny_execs_cons (hs c i hh d _ (by
 cases rs with
|ok fl af=>
  intro d' f le q;haveI:=p d' f le q;cases fl with
 |next=>exact absurd rfl (h af)
 |brk=>cases(show f=.brk from q);exact this
 |cont=>cases(show f=.cont from q);exact this
 |ret v=>obtain⟨val,rfl,rv⟩:=q;exact this
|exc z af=>exact p
|bad=>exact p))
theorem DP:SS e n (.Break pos) σ (.ok .brk σ):=fun c i h d Q p=>wpAny_Break (p d .brk (Gh.Le.refl _) rfl)
theorem Dp:SS e n (.Continue pos) σ (.ok .cont σ):=fun c i h d Q p=>wpAny_Continue (p d .cont (Gh.Le.refl _) rfl)
theorem Ca(hx:SE e n x σ rx):SS e n (.Return (some x) pos) σ (rx.bnd fun v af=>.ok (.ret v) af):=fun c i h d Q p=>wpAny_Return_some (hx c i d _ (aB.bnd p fun v af d' a u_ r p'=>p' d' _ (Gh.Le.refl _) ⟨a,rfl,r⟩))
theorem uI(c:Fr):interactive c.env=false:=by unfold interactive;rw[c.k.fn];rfl
theorem fu(hx:SE e n x σ rx)(hs:iO x=true):SS e n (.Expr x pos) σ (rx.bnd fun u_ af=>.ok .next af):=fun c i h d Q p=>wpAny_Expr_any (hx c i d _ (aB.bnd p fun v af d' a u_ r p'=>fL p')) (uI c) (pW hs)
theorem jJ(ht:ST e n t σ (.ok true σ₁))(hb:SB e n body σ₁ r):SS e n (.If t body orelse pos) σ r:=fun c i h d Q p=>wpAny_If (ht c i d _ fun d' k le q=>by cases q;exact hb c i h d' Q (p.after le))
theorem hU(ht:ST e n t σ (.ok false σ₁))(hb:SB e n orelse σ₁ r):SS e n (.If t body orelse pos) σ r:=fun c i h d Q p=>wpAny_If (ht c i d _ fun d' k le q=>by cases q;exact hb c i h d' Q (p.after le))
set_option tactic.hygienic true in
theorem xR(ht:ST e n t σ rt):SS e n (.Assert t m pos) σ (rt.bnd fun k af=>match k with|true=>.ok .next af|false=>.bad):=fun c i h d Q p=>wpAny_Assert_holds (ht c i d _ (aB.bnd p fun v af d' u_ u_ r p'=>by
 cases(r);cases v with
|true=>exact⟨rfl,fL p'⟩
|false=>exact p'.elim))
theorem qP{d:Dy c σ}(hy:bF e y)(i:In c e n)(r:VD d v val)(p:aB d e6 (.ok .next {σ with l:=ag σ.l y v}) Q):Wp c (storeName c.env y val) (fun u_=>Q .next) d.s:=kj hy i.e d r fun d' le=>fL (p.after le)
theorem aS(hy:bF e y)(hs:iO x=true)(hx:SE e n x σ rx):SS e n (.Assign [.Name y py] x pos) σ (rx.bnd fun v af=>.ok .next {af with l:=ag af.l y v}):=fun c i h d Q p=>wpAny_Assign_Name (hx c i d _ (aB.bnd p fun v af d' a u_ r p'=>qP hy i r p')) (pW hs)
theorem wU(hs:iO x=true)(hx:SE e n x σ (.ok v σ₁))(ho:SE e n o σ₁ (.ok w au))(hk:nv w nm v au ru):SS e n (.Assign [.Attribute o nm py] x pos) σ (ru.bnd xU):=fun c i h d Q p=>
 plainObj_wpAny_Assign_Attribute (hx c i d _ fun d' a le r=>ho c i d' _ fun am b bQ bY=>hk c am b a _ bY (VD.mono bQ r) (aB.bnd ((p.after le).after bQ) fun u_ af ay u_ u_ u_ p'=>fL p')) (pW hs)
noncomputable def oa(T:Sx->aG Bool->Prop)(B O:Sx->aG Fl->Prop):Nat->Sx->aG Fl->Prop
|0,_,r=>r=.bad
|m+1,σ,r=>∃rt f,T σ rt/\r=rt.bnd f/\∀k af,rt=.ok k af->match k with
 |false=>O af (f false af)
 |true=>∃rb g,B af rb/\f true af=rb.bnd g/\∀fl au,rb=.ok fl au->nN fl (oa T B O m) au (g fl au)
theorem aB.toOut{d:Dy c σ}(here:fU c)(p:aB d e6 r Q):aB (d.out (fT c)) e6 r Q:=by
 cases r with
|ok v s=>exact fun d' val le r=>p d'.back val le r
|exc z s=>exact⟨p.1,fun d' a le ex=>d'.back.noted ex here fun d'' le' ex'=>p.2 d'' a (Gh.Le.trans le le') ex'⟩
|bad=>exact p
set_option tactic.hygienic true in
theorem IK(hT:∀σ r,T σ r->ST e n t σ r)(hB:∀σ r,B σ r->SB e n body σ r)(hO:∀σ r,O σ r->SB e n orelse σ r)(h:oa T B O m σ r):SS e n (.While t body orelse pos) σ r:=fun c i here d Q p=>by
 refine wpAny_While (codeAny_whileLoop (I:=fun m s'=>∃(af:Sx)(d':Dy c af)(r:aG Fl),d'.s=s'/\oa T B O m af r/\aB d' e6 r Q) (fun m ap hI=>?_) m ⟨σ,d,r,rfl,h,p⟩);obtain⟨σ₁,ak,dw,rfl,bk,lh⟩:=hI;cases m with
|zero=>cases(show dw=.bad from bk);exact lh.elim
|succ m=>
  obtain⟨rt,f,ht,rfl,hf⟩:=bk;refine hT _ _ ht (c.out (fT c)) ⟨i.e,i.n,i.h⟩ (ak.out (fT c)) _ (aB.bndO here (Gh.Le.refl _) lh fun k au am k' jS u_ u_ bY jT=>?_);haveI N:=hf k au jS;cases(bY);cases k with
 |false=>exact hO _ _ N (c.out (fT c)) ⟨i.e,i.n,i.h⟩ here (am.out (fT c)) _ (aB.toOut here jT)
 |true=>
   obtain⟨rb,g,hb,e3,hg⟩:=N;rw[e3]at jT;refine hB _ _ hb (c.out (fT c)) ⟨i.e,i.n,i.h⟩ here (am.out (fT c)) _ (aB.bndO here (Gh.Le.refl _) jT fun fl bl ay fv uU u_ u_ rf mu=>?_);haveI N:=hg fl bl uU;cases fl with
  |next=>cases(show fv=.next from rf);exact⟨m,Nat.lt_succ_self m,bl,ay,_,rfl,N,mu⟩
  |cont=>cases(show fv=.cont from rf);exact⟨m,Nat.lt_succ_self m,bl,ay,_,rfl,N,mu⟩
  |brk=>cases(show fv=.brk from rf);rw[show g .brk bl=_ from N]at mu;exact mu ay .next (Gh.Le.refl _) rfl
  |ret u=>obtain⟨w,rfl,rw_⟩:=rf;rw[show g (.ret u) bl=_ from N]at mu;exact mu ay (.ret w) (Gh.Le.refl _) ⟨w,rfl,rw_⟩
theorem FT{K:Sx->aG Fl->Prop}(hx:SE e n x σ rx)(hset:∀(env:Env)v,foldedSetIterable x env v=pure v)(hy:bF e y)(hB:∀σ r,K σ r->SB e n body σ r)(hl:∀v af,rx=.ok v af->f v af=.bad\/∃nx m,bX v af nx/\gM nx y K m 0 af (f v af)):
  SS e n (.For (.Name y py) x body [] pos) σ (rx.bnd f):=fun c i here d Q p=>by
 refine wpAny_For (hx c i d _ ?_) (hset c.env);cases rx with
|bad=>exact p
|exc _ _=>exact p
|ok v af=>
  intro d' a le r;haveI p:aB d e6 (f v af) Q:=p;rcases hl v af rfl with q|⟨nx,m,hs,hL⟩
  ·rw[q]at p;exact p.elim
  ·exact hs c i.h d' a _ r fun ob St ho hC st0=>Cl hB hy i here d' ho (hC c rfl) st0 hL (p.after le)
end
noncomputable def j9:List Str->List V->List (Str×V)->List (Str×V)
|y::ys,v::vs,l=>j9 ys vs (ag l y v)
|_,_,l=>l
noncomputable def iY(c:Fr)(e:Ev):List Str->List (Value->Sem Unit)->Prop
|[],fs=>fs=[]
|y::ys,fs=>bF e y/\∃f r,fs=f::r/\(∀val(Q:Unit->Shared->Prop)s,Wp c (storeName c.env y val) Q s->Wp c (f val) Q s)/\iY c e ys r
theorem uH(i:c.e=e):∀{ys:List Str}{vs:List V}{us:List Value}{fs:List (Value->Sem Unit)}{σ:Sx}(d:Dy c σ){Q:Unit->Shared->Prop},iY c e ys fs->aX c.b d.g vs us->vs.length=ys.length->(∀d':Dy c {σ with l:=j9 ys vs σ.l},Le d d'->Q () d'.s)->Wp c (assignInOrder fs us) Q d.s:=@fun h j k m n o p q t w x=>match h,j,k,m,n,o,p,q,t,w,x with
|[],vs,_,_,_,d,_,hf,hv,hl,hQ=>by cases List.length_eq_zero_iff.mp hl;cases(show _=[]from hf);cases(show _=[]from hv);exact wpAny_pure (hQ d (Le.refl d))
|y::ys,[],_,_,_,_,_,_,_,hl,_=>by cases hl
|y::ys,v::vs,_,_,_,d,_,hf,hv,hl,hQ=>by obtain⟨hy,f,r,rfl,hf,hr⟩:=hf;obtain⟨u,us,rfl,a,hv⟩:=hv;exact wpAny_bind (wpAny_holding (hf u _ _ (kj hy i d a fun ak le=>uH i ak hr (aX.mono le hv) (Nat.succ.inj hl) fun d' le'=>hQ d' (le.trans le'))))
theorem HI:∀val(Q:Unit->Shared->Prop)s,Wp c (storeName c.env y val) Q s->Wp c (bindName c.env y val) Q s:=fun u_ u_ u_ h=>wpAny_bindName h
theorem Dy.grown(d:Dy c σ)(he:Heap.ExtBut d.s.heap.objs.size d.s.heap h'):∀a o,d.s.heap.get? a=some o->h'.get? a=some o:=fun a o h=>he a o (Nat.ne_of_lt (Heap.lt_size h)) h
theorem FRs.vs(h:FRs b g.z xs us):aX b g (xs.map V.f) us:=by haveI:=FRs.vvs (us:=[]) (ws:=[]) (show aX b g [] []from rfl) h;rw[List.append_nil,List.append_nil]at this;exact this
theorem vV(i:In c e n)(d:Dy c σ)(ht:d.s.heap.IsTuple t us.toArray)(hv:aX c.b d.g vs us)(hl:vs.length=ys.length)(hf:iY c e ys ((assignEach ts c.env).map (·.2)))(hn:(assignEach ts c.env).length=ys.length)(hs:(assignEach ts c.env).findIdx? (·.1)=none)
  (pp:aB d e6 (.ok .next {σ with l:=j9 ys vs σ.l}) Q):Wp c (assign (.Tuple ts k tp) c.env (.ref t)) (fun u_=>Q .next) d.s:=
 wpAny_assign_Tuple i.h ht (by rw[hn,List.size_toArray,aX.len hv,hl]) hs fun h' he=>uH i.e (d.keeps (s':={d.s with heap:=h'}) (d.grown he) rfl rfl d.h.tk) hf hv hl fun d' le=>fL (pp.after le)
theorem HM{ys:List Str}{vs:List V}{us:List Value}(i:In c e n)(d:Dy c σ)(ht:d.s.heap.IsTuple t us.toArray)(hv:aX c.b d.g vs.reverse us.reverse)(hl:vs.length=ys.length)(hu:us.length=vs.length)(hf:iY c e ys.reverse (ys.reverse.map fun n=>bindName c.env n))
  (pp:aB d e6 (.ok .next {σ with l:=j9 ys.reverse vs.reverse σ.l}) Q):Wp c (unpackItems (.ref t) ys.length none) (fun items s₂=>Wp c (assignInOrder (ys.reverse.map fun n=>bindName c.env n) items.reverse) (fun u_=>Q .next) s₂) d.s:=by
 rw[show ys.length=us.toArray.size from by rw[List.size_toArray,hu,hl]];exact wpAny_unpackItems_tuple i.h ht fun h' he=>uH i.e (d.keeps (s':={d.s with heap:=h'}) (d.grown he) rfl rfl d.h.tk) hf hv (by rw[List.length_reverse,List.length_reverse,hl]) fun d' le=>fL (pp.after le)
theorem zU(d:Dy c σ):(d.s.heap.push (iN us 0)).IsTuple d.s.heap.objs.size us.toArray:=⟨_,Heap.get?_push_size _ rfl,rfl,_,rfl⟩
theorem JL(hl:zs.length=ys.length)(hx:SE e n x σ (.ok (.f (.tup zs)) σ₁))(hf:∀c:Fr,iY c e ys ((assignEach ts c.env).map (·.2))/\(assignEach ts c.env).length=ys.length/\(assignEach ts c.env).findIdx? (·.1)=none)(hs:∀c:Fr,c.e=e->swapsWithSole [.Tuple ts k tp] x pos.line c.env=pure false/\swappedStores [.Tuple ts k tp] x c.env=pure none):
  SS e n (.Assign [.Tuple ts k tp] x pos) σ (.ok .next {σ₁ with l:=j9 ys (zs.map V.f) σ₁.l}):=fun c i h d Q pp=>Assign_Tuple (hx c i d _ fun d' a le ra=>by
 obtain⟨us,o0_,hr⟩:=ra;obtain⟨l,m,rfl,hI⟩:=o0_;exact vV i d' ⟨_,d'.h.zf _ _ hI,rfl,_,rfl⟩ hr.vs ((List.length_map ..).trans hl) (hf c).1 (hf c).2.1 (hf c).2.2 (pp.after le)) (hs c i.e).1 (hs c i.e).2
theorem xq{d:Dy c σ}(hv:aX c.b d.g vs us):aX c.b (d.push (iN us 0) rfl).g vs us:=hv.mono (Gh.fz_le (d.h.fresh (Heap.get?_none_of_le (Nat.le_refl _))).1)
theorem wj(pp:aB d R r Q):aB (d.push o ho) R r Q:=pp.after (Gh.fz_le (d.h.fresh (Heap.get?_none_of_le (Nat.le_refl _))).1)
theorem yD{us:List Value}{vs:List V}{ys:List Str}(h1:us.length=vs.length)(h2:vs.length=ys.length)(h3:ys.length<=3):us.length<=sizeLine:=by rw[h1,h2];exact Nat.le_trans h3 (by decide +kernel)
theorem Hw(hx:cP e n xs σ (.ok vs σ₁))(hl:vs.length=ys.length)(h3:ys.length<=3)(hf:∀c:Fr,iY c e ys ((assignEach ts c.env).map (·.2))/\(assignEach ts c.env).length=ys.length/\(assignEach ts c.env).findIdx? (·.1)=none)(hs:∀c:Fr,c.e=e->swappedStores [.Tuple ts k tp] (.Tuple xs k' p') c.env=pure none):
  SS e n (.Assign [.Tuple ts k tp] (.Tuple xs k' p') pos) σ (.ok .next {σ₁ with l:=j9 ys vs σ₁.l}):=fun c i h d Q pp=>Assign_Tuple (wpAny_Tuple (hx c i d p' _ fun d' us le rv=>
 ⟨yD (aX.len rv) hl h3,vV i (d'.push (iN us 0) rfl) (zU d') (xq rv) hl (hf c).1 (hf c).2.1 (hf c).2.2 (wj (pp.after le))⟩)) rfl (hs c i.e)
theorem aX.rev:∀{vs:List V}{us:List Value},aX b g vs us->aX b g vs.reverse us.reverse
|[],_,h=>by cases(show _=[]from h);exact(rfl:_=[])
|v::vs,_,h=>by obtain⟨u,us,rfl,a,h⟩:=h;rw[List.reverse_cons,List.reverse_cons];exact app (aX.rev h) ⟨u,[],rfl,a,rfl⟩
where app:∀{vs ws:List V}{us xs:List Value},aX b g vs us->aX b g ws xs->aX b g (vs++ws) (us++xs)
|[],_,_,_,h,k=>by cases(show _=[]from h);exact k
|_::_,_,_,_,h,k=>by obtain⟨u,us,rfl,a,h⟩:=h;exact⟨u,_,rfl,a,app h k⟩
theorem Fm:∀{ys:List Str},(∀y∈ys,bF e y)->iY c e ys (ys.map fun n=>bindName c.env n):=by
 intro ys
 induction ys with
|nil=> intro _;exact rfl
|cons y ys ih=> intro h;exact⟨h y (.head _),_,_,rfl,HI,ih fun z m=>h z (.tail _ m)⟩
theorem yQ(hx:cP e n xs σ (.ok vs σ₁))(hl:vs.length=ys.length)(h3:ys.length<=3)(hf:∀y∈ys,bF e y)(hs:∀c:Fr,c.e=e->swappedStores [.Tuple ts k tp] (.Tuple xs k' p') c.env=pure (some ys)):
  SS e n (.Assign [.Tuple ts k tp] (.Tuple xs k' p') pos) σ (.ok .next {σ₁ with l:=j9 ys.reverse vs.reverse σ₁.l}):=fun c i h d Q pp=>Assign_Tuple_swapped (names:=ys) (wpAny_Tuple (hx c i d p' _ fun d' us le rv=>
 ⟨yD (aX.len rv) hl h3,HM i (d'.push (iN us 0) rfl) (zU d') (xq rv).rev hl (aX.len rv) (Fm fun y m=>hf y (List.mem_reverse.mp m)) (wj (pp.after le))⟩)) rfl (hs c i.e)
noncomputable def jw(e:Ev)(y:Str):Bool:=ad e.names y==some .local
theorem nD{c:Fr}(i:c.e=e)(h:jw e y=true):c.env.kindOf y=some .local:=by subst i;exact c.k.kinds y _ (eq_of_beq h)
theorem uy(c:Fr):c.env.blockKind=.function:=by unfold Env.blockKind;rw[c.k.fn];rfl
noncomputable def lU(c:Env)(l:Nat):Expr->Option Str
|.Name id p=>if c.kindOf id==some .local&&p.line==l then some id else none
|_=>none
theorem th(h0:(!(ts.length==2||ts.length==3)||vs.length != ts.length||c.blockKind != .function)=false)(h1:vs.any bx=false)(hN:ts.filterMap (lU c ((ts.head?.map fun x=>x.pos.line).getD 0))=ns):
  swappedStores [.Tuple ts k tp] (.Tuple vs k' p') c=if ns.length != ts.length||ns.eraseDups.length != ns.length then pure none else if vs.all (foldedForSure 8)then pure none else if vs.all (constantsAlone 8)then unsupported "assign.tuple-of-constant-expressions:order-of-the-stores" else pure (some ns):=by
 subst hN;exact Eq.trans (if_neg (ne_true_of_eq_false h0)) (if_neg (ne_true_of_eq_false h1))
theorem m9(k:c.kindOf y=some .local)(h:(p.line==l)=true)(r:ts.filterMap (lU c l)=ns):(Expr.Name y p::ts).filterMap (lU c l)=y::ns:=
 (List.filterMap_cons_some (f:=lU c l) (a:=.Name y p) (b:=y) (if_pos (by rw[k,h];rfl))).trans (congrArg (y::·) r)
theorem AJ{vs:List Expr}(h:∀x∈vs,bx x=false):vs.any bx=false:=by rw[List.any_eq_false];exact fun x m=>ne_true_of_eq_false (h x m)
theorem Iq{dW dX:Expr}(hy:jw e y=true)(hz:jw e z=true)(hl:(q.line==p.line)=true)(n12:ah y z=false)(h1:bx dW=false)(h2:bx dX=false)(hf:[dW,dX].all (foldedForSure 8)=false)(hc:[dW,dX].all (constantsAlone 8)=false):
  ∀c:Fr,c.e=e->swappedStores [.Tuple [.Name y p,.Name z q] k tp] (.Tuple [dW,dX] k' p') c.env=pure (some [y,z]):=fun c i=>by
 rw[th (ns:=[y,z]) (by rw[uy c];rfl) (by show(bx dW||(bx dX||false))=false;rw[h1,h2];rfl) (m9 (nD i hy) (beq_self_eq_true p.line) (m9 (nD i hz) hl rfl)),show[y,z].eraseDups=[y,z]from congrArg (fun k=>bif k||false then[y]else[y,z]) (beq_eq_false_iff_ne.mpr fun h=>Bool.false_ne_true (n12.symm.trans (by rw[h,bU])):(z==y)=false),hf,hc];rfl
theorem BZ{items items':List Value}(hl:IsL s.heap l items.toArray m)(hl':IsL s.heap l' items'.toArray m')(hz:items.length+items'.length<=sizeLine)
  (h:∀h',h'.PlainList l (items++items').toArray->Heap.SameBut l s.heap h'->Q (.ref l) {s with heap:=h'}):wpAny (model prog w) A (inplaceOp .Add (.ref l) (.ref l')) Q E s:=by
 haveI ha:s.TypeIs (.ref l) "list":=⟨_,hl,rfl⟩;haveI hb:s.TypeIs (.ref l') "list":=⟨_,hl',rfl⟩;haveI lk:=PySem.F.slot_list_iadd.lookup;haveI hc:wpAny (model prog w) A (call (.builtin "list.__iadd__") [.ref l,.ref l']) Q E s:=by
  refine call_meets PySem.F.slot_list_iadd ha PySem.F.entry_list_iadd (PySem.F.args_list_iadd_2 _ _) (AutoSeq1.list___iadd___list_list_0 l items.toArray m l' items'.toArray m' ?_ (by simp only[List.size_toArray];lia) (by simp only[List.size_toArray];lia)) ⟨hl,hl',?_⟩
  ·haveI:Builtin.List.listTooLong (items.toArray.size+items'.toArray.size)=false:=decide_eq_false (Nat.not_lt.mpr (Nat.le_trans hz (by decide +kernel)));rw[this,Bool.and_false];exact Bool.false_ne_true
  ·refine h _ ⟨(if(items.toArray++items'.toArray).size==items.toArray.size then m else m+1),?_⟩ (Heap.SameBut.update ..);rw[<- List.append_toArray];exact PySem.IsL.update hl (fun x=>x++items'.toArray)
 unfold inplaceOp;refine wpAny_holding ?_;haveI hfi:fillsInplaceSlot (.type "list") "add" (Operator.Add==.Add)=pure false:=by unfold fillsInplaceSlot;show(typeLookup (.type "list") (dunderI "add") >>= fun fi=>pure (fi.isSome&&!isSeqSlot fi))=pure false;rw[lk];rfl
 haveI hsi:seqSlot? (.type "list") (dunderI "add")=pure (some (.builtin "list.__iadd__")):=PySem.seqSlot_of lk (by decide);refine wpAny_bind (wpAny_typeOf ha (wpAny_bind (wpAny_of_eq hfi ?_)));show wpAny _ A (if false=true then _ else _) Q E s;rw[if_neg Bool.false_ne_true];exact wpAny_bind (binaryOp1_none (nm:="add") ha hb noFill_list_add (wpAny_bind (wpAny_of_eq hsi (wpAny_bind (wpAny_rule hc)))))
noncomputable def jV(op:Operator)(x y:V)(σ:Sx)(r:aG V):Prop:=∀(c:Fr)(d:Dy c σ)(a b:Value),VD d x a->VD d y b->∀Q,aB d VV r Q->Wp c (inplaceOp op a b) Q d.s
theorem nZ:jV .Add (.f (.int i)) (.f (.int j)) σ (.ok (.f (.int (i+j))) σ):=fun u_ u_ u_ u_ ra rb u_ p=>by rw[ra.int,rb.int];exact P.iadd_int (eg p (Nat.le_succ _))
theorem HV:jV .Sub (.f (.int i)) (.f (.int j)) σ (.ok (.f (.int (i-j))) σ):=fun u_ u_ u_ u_ ra rb u_ p=>by rw[ra.int,rb.int];exact P.isub_int (eg p (Nat.le_succ _))
set_option tactic.hygienic true in
theorem Kg(hz:Nat.ble (s.cps.toList.length+t.cps.toList.length) aw=true):jV .Add (.f (.str s)) (.f (.str t)) σ (.ok (.f (.str (eV s t))) σ):=fun u_ d u_ u_ ra rb u_ p=>by
 apply bN ra;intro t1;revert p;apply bN rb;intro t2 p;haveI nil:∀{a:Str},(a.length==0)=true->a.cps.toList=[]:=fun h=>List.length_eq_zero_iff.mp ((eJ _).symm.trans (beq_iff_eq.mp h));refine P.iadd_str ?_
 split
 ·rename_i hx;rw[show eV s t=t from iz (show(s.cps.toList++t.cps.toList).toArray.toList=_ by rw[nil hx];rfl)]at p;exact gy p (rfl:VD d (.f (.str t)) (.str t t2))
 ·split
  ·rename_i hy;rw[show eV s t=s from iz (show(s.cps.toList++t.cps.toList).toArray.toList=_ by rw[nil hy,List.append_nil])]at p;exact gy p (rfl:VD d (.f (.str s)) (.str s t1))
  ·rw[show eV s t=s++t from iz (by rw[Str.cps_append];show(s.cps.toList++t.cps.toList).toArray.toList=_;rw[Array.toList_append])]at p;refine⟨?_,g7 p (Nat.le_add_right _ _)⟩;rw[Str.length_append,eJ,eJ];exact fits hz
theorem Hi{xs ys:List F}(hi:aq σ.h i=some (.list xs))(hv:bV σ ys v)(hz:Nat.ble (xs.length+ys.length) aw=true):jV .Add (.p (.loc i)) v σ (.ok (.p (.loc i)) {σ with h:=bc σ.h i (.list (xs++ys))}):=fun c d u_ u_ ra rb Q p=>by revert p;apply ma (.loc i hi) ra;intro a vs m ea hI hr p;revert p;apply iW hv rb;intro a2 us m2 hI2 hr2 p;refine BZ hI hI2 (by rw[hr.length,hr2.length];exact fits hz) fun h' hk hs=>?_;obtain⟨k,hk⟩:=hk;exact Dy.putP p (.loc i xs hi) ea (hr.append hr2) hs hk (Nat.le_refl _) fun d' le=>⟨a,rfl,le.p _ _ ea⟩
theorem oV(ho:SE e n o σ (.ok w σ₁))(ha:gz w nm σ₁ (.ok v au))(hx:SE e n x au (.ok u bl))(hk:jV op v u bl (.ok z cD))(hs:nv w nm z cD ru):SS e n (.AugAssign (.Attribute o nm py) op x pos) σ (ru.bnd xU):=fun c i h d Q p=>
 wpAny_AugAssign_AttributeAny (ho c i d _ fun ak a dy dw=>ha c ak a true _ dw fun am b l₂ bY=>hx c i am _ fun ay b' dz oF=>hk c ay b b' (VD.mono dz bY) oF _ fun bH KX jb KY=>
  hs c bH a KX _ (VD.mono jb (VD.mono dz (VD.mono l₂ dw))) KY (aB.bnd ((((p.after dy).after l₂).after dz).after jb) fun u_ af cf u_ u_ u_ p'=>fL p'))
theorem HC.drop(h:HC c g s):HC c (g.set T none o) s:=by
 have aa:∀T' x,(g.set T none o).at_ T'=some x->T'≠T/\g.at_ T'=some x:=fun T' x q=>by
  by_cases z:T'=T
  ·rw[z,Gh.at_same]at q;cases q
  ·exact⟨z,(Gh.at_ne z).symm.trans q⟩
 exact⟨h.zf,fun T' x q=>(h.at_ _ _ (aa _ _ q).2).trans (congrArg some (Gh.ob_ne (aa _ _ q).1).symm),fun T₁ T₂ x dk dm=>h.inj _ _ _ (aa _ _ dk).2 (aa _ _ dm).2,fun T' x q=>h.nz _ _ (aa _ _ q).2,fun x o' q=>⟨(h.xz x o' q).1,fun T' z=>(h.xz x o' q).2 _ (aa _ _ z).2⟩,h.xs,h.base,fun T' x q m=>h.tabs _ _ (aa _ _ q).2 m,h.old,h.os,h.gens,h.tk⟩
theorem Dy.excNew(d:Dy c σ){X:Mine.X}(hn:d.s.heap.get? ea=none)(hk:∀a o,d.s.heap.get? a=some o->h'.get? a=some o)(ho:h'.get? ea=some o)(hc:o.cls=jG c.b X)(hd:o.data=.fields vs)
  (h1:vs[1]?=some .none) (h0:∀t,X=.value t->∃T n tk,vs[0]?=some (.ref T)/\d.s.heap.get? T=none/\T≠ea/\h'.get? T=some (iN [.str t tk] n)):∃d':Dy c σ,d'.s={d.s with heap:=h'}/\Le d d'/\bI c.b c.env.frame d'.g X ea:=by
 have H:=HC.drop (T:=.exc 1) (o:=default) ((d.h.keeps (s':={d.s with heap:=h'}) hk rfl rfl d.h.tk).place (T:=.exc 0) ho (d.h.fresh hn) fun m=>by obtain⟨k,z⟩:=d.r.tb ea m;rw[d.h.at_ _ _ z]at hn;cases hn)
 have key:∀T,¬T.exc?->((d.g.set (.exc 0) (some ea) o).set (.exc 1) none default).at_ T=d.g.at_ T/\((d.g.set (.exc 0) (some ea) o).set (.exc 1) none default).ob T=d.g.ob T:=fun T t=>
  have n0:T≠.exc 0:=fun z=>t (z▸trivial);have n1:T≠.exc 1:=fun z=>t (z▸trivial)
  ⟨(Gh.at_ne n1).trans (Gh.at_ne n0),(Gh.ob_ne n1).trans (Gh.ob_ne n0)⟩
 have n01:aE.exc 0≠.exc 1:=fun z=>by cases z
 have e0:((d.g.set (.exc 0) (some ea) o).set (.exc 1) none default).at_ (.exc 0)=some ea:=(Gh.at_ne n01).trans Gh.at_same;have o0:((d.g.set (.exc 0) (some ea) o).set (.exc 1) none default).ob (.exc 0)=o:=(Gh.ob_ne n01).trans Gh.ob_same;have e1:((d.g.set (.exc 0) (some ea) o).set (.exc 1) none default).at_ (.exc 1)=none:=Gh.at_same;have hS:∀a,(d.s.heap.get? a=none/\a≠ea)->((d.g.set (.exc 0) (some ea) o).set (.exc 1) none default).z.f a=none/\(∀T,((d.g.set (.exc 0) (some ea) o).set (.exc 1) none default).at_ T≠some a)/\c.X a=none:=fun a q=>by
  have f:=d.h.fresh q.1;refine⟨f.1,fun T z=>?_,f.2.2⟩;by_cases t:T.exc?
  ·cases T with
  |exc k=>
    by_cases k1:k=1
    ·rw[k1,e1]at z;cases z
    ·by_cases k0:k=0
     ·rw[k0,e0]at z;cases z;exact q.2 rfl
     ·exact f.2.1 _ (((Gh.at_ne fun z=>k1 (by cases(z);rfl)).trans (Gh.at_ne fun z=>k0 (by cases(z);rfl))).symm.trans z)
  |_=>exact t
  ·exact f.2.1 _ ((key T t).1.symm.trans z)
 have z0:((d.g.set (.exc 0) (some ea) o).set (.exc 1) none default).z=d.g.z:=rfl;generalize((d.g.set (.exc 0) (some ea) o).set (.exc 1) none default)=g at *;have L:d.g.Le g:=⟨by rw[z0];exact .refl _,fun u_ u_=>.inl (key (.p .n2i) id).2,fun p a e=>(key (.p p) id).1.trans e⟩;have L1:=L.trans (qj (h:=h') fun a q=>(hS a q).1);refine⟨⟨_,_,H.adopt hS,d.r.excG L1 key (show g.z.st=d.g.z.st from congrArg Z.st z0)⟩,rfl,L1,.mk vs e0 ((congrArg Obj.cls o0).trans hc) ((congrArg Obj.data o0).trans hd) (fun t q=>?_) (.inl ⟨h1,e1⟩)⟩;obtain⟨T,n,tk,q1,q2,q3,q4⟩:=h0 t q;exact⟨T,n,tk,q1,(if_pos ⟨q2,q3⟩).trans q4⟩
theorem jg{t:Str}(hv:bt e x σ (.f (.bi "ValueError")))(hs:bx a=false)(ha:SE e n a σ (.ok (.f (.str t)) σ₁)):SS e n (.Raise (some (.Call (.Name x np) [a] [] pc)) none pos) σ (.exc (.value t) σ₁):=fun c i h d Q p=>by
 refine wpAny_Raise_call PySem.F.excCall_ValueError PySem.F.excRaise_ValueError i.h (kJ (args:=[a]) (by unfold g6;rw[hs];rfl)) (ei hv i.e d fun fv r=>?_);cases(show some (Value.type "ValueError")=some fv from(c.ok.blts ("ValueError",.type "ValueError") (.tail _ (.tail _ (.tail _ (.tail _ (.tail _ (.tail _ (.tail _ (.tail _ (.tail _ (.tail _ (.head _)))))))))))).symm.trans r);refine⟨rfl,?_⟩;rw[gb hs];refine Calls.evalArgs_plain (Calls.spliced_cons (ha c i d _ fun d' av le ra=>Calls.spliced_nil ⟨rfl,by show 1<=sizeLine;decide +kernel,fun h' ea hm=>?_⟩));revert hm;apply bN ra;intro tk hm;obtain⟨T,h1,h2,h3⟩:=hm.there;obtain⟨ak,q1,q2,q3⟩:=d'.excNew (X:=.value t) hm.new hm.keeps h1 rfl rfl rfl fun t' q=>by cases q;exact⟨T,0,tk,rfl,h2,(fun q=>by rw[q,h1]at h3;cases congrArg Obj.data (Option.some.inj h3)),h3⟩
 exact q1▸p.2 ak ea (le.trans q2) q3
theorem GR{v w:V}(hv:bt e x σ (.f (.fn 17)))(h1:bx a=false)(h2:bx b=false)(ha:SE e n a σ (.ok v σ₁))(hb:SE e n b σ₁ (.ok w au)):SS e n (.Raise (some (.Call (.Name x np) [a,b] [] pc)) none pos) σ (.exc .cycle au):=fun c i h d Q p=>by
 obtain⟨nm,q,N,bs,bm,hd,sn,sub,ab,col,dd,k0,k1,k2,k3,k5,newId,initId,mN,hC,hT,hN,hni,F⟩:=c.ok.cyc;refine wpAny_Raise_call_sub (C:=c.b.fa 17) (nm:=nm) (q:=q) (N:=N) (bs:=bs) (bm:=bm) (hdct:=hd) (sn:=sn) (sub:=sub) (ab:=ab) (col:=col) (dd:=dd) (k0:=k0) (k1:=k1) (k2:=k2) (k3:=k3) (k5:=k5) (mN:=mN) F i.h (kJ (args:=[a,b]) (by unfold g6;rw[h1];unfold g6;rw[h2];rfl)) hni (ei hv i.e d fun fv r=>?_);cases(show fv=.ref (c.b.fa 17)from r);refine⟨rfl,?_⟩;rw[gb h1,gb h2];refine Calls.evalArgs_plain (Calls.spliced_cons (ha c i d _ fun d' av le ra=>Calls.spliced_cons (hb c i d' _ fun am bv l₂ rb=>Calls.spliced_nil ⟨rfl,by show 2<=sizeLine;decide +kernel,am.h.b hC hT,am.h.bns hN,fun h' ea hm=>?_⟩)));obtain⟨T,h3,h4,h5⟩:=hm.there;obtain⟨ay,q1,q2,q3⟩:=am.excNew (X:=.cycle) hm.new hm.keeps h3 rfl rfl rfl fun t' q=>by cases q
 exact q1▸p.2 ay ea ((le.trans l₂).trans q2) q3
noncomputable def cY(env:Env):List (Str×NameKind)->List (Str×Addr)->List (Str×Addr)
|[],acc=>acc
|(n,k)::r,acc=>cY env r (bif k==.free then(n,(env.cells.lookup n).getD 0)::acc else acc)
noncomputable def kh(e:Ev)(l:List (Str×V))(p:Str×NameKind):Option V:=bif p.2==.free then bif ad e.names p.1==some .cell then ad l p.1 else ad e.free p.1 else none
noncomputable def bG(e:Ev)(l:List (Str×V)):List (Str×NameKind)->List (Str×V)
|[]=>[]
|p::r=>match kh e l p with
 |some v=>(p.1,v)::bG e l r
 |none=>bG e l r
inductive qp(e:Ev)(l:List (Str×V))(n:Str)(v:V):Prop
|cell:ad e.names n=some .cell->ad l n=some v->qp e l n v
|free:ad e.names n≠some .cell->ad e.free n=some v->qp e l n v
noncomputable def sx(e:Ev)(p:Str×NameKind):Bool:=!(p.2==.free)||(ad e.names p.1==some .cell||(ad e.names p.1==some .free&&(ad e.free p.1).isSome))
noncomputable def ff(e:Ev)(l:List (Str×NameKind)):Bool:=(ad e.free "<lambda>").isNone&&l.all (sx e)
theorem ux(h:ff e l=true):ad e.free "<lambda>"=none:=Option.isNone_iff_eq_none.mp ((Bool.and_eq_true _ _).mp h).1
theorem zV(h:ff e l=true)(m:ad l n=some .free)(h1:ad e.names n≠some .cell):ad e.names n=some .free:=by
 haveI:=List.all_eq_true.mp ((Bool.and_eq_true _ _).mp h).2 (n,.free) (gA m);rcases(Bool.or_eq_true _ _).mp (show(ad e.names n==some .cell||(ad e.names n==some .free&&_))=true from this)with h|h
 ·exact absurd (eq_of_beq h) h1
 ·exact eq_of_beq ((Bool.and_eq_true _ _).mp h).1
theorem DL(h:kh e l (n,k)=some v):qp e l n v:=by
 haveI h:(bif k==.free then bif ad e.names n==some .cell then ad l n else ad e.free n else none)=some v:=h;cases q:k==NameKind.free with
|false=>rw[q]at h;cases h
|true=>
  rw[q]at h;haveI h:(bif ad e.names n==some .cell then ad l n else ad e.free n)=some v:=h;cases q2:ad e.names n==some NameKind.cell with
 |true=>rw[q2]at h;exact .cell (eq_of_beq q2) h
 |false=>rw[q2]at h;exact .free (beq_eq_false_iff_ne.mp q2) h
theorem uD(h:ad (bG e l r) n=some v):qp e l n v:=by
 induction r with
|nil=>cases h
|cons p r ih=>
  haveI h:ad (match kh e l p with|some v=>(p.1,v)::bG e l r|none=>bG e l r) n=some v:=h;cases q:kh e l p with
 |none=>rw[q]at h;exact ih h
 |some u=>
   rw[q]at h;haveI h:(match ah n p.1 with|true=>some u|false=>ad (bG e l r) n)=some v:=h;cases q2:ah n p.1 with
  |true=>rw[q2]at h;cases h;rw[bD.mp q2];exact DL q
  |false=>rw[q2]at h;exact ih h
theorem Hb(f:Str×NameKind->List (Str×Addr)->Sem (ForInStep (List (Str×Addr))))
  (hf:∀name kind cells,f (name,kind) cells=if kind==.free then(do let c<-cellOf env name;pure (.yield ((name,c)::cells)))else pure (.yield cells)) :
  ∀(l:List (Str×NameKind))(acc:List (Str×Addr)),(∀p∈l,p.2=.free->∃c,env.cells.lookup p.1=some c)->forIn l acc f=pure (cY env l acc):=by
 intro l
 induction l with
|nil=> intro acc _;rw[List.forIn_nil];rfl
|cons p_ r ih_=>
  obtain⟨n,k⟩:=p_;intro acc h;rw[List.forIn_cons,hf];have ih:=fun acc=>ih_ acc fun p m=>h p (.tail _ m);by_cases q:k=.free
  ·subst q;obtain⟨c,hc⟩:=h (n,.free) (.head _) rfl;rw[if_pos (show(NameKind.free==NameKind.free)=true from rfl)];unfold cellOf cY;rw[hc];exact ih ((n,c)::acc)
  ·have e1:cY env ((n,k)::r) acc=cY env r acc:=by cases k<;>first|rfl|exact absurd rfl q
   rw[if_neg (by cases k<;>first|exact absurd rfl q|exact Bool.false_ne_true),e1];exact ih _
theorem rE(h:∀p∈sc.names,p.2=.free->∃c,env.cells.lookup p.1=some c):closureFor sc env=pure (cY env sc.names []):=by haveI:=Hb (env:=env) (fun(x:Str×NameKind)cs=>if x.2==.free then(do let c<-cellOf env x.1;pure (.yield ((x.1,c)::cs)))else pure (.yield cs)) (fun u_ u_ u_=>rfl) sc.names [] h;exact(congrArg (fun m=>Sem.bind m fun r=>Sem.pure r) this)
theorem Cc:∀{l:List (Str×NameKind)}{acc:List (Str×Addr)},n∉l.map (·.1)->ad (cY env l acc) n=ad acc n:=by
 intro l
 induction l with
|nil=> intro _ _;exact rfl
|cons p_ r ih=> obtain⟨x,k⟩:=p_;intro acc h;haveI h1:n∉r.map (·.1):=fun z=>h (.tail _ z);refine(ih h1).trans ?_;cases k<;>first|rfl|(show(match ah n x with|true=>_|false=>ad acc n)=_;rw[gQ fun z:n=x=>h (z▸.head _)])
theorem uq:∀{l:List (Str×NameKind)}{acc:List (Str×Addr)},(l.map (·.1)).Nodup->ad l n=some .free->ad (cY env l acc) n=some ((env.cells.lookup n).getD 0):=@fun a b c d=>match a,b,c,d with
|(x,k)::r,acc,nd,h=>by
  haveI nd:=List.nodup_cons.mp nd;haveI h:(match ah n x with|true=>some k|false=>ad r n)=some .free:=h;cases q:ah n x with
 |true=> rw[q]at h;cases h;cases bD.mp q;refine(Cc nd.1).trans ?_;show(match ah n n with|true=>_|false=>ad acc n)=_;rw[bU]
 |false=>rw[q]at h;exact uq (l:=r) nd.2 h
theorem wq:∀(l:List (Str×NameKind))(k:Nat)(acc:List (Str×Addr)),cellsFrom k l acc=cellsFrom k l []++acc:=by
 intro l
 induction l with
|nil=> intro _ _;exact rfl
|cons p_ r ih=>
  obtain⟨x,kd⟩:=p_;intro k acc;unfold cellsFrom
  split
  ·rw[ih (k+1) ((x,k)::acc),ih (k+1) [(x,k)],List.append_assoc];rfl
  ·exact ih k acc
theorem uu:∀{l:List (Str×α)},ad l n=some a->ad (l++r) n=some a:=@fun c d=>match c,d with
|(x,b)::l,h=>by
  haveI h:(match ah n x with|true=>some b|false=>ad l n)=some a:=h;show(match ah n x with|true=>some b|false=>ad (l++r) n)=some a;cases q:ah n x with
 |true=>rw[q]at h;exact h
 |false=>rw[q]at h;exact uu h
theorem qN:∀{l:List (Str×α)},ad l n=none->ad (l++r) n=ad r n:=by
 intro l
 induction l with
|nil=> intro _;exact rfl
|cons p_ l ih=>
  obtain⟨x,b⟩:=p_;intro h;haveI h:(match ah n x with|true=>some b|false=>ad l n)=none:=h;show(match ah n x with|true=>some b|false=>ad (l++r) n)=ad r n;cases q:ah n x with
 |true=>rw[q]at h;cases h
 |false=>rw[q]at h;exact ih h
theorem Af:∀{l:List (Str×NameKind)}{k:Nat}{acc:List (Str×Addr)},(l.map (·.1)).Nodup->ad l n≠some .cell->ad (cellsFrom k l acc) n=ad acc n:=by
 intro l
 induction l with
|nil=> intro _ _ _ _;exact rfl
|cons p_ r ih=>
  obtain⟨x,kd⟩:=p_;intro k acc nd hn;haveI nd:=List.nodup_cons.mp nd;haveI hm:(match ah n x with|true=>some kd|false=>ad r n)≠some .cell:=hn;unfold cellsFrom;cases q:ah n x with
 |true=> rw[q]at hm;cases bD.mp q;rw[if_neg fun z:(kd==NameKind.cell)=true=>hm (congrArg some (by cases kd<;>first|rfl|cases z))];exact yf nd.1
 |false=>
   rw[q]at hm
   split
   ·refine(ih nd.2 hm).trans ?_;show(match ah n x with|true=>some k|false=>ad acc n)=ad acc n;rw[q]
   ·exact ih nd.2 hm
theorem Ed{f:Str×α->Str×β}(hf:∀p,(f p).1=p.1):ad l n=some k->ad (l.map f) n=some (f (n,k)).2:=by
 induction l with
|nil=>intro h;cases h
|cons p r ih=>
  intro h;haveI h:(match ah n p.1 with|true=>some p.2|false=>ad r n)=some k:=h;haveI g:ad (f p::r.map f) n=(match ah n (f p).1 with|true=>some (f p).2|false=>ad (r.map f) n):=rfl;rw[List.map_cons,g,hf];clear g;cases q:ah n p.1 with
 |true=>rw[q]at h;rw[<- Option.some.inj h,bD.mp q]
 |false=>rw[q]at h;exact ih h
set_option tactic.hygienic true in
theorem Iy{env:Env}{n:Str}(h:ad l n=some k):
  ∃k',ad (l.map fun(n,k)=>if(k==.free&&env.scope.kind==.function&&env.kindOf n==some .cell)then(n,NameKind.cell)else(n,k)) n=some k'/\(k'=k\/(k=.free/\k'=.cell)):=by
 refine⟨_,Ed (fun p=>?_) h,?_⟩
 ·obtain⟨x,kd⟩:=p;dsimp only;split<;>rfl
 ·dsimp only
  split
  ·rename_i hc;haveI:=((Bool.and_eq_true _ _).mp ((Bool.and_eq_true _ _).mp hc).1).1;exact .inr ⟨(by cases k<;>first|rfl|cases this),rfl⟩
  ·exact .inl rfl
noncomputable def me(sc:Scope)(env:Env)(C:Addr):Env:={newEnv sc C env.globals (cellsFrom (C+1) sc.names (cY env sc.names [])) env.qual none .none (some env) builtinsNs with scope:=relabel sc env}
noncomputable def kX(sc:Scope)(C:Addr):aE->Option Addr
|.L=>some C
|.cell n=>ad (cellsFrom (C+1) sc.names []) n
|_=>none
theorem pj(d:Dy c σ)(i:c.e=e)(h:ff e l=true):∀p∈l,p.2=.free->∃a,c.env.cells.lookup p.1=some a:=fun p m hp=>by
 subst i;haveI:=List.all_eq_true.mp ((Bool.and_eq_true _ _).mp h).2 p m;unfold sx at this;rw[hp]at this;rcases(Bool.or_eq_true _ _).mp (show(ad c.e.names p.1==some .cell||(ad c.e.names p.1==some .free&&(ad c.e.free p.1).isSome))=true from this)with q|q
 ·obtain⟨a,cv,q,_⟩:=d.r.fr.cell _ (eq_of_beq q);exact⟨a,q⟩
 ·obtain⟨q1,q2⟩:=(Bool.and_eq_true _ _).mp q;obtain⟨v,hv⟩:=Option.isSome_iff_exists.mp q2;obtain⟨a,o,val,q,_⟩:=d.r.fr.free _ v (eq_of_beq q1) hv;exact⟨a,q⟩
theorem qy(d:Dy c σ)(i:c.e=e)(hk:sc.kind=.function)(ok:fq sc.names)(hc:ff e sc.names=true):ca c.b c.A (me sc c.env d.s.heap.objs.size) ⟨sc.names,bG e σ.l sc.names⟩ (c.xs d.g true) c.fs c.n:=by
 haveI k:=c.k;obtain⟨fenv,outer,f1,f2,f3,f4⟩:=k.frames;refine⟨k.depth,k.units,⟨fenv,outer,f1,f2,f3,f4⟩,hk,k.glo,k.blt,fun n kd q=>?_,fun n kd q=>(rG (ok.k n kd q)).1,fun u_=>?_,fun a m=>?_⟩
 ·obtain⟨k',q1,q2⟩:=Iy (env:=c.env) q;haveI ek:(me sc c.env d.s.heap.objs.size).kindOf n=some k':=i8.trans q1;rw[ek];rcases q2 with rfl|⟨rfl,rfl⟩
  ·exact vA (rG (ok.k n k' q)).2
  ·exact .inr rfl
 ·subst i;exact k.code (ux hc)
 ·rcases k.frm a m with rfl|⟨o,es,ep,q,q2⟩
  ·obtain⟨m,r1,_⟩:=d.r.fr.ns;cases r1 with|mk es ep z=>exact .inr ⟨_,es,ep,kS d.h id d.r.fr.L,z⟩
  ·exact .inr ⟨o,es,ep,iD d.h q,q2⟩
set_option tactic.hygienic true in
theorem F5(d:Dy c σ)(i:c.e=e)(hk:sc.kind=.function)(ok:fq sc.names)(hc:ff e sc.names=true)(E':Value->Shared->Prop)
  (hQ:∀cenv(ak:Dy (c.sub c.A (me sc c.env d.s.heap.objs.size) ⟨sc.names,bG e σ.l sc.names⟩ E' (c.xs d.g true) c.fs c.n (qy d i hk ok hc)) (σ.enter true [])),{cenv with scope:=relabel sc c.env}=me sc c.env d.s.heap.objs.size->cenv.locals=d.s.heap.objs.size->ak.g=d.g.enter true (kX sc d.s.heap.objs.size) ak.s.heap->(∀a o,d.s.heap.get? a=some o->ak.s.heap.get? a=some o)->(∀T a,kX sc d.s.heap.objs.size T=some a->d.s.heap.get? a=none)->Q cenv ak.s) :
  Wp c (newFunctionEnv sc c.env.globals (cY c.env sc.names []) [] c.env.qual none .none (some c.env)) Q d.s:=by
 simp only[newFunctionEnv,Option.isSome_some,if_true];refine wpAny_bind (wpAny_alloc ?_);refine wpAny_bind (wpAny_layCells _ (fun name kind cells=>by cases hkc:kind==NameKind.cell<;>simp[hkc]) _ _ _ _ ?_);refine wpAny_bind ?_;rw[List.forIn_nil];refine wpAny_pure (wpAny_pure ?_);have okc:=cellsFrom_ok sc.names (d.s.heap.push {cls:=.type "dict",data:=.dict #[]}) (d.s.heap.objs.size+1) [] ⟨fun u_ u_ hm=>(nomatch hm),List.Pairwise.nil⟩ (by rw[Heap.size_push];exact Nat.le_refl _);rw[Heap.size_push]at okc;have esz:({d.s with heap:=d.s.heap.push {cls:=.type "dict",data:=.dict #[]}}:Shared).heap.objs.size=d.s.heap.objs.size+1:=Heap.size_push ..;rw[esz];have hC:=pushCells_keeps sc.names _ _ _ (Heap.get?_push_size d.s.heap (o:={cls:=.type "dict",data:=.dict #[]}) rfl);have hk':∀a o,d.s.heap.get? a=some o->(pushCells (d.s.heap.push {cls:=.type "dict",data:=.dict #[]}) sc.names).get? a=some o:=fun a o h=>pushCells_keeps _ _ a o (Heap.get?_push_of_some _ h);generalize pushCells (d.s.heap.push {cls:=.type "dict",data:=.dict #[]}) sc.names=h1 at hC hk' okc;have cl:∀n a,ad (cellsFrom (d.s.heap.objs.size+1) sc.names []) n=some a->h1.IsCell a none/\d.s.heap.objs.size < a:=fun n a q=>okc.empty n a (gA q);have fresh:∀T a,kX sc d.s.heap.objs.size T=some a->d.s.heap.get? a=none/\∃o,h1.get? a=some o:=fun T a q=>by
  cases T with
 |L=>cases q;exact⟨Heap.get?_none_of_le (Nat.le_refl _),_,hC⟩
 |cell n=>obtain⟨⟨o,ho,_⟩,hl⟩:=cl n a q;exact⟨Heap.get?_none_of_le (Nat.le_of_lt hl),o,ho⟩
 |_=>cases q
 have inj:∀T T' a,kX sc d.s.heap.objs.size T=some a->kX sc d.s.heap.objs.size T'=some a->T=T':=fun T T' a q q'=>by
  cases T with
 |L=>cases q;cases T' with
  |L=>rfl
  |cell n=>exact absurd (cl n _ q').2 (Nat.lt_irrefl _)
  |_=>cases q'
 |cell n=>cases T' with
  |L=>cases q';exact absurd (cl n _ q).2 (Nat.lt_irrefl _)
  |cell n'=>rw[sF okc.apart (gA q) (gA q')]
  |_=>cases q'
 |_=>cases q
 have nt:∀T a,kX sc d.s.heap.objs.size T=some a->a∉c.b.tabA:=fun T a q m=>by obtain⟨k,z⟩:=d.r.tb a m;have:=(fresh T a q).1;rw[d.h.at_ _ _ z]at this;cases this
 have H:=HC.enter (sh:=true) (k:=qy d i hk ok hc) (E:=E') (s₂:={d.s with heap:=h1}) d.h hk' fresh inj (fun a m=>m) rfl rfl (Nat.le_refl _) nt;have ec:∀n,(me sc c.env d.s.heap.objs.size).cells.lookup n=ad (cellsFrom (d.s.heap.objs.size+1) sc.names []++cY c.env sc.names []) n:=fun n=>i8.trans (congrArg (ad · n) (wq _ _ _));refine hQ _ ⟨_,{d.s with heap:=h1},H,aW.enter d.r (fun j T t=>?_) ⟨if_neg id,⟨fun u_=>none,⟨#[],0,?_,fun u_ h=>by simp at h,fun u_=>rfl⟩,fun n v h1 h2=>by cases h2⟩,fun n h2=>?_,fun n v q1 q2=>?_⟩⟩ rfl rfl rfl hk' fun T a q=>(fresh T a q).1
 ·cases T with
 |L=>exact t.elim
 |cell n=>exact t.elim
 |_=>rfl
 ·exact congrArg Obj.data ((if_neg id).trans (dR hC))
 ·obtain⟨a,ha⟩:=pX (k:=d.s.heap.objs.size+1) (acc:=[]) ok.nd h2;obtain⟨o0_,_⟩:=cl n a ha;obtain⟨o,ho,hd⟩:=o0_;exact⟨a,none,(ec n).trans (uu ha),(if_neg id).trans ha,(congrArg Obj.data ((if_neg id).trans ((congrArg (dq h1 · _) ha).trans (dR ho)))).trans hd,fun v h2=>by cases h2⟩
 ·have hl:=(ec n).trans ((qN (Af (acc:=[]) ok.nd (by rw[q1];intro z;cases z))).trans (uq (env:=c.env) (acc:=[]) ok.nd q1));subst i;cases uD q2 with
 |cell z1 z2=> obtain⟨a,cv,e1,e2,e3,e4⟩:=d.r.fr.cell n z1;obtain⟨val,rfl,r⟩:=e4 v z2;rw[e1]at hl;exact⟨a,_,val,hl,kS d.h id e2,e3,VV.enter (by cases v<;>first|rfl|(rename_i p;cases p<;>rfl)) r⟩
 |free z1 z2=> have z0:=zV hc q1 z1;obtain⟨a,o,val,e1,e2,e3,r⟩:=d.r.fr.free n v z0 z2;rw[e1]at hl;exact⟨a,o,val,hl,iD d.h e2,e3,VV.enter (by cases v<;>first|rfl|(rename_i p;cases p<;>rfl)) r⟩
theorem vy(hg:gens[d]?=some ⟨target,iter,ifs,0⟩)
  (h0:codeAny (model prog w) A (.compLoop (.ListComp elt gens sc pos) d it acc env) R s)
  (h:wpAny (model prog w) A (pyIter it) (fun it' s'=>codeAny (model prog w) A (.compLoop (.ListComp elt gens sc pos) d it' acc env) R s') (notedBy (model prog w) A env fun x s'=>R (.error x) s') s) :
  codeAny (model prog w) A (.compStart (.ListComp elt gens sc pos) d it acc env) R s:=by
 refine codeAny_of_tree (wpAny_notedAt (m:=compStart (.ListComp elt gens sc pos) d it acc env) ?_);unfold compStart;rw[show clausesOf (.ListComp elt gens sc pos)=gens from rfl,hg];refine wpAny_bind (wpAny_askSetting (wpAny_ite ?_))
 split
 ·first
  |exact wpAny_bind (wpAny_pure (wpAny_pure (And.intro rfl h0)))
  |exact wpAny_pure (And.intro rfl h0)
 ·first
  |exact wpAny_bind (wpAny_rule (wpAny_bind (wpAny_standAt (wpAny_bind (wpAny_mono h (fun it' s' h'=>wpAny_pure (And.intro rfl h')) fun u_ u_ x=>x)))))
  |(refine wpAny_bind (wpAny_rule ?_);show wpAny _ _ (standAt iter.pos >>= _) _ _ s;exact wpAny_bind (wpAny_standAt (wpAny_bind (wpAny_mono h (fun it' s' h'=>wpAny_pure (And.intro rfl h')) fun u_ u_ x=>x))))
noncomputable abbrev zh(ifs:List Expr)(env:Env):Sem Bool:=forIn ifs true fun c r=>if r=true then do let ok<-isTrue c env (eval c env);pure (ForInStep.yield ok)else pure (ForInStep.yield r)
noncomputable def lP(prog:Program)(w:World)(A:Around)(elt:Expr)(gens:List Comprehension)(sc:Scope)(pos:Pos)(d:Nat)(acc:Value)(env:Env)(K:Shared->Prop)(N:Value->Shared->Prop)(s:Shared):Prop:=match gens[d+1]? with
|none=>wpAny (model prog w) A (eval elt env) (fun x ip=>wpAny (model prog w) A (call (.builtin "list.append") [acc,x]) (fun u_ jc=>K jc) N ip) N s
|some g'=>g'.is_async=0/\(∀x,foldedSetIterable g'.iter env x=pure x)/\wpAny (model prog w) A (eval g'.iter env) (fun x ip=>wpAny (model prog w) A (pyIter x) (fun it' jc=>
   codeAny (model prog w) A (.compStart (.ListComp elt gens sc pos) (d+1) it' acc env) (fun r s'=>match r with|.ok _=>K s'|.error e=>cameBackBy (model prog w) A env N e s') jc) N ip) N s
noncomputable def qC(prog:Program)(w:World)(A:Around)(R:Result->Shared->Prop)(elt:Expr)(gens:List Comprehension)(sc:Scope)(pos:Pos)(d:Nat)(target:Expr)(ifs:List Expr)(it acc:Value)(env:Env)(I:Shared->Prop)(N:Value->Shared->Prop)(s:Shared):Prop:=
 wpAny (model prog w) A (pyNext it) (fun r ap=>match r with
  |none=>R (.ok .next) ap
  |some v=>wpAny (model prog w) A (assign target env v) (fun u_ s₂=>
     wpAny (model prog w) A (zh ifs env) (fun ok cj=>if ok=true then lP prog w A elt gens sc pos d acc env I N cj else I cj) N s₂) N ap) N s
theorem Jr(hg:gens[d]?=some ⟨target,iter,ifs,0⟩)(I:Nat->Shared->Prop)
  (turn:∀n s,I n s->qC prog w A R elt gens sc pos d target ifs it acc env (fun s'=>∃m,m < n/\I m s') (notedBy (model prog w) A env fun e s'=>R (.error e) s') s)
  (n:Nat) (h:I n s) (ht:∀v,letOwnedTupleGo target it v=pure ():=by intro _;rfl) :
  codeAny (model prog w) A (.compLoop (.ListComp elt gens sc pos) d it acc env) R s:=by
 refine codeAny_loop rfl I (fun n s hI=>wpAny_noted (m:=compTurn (.ListComp elt gens sc pos) d it acc env) ?_) n h;haveI turn:qC prog w A R elt gens sc pos d target ifs it acc env (fun s'=>∃m,m < n/\I m s') (notedBy (model prog w) (A.under (.compLoop (.ListComp elt gens sc pos) d it acc env)) env fun e s'=>R (.error e) s') s:=turn n s hI;generalize notedBy (model prog w) (A.under (.compLoop (.ListComp elt gens sc pos) d it acc env)) env (fun e s'=>R (.error e) s')=N at turn ⊢;unfold qC at turn;unfold compTurn
 with_reducible conv=>arg 3;whnf
 rw[hg];refine wpAny_bind (wpAny_standAt (wpAny_bind (wpAny_mono turn (fun r ap bk=>?_) fun u_ u_ h'=>h')));clear turn;cases r with
|none=>exact wpAny_pure bk
|some v=>
  refine wpAny_bind (wpAny_of_eq (ht v) (wpAny_bind (wpAny_mono bk (fun u_ s₂ aY=>wpAny_bind (wpAny_mono aY (fun ok cj cI=>?_) fun u_ u_ h'=>h')) fun u_ u_ h'=>h')));clear bk aY;cases ok with
 |false=>exact wpAny_pure ⟨rfl,cI⟩
 |true=>
   haveI cI:lP prog w A elt gens sc pos d acc env (fun s'=>∃m,m < n/\I m s') N cj:=cI;unfold lP at cI;revert cI;cases gens[d+1]? with
  |none=>exact fun cI=>wpAny_bind (wpAny_bind (wpAny_mono cI (fun x ip ja=>wpAny_bind (wpAny_mono ja (fun u_ jc fA=>wpAny_pure (wpAny_pure ⟨rfl,fA⟩)) fun u_ u_ h'=>h')) fun u_ u_ h'=>h'))
  |some g'=>
    intro cI;obtain⟨ha,hf,cI⟩:=cI;haveI hb:(g'.is_async != 0)=false:=by rw[ha];rfl
    refine wpAny_bind (wpAny_mono cI (fun x ip ja=>wpAny_bind (wpAny_standAt ?_)) fun u_ u_ h'=>h');rw[hb];refine wpAny_bind (wpAny_of_eq (hf x) (wpAny_bind (wpAny_holding (wpAny_mono ja (fun it' jc fA=>wpAny_bind (wpAny_runOwn (codeAny_mono fA fun r s' hr=>?_))) fun u_ u_ h'=>h'))));cases r with
   |ok f=>exact wpAny_pure ⟨rfl,hr⟩
   |error e=>exact hr
noncomputable def ly(e:Ev)(n:Nat)(ifs:List Expr)(σ:Sx)(k:Bool)(af:Sx):Prop:=∀(c:Fr),In c e n->∀(d:Dy c σ)(Q:Bool->Shared->Prop),(∀d':Dy c af,Le d d'->Q k d'.s)->Wp c (zh ifs c.env) Q d.s
noncomputable def mU(e:Ev)(n:Nat)(elt:Expr)(gens:List Comprehension)(sc:Scope)(pos:Pos)(dep j:Nat)(σ af:Sx):Prop:=∀(c:Fr),In c e n->∀(d:Dy c σ)(l:Addr),d.g.at_ (.p (.loc j))=some l->∀K:Shared->Prop,(∀d':Dy c af,Le d d'->K d'.s)->lP c.b.prog c.b.w c.A elt gens sc pos dep (.ref l) c.env K c.E d.s
noncomputable def SLoop(nx:Nx)(y:Str)(T:Sx->Bool->Sx->Prop)(G:Sx->Sx->Prop):Nat->Nat->Sx->Sx->Prop
|0,_,_,_=>False
|m+1,i,σ,af=>match nx i σ with
 |none=>False
 |some none=>af=σ
 |some (some v)=>∃k σ₁,T {σ with l:=ag σ.l y v} k σ₁/\match k with
  |false=>SLoop nx y T G m (i+1) σ₁ af
  |true=>∃au,G σ₁ au/\SLoop nx y T G m (i+1) au af
theorem js:SLoop nx y T G (m+1) i σ af=match nx i σ with
 |none=>False
 |some none=>af=σ
 |some (some v)=>∃k σ₁,T {σ with l:=ag σ.l y v} k σ₁/\match k with
  |false=>SLoop nx y T G m (i+1) σ₁ af
  |true=>∃au,G σ₁ au/\SLoop nx y T G m (i+1) au af:=rfl
theorem gK:ly e n [] σ true σ:=fun c i d Q h=>wpAny_pure (h d (Le.refl d))
theorem gT(ht:ST e n t σ (.ok k af)):ly e n [t] σ k af:=fun c i d Q h=>by show wpAny _ c.A (forIn [t] true _) Q c.E d.s;rw[List.forIn_cons,if_pos rfl];exact wpAny_bind (wpAny_bind (ht c i d _ fun d' v le r=>by cases r;exact wpAny_pure (wpAny_pure (h d' le))))
theorem yJ(hg:gens[dep+1]?=none)(hx:SE e n elt σ (.ok (.f x) σ₁))(hj:aq σ₁.h j=some (.list xs))(hz:Nat.ble xs.length aw=true):mU e n elt gens sc pos dep j σ {σ₁ with h:=bc σ₁.h j (.list (xs++[x]))}:=fun c i d l hl K hK=>by unfold lP;rw[hg];exact hx c i d _ fun d' a le r=>A1 d' (.loc j hj) (.loc j xs hj) ⟨l,rfl,le.p _ _ hl⟩ r hz fun am u_ bQ u_=>hK am (le.trans bQ)
inductive ud{c:Fr}(d:Dy c σ)(I:Addr)(St:Nat->Gh->Heap->Prop)(nx:Nx)(y:Str)(T:Sx->Bool->Sx->Prop)(G:Sx->Sx->Prop)(af:Sx)(m:Nat)(s:Shared):Prop
|mk (i:Nat) (σ₁:Sx) (ak:Dy c σ₁):ak.s=s->Le d ak->cq c ak.g I->St i ak.g s.heap->SLoop nx y T G m i σ₁ af->ud d I St nx y T G af m s
theorem y0(hg:gens[dep]?=some ⟨.Name y py,it,ifs,0⟩)(hy:bF e y)(hT:∀σ k af,T σ k af->ly e n ifs σ k af)(hG:∀σ af,G σ af->mU e n elt gens sc pos dep j σ af)(h:SLoop nx y T G m 0 σ af)(i:In c e n)(d:Dy c σ){St:Nat->Gh->Heap->Prop}(f:cq c d.g I)(C:oq c I nx St)(st:St 0 d.g d.s.heap)
  (hl:d.g.at_ (.p (.loc j))=some l) (hR:∀d':Dy c af,Le d d'->R (.ok .next) d'.s):codeAny c.b.M c.A (.compLoop (.ListComp elt gens sc pos) dep (.ref I) (.ref l) c.env) R d.s:=by
 haveI nf:I∉c.fs:=fun m=>by obtain⟨ob,_,_,h1,h2⟩:=d.frame m;obtain⟨o,h3,vs,h4⟩:=C.fld _ _ _ st;rw[h1]at h3;cases h3;rw[h2]at h4;cases h4
 refine Jr hg (ud d I St nx y T G af) (fun m ap hI=>?_) m ⟨0,σ,d,rfl,Le.refl d,f,st,h⟩;cases hI with|mk i' σ₁ ak q jd dp ms bk=>
 subst q;unfold qC;generalize notedBy c.b.M c.A c.env (fun e s'=>R (.error e) s')=N;cases m with
|zero=>exact bk.elim
|succ m=>
  rw[js]at bk;cases hn:nx i' σ₁ with
 |none=>rw[hn]at bk;exact bk.elim
 |some r=>
   rw[hn]at bk;cases r with
  |none=> cases(show af=σ₁ from bk);exact C.done i' _ ak _ _ i.h dp ms hn fun h' tk ht hk=>hR (ak.moved dp hk ht) jd
  |some v=>
    obtain⟨k,au,uV,Bi⟩:=bk;refine C.item i' σ₁ ak v _ _ i.h dp ms hn fun h' tk val ht st' hk rv=>?_;obtain⟨oI,hoI,hfI⟩:=C.fld _ _ _ st';refine wpAny_assign_Name (kj (c:=c.plus I oI dp.2.2 N) hy i.e ((ak.moved dp hk ht).plus N dp hoI) rv fun ay cC=>?_);refine hT _ _ _ uV (c.plus I oI dp.2.2 N) ⟨i.e,i.n,i.h⟩ ay _ fun bH gW=>?_;have go:∀(cO:Sx)(cf:Dy (c.plus I oI dp.2.2 N) cO),bH.g.Le cf.g->SLoop nx y T G m (i'+1) cO af->∃m',m' < m+1/\ud d I St nx y T G af m' cf.s:=fun cO cf mx fA=>
     have q:=cf.still nf
     ⟨m,Nat.lt_succ_self m,.mk (i'+1) cO (cf.minus hfI.nc) rfl (Gh.Le.trans jd (Gh.Le.trans cC (Gh.Le.trans gW mx))) q.1 (C.ext _ _ cf.g _ cf.s.heap st' (Gh.Le.trans cC (Gh.Le.trans gW mx)) cf.h.zf (q.2.trans hoI.symm)) fA⟩
    cases k with
   |false=>exact go au bH (.refl _) Bi
   |true=> obtain⟨bl,KZ,cI⟩:=Bi;exact hG _ _ KZ (c.plus I oI dp.2.2 N) ⟨i.e,i.n,i.h⟩ bH l (Gh.Le.p (Gh.Le.trans jd (Gh.Le.trans cC gW)) _ _ hl) _ fun cf mx=>go bl cf mx cI
theorem Jx(hg:gens[dep+1]?=some ⟨.Name y py,it,ifs,0⟩)(hset:∀(env:Env)v,foldedSetIterable it env v=pure v)(hx:SE e n it σ (.ok v σ₁))(hs:bX v σ₁ nx)(hy:bF e y)(hT:∀σ k af,T σ k af->ly e n ifs σ k af)
  (hG:∀σ af,G σ af->mU e n elt gens sc pos (dep+1) j σ af) (h:SLoop nx y T G m 0 σ₁ af):mU e n elt gens sc pos dep j σ af:=fun c i d l hl K hK=>by
 unfold lP;rw[hg];refine⟨rfl,hset c.env,hx c i d _ fun ak a le r=>hs c i.h ak a _ r fun o St ho hC st0=>?_⟩;haveI hI:=Heap.get?_none_of_le (h:=ak.s.heap) (Nat.le_refl ak.s.heap.objs.size);haveI loop:codeAny c.b.M c.A (.compLoop (.ListComp elt gens sc pos) (dep+1) (.ref ak.s.heap.objs.size) (.ref l) c.env) (fun r s'=>match r with|.ok _=>K s'|.error e=>cameBackBy c.b.M c.A c.env c.E e s') {ak.s with heap:=ak.s.heap.push o}:=
  y0 hg hy hT hG h i (ak.keeps (s':={ak.s with heap:=ak.s.heap.push o}) (fun u_ u_ h=>Heap.get?_push_of_some _ h) rfl rfl ak.h.tk) (ak.h.fresh hI) (hC c rfl) st0 (le.p _ _ hl) fun d' le'=>hK d' (le.trans le')
 exact vy hg loop ((hC c rfl).self 0 _ _ c.A _ _ i.h st0 loop)
theorem xd(h:i≠j):Nat.beq i j=false:=by
 cases q:Nat.beq i j with
|false=>rfl
|true=>exact absurd (Nat.eq_of_beq_eq_true q) h
theorem VV.drop(z:g.z.Le g'.z)(hp:∀p a,p≠.loc i->g.at_ (.p p)=some a->g'.at_ (.p p)=some a)(k:refs i v=false)(h:VV b g v val):VV b g' v val:=match v,k,h with
|.f _,_,h=>FR.mono z h
|.p p,k,h=>by cases h with|mk a e q=>exact⟨a,e,hp _ _ (fun w=>by rw[w]at k;exact Bool.false_ne_true (k.symm.trans (Nat.beq_refl i))) q⟩
|.bnd j,k,h=>by cases h with|mk a x e q t=>exact⟨a,x,e,hp _ _ (fun w=>by cases(w);exact Bool.false_ne_true (k.symm.trans (Nat.beq_refl i))) q,z.f _ _ t⟩
|.vals,_,h=>by cases h with|mk a x e q t=>exact⟨a,x,e,hp _ _ (fun w=>by cases w) q,z.f _ _ t⟩
|.dview _,_,h=>h.imp fun u_ r=>⟨r.1.mono z,DRs.mono z r.2⟩
|.lam,_,h=>by cases h with|mk l o e q t=>exact⟨l,o,e,z.f _ _ q,t⟩
theorem VV.noRef(h0:g.at_ (.p (.loc i))=none)(h:VV b g v val):refs i v=false:=match v,h with
|.f _,_=>rfl
|.p p,h=>by
  cases p with
 |loc j=>cases h with|mk a e q=>exact xd fun z=>by rw[<- z,h0]at q;cases q
 |_=>rfl
|.bnd j,h=>by cases h with|mk a x e q t=>exact xd fun z=>by rw[<- z,h0]at q;cases q
|.vals,_=>rfl
|.dview _,_=>rfl
|.lam,_=>rfl
section
variable{c:Fr}{σ uW σ₁ au:Sx}{h:List AO}{xs:List F}
structure iG(c:Fr)(l:List (Str×V))(i:Nat):Prop where
 l:∀n v,(ad c.e.names n=some .local\/ad c.e.names n=some .cell)->ad l n=some v->refs i v=false
 f:∀n v,ad c.e.names n=some .free->ad c.e.free n=some v->refs i v=false
theorem iG.of{l:List (Str×V)}(uX:db c l K0)(h0:K0.at_ (.p (.loc i))=none):iG c l i:=by
 obtain⟨Lv,_,K4⟩:=uX.ns;refine⟨fun n v k q=>?_,fun n v k q=>?_⟩
 ·rcases k with k|k
  ·obtain⟨w,_,t⟩:=K4 n v k q;exact VV.noRef h0 t
  ·obtain⟨_,_,_,_,_,aK⟩:=uX.cell n k;obtain⟨w,_,t⟩:=aK v q;exact VV.noRef h0 t
 ·obtain⟨_,_,_,_,_,_,t⟩:=uX.free n v k q;exact VV.noRef h0 t
theorem uC:∀{l:List (Str×V)},noRef i l=true->ad l n=some v->refs i v=false:=@fun a b c=>match a,b,c with
|(x,w)::r,h,q=>by
  haveI h:(match refs i w with|true=>false|false=>noRef i r)=true:=h;haveI q:(match ah n x with|true=>some w|false=>ad r n)=some v:=q;cases e:refs i w with
 |true=>rw[e]at h;cases h
 |false=>
   rw[e]at h;cases z:ah n x with
  |true=>rw[z]at q;cases q;exact e
  |false=>rw[z]at q;exact uC h q
theorem iG.chk{l:List (Str×V)}(h1:noRef i l=true)(h2:noRef i c.e.free=true):iG c l i:=⟨fun u_ u_ u_ q=>uC h1 q,fun u_ u_ u_ q=>uC h2 q⟩
theorem db.drop(k:iG c l i)(z:g.z.Le g'.z)(hp:∀p a,p≠.loc i->g.at_ (.p p)=some a->g'.at_ (.p p)=some a)(e:e8 aE.frm g g')(r:db c l g):db c l g':=by
 obtain⟨m,h1,h2⟩:=r.ns;refine⟨(e .L trivial).1.trans r.L,⟨m,(e .L trivial).2▸h1,fun n v kn q=>(h2 n v kn q).imp fun u_ t=>⟨t.1,VV.drop z hp (k.l n v (.inl kn) q) t.2⟩⟩,fun n kn=>?_,fun n v kn q=>?_⟩
 ·obtain⟨a,cv,r1,r2,r3,r4⟩:=r.cell n kn;exact⟨a,cv,r1,(e (.cell n) trivial).1.trans r2,(e (.cell n) trivial).2▸r3,fun v q=>(r4 v q).imp fun u_ t=>⟨t.1,VV.drop z hp (k.l n v (.inr kn) q) t.2⟩⟩
 ·obtain⟨a,o,val,r1,r2,r3,t⟩:=r.free n v kn q;exact⟨a,o,val,r1,r2,r3,VV.drop z hp (k.f n v kn q) t⟩
noncomputable def ew(k:Nat):List AO->Bool
|[]=>true
|.dl es::r=>match fP es k with
 |true=>false
 |false=>ew k r
|_::r=>ew k r
theorem Kk:∀{h:List AO}{j:Nat},ew k h=true->sH (aq h j) k=false:=by
 intro h
 induction h with
|nil=> intro _ _;exact rfl
|cons ao r ih=>
  intro j h;have key:sH (some ao) k=false/\ew k r=true:=by
   cases ao with
  |dl es=>
    have h:(match fP es k with|true=>false|false=>ew k r)=true:=h;show fP es k=false/\_;cases q:fP es k with
   |true=>rw[q]at h;cases h
   |false=>rw[q]at h;exact⟨rfl,h⟩
  |_=>exact⟨rfl,h⟩
  cases j with
 |zero=>exact key.1
 |succ j=>exact ih (j:=j) key.2
theorem aW.lose(r:aW c σ g)(k:iG c σ.l h.length)(hd:ew h.length h=true)(hh:σ.h=h++[ao])(e0:g'.at_ (.p (.loc h.length))=none)(kk:∀T,T≠.p (.loc h.length)->g'.at_ T=g.at_ T/\g'.ob T=g.ob T)(hz:g'.z=g.z):aW c {σ with h:=h} g':=by
 have hp:∀p a,p≠.loc h.length->g.at_ (.p p)=some a->g'.at_ (.p p)=some a:=fun p a t q=>(kk (.p p) fun z=>t (by cases(z);rfl)).1.trans q;have zl:g.z.Le g'.z:=by rw[hz];exact .refl _
 refine⟨db.drop k zl hp (fun T t=>kk T fun z=>by rw[z]at t;exact t) r.fr,fun j=>?_,eH.eq zl (fun T t=>kk T fun z=>by rw[z]at t;exact t) r.srt,fun j p q=>?_,fun k q=>(congrArg (fun z:Z=>z.st k) hz).trans (r.st k q)⟩
 ·show OR c.b g' j (aq h j);by_cases q:j=h.length
  ·rw[q,rC];exact e0
  ·have:=r.loc j;rw[hh,te q]at this;exact OR.eq zl (fun p a u e=>hp p a (fun z=>Bool.false_ne_true ((Kk hd).symm.trans (u _ z))) e) (fun T t=>kk T fun z=>q (by rw[z]at t;exact t.symm)) this
 ·have z:=kk (.tab j) fun z=>by cases z
  exact⟨z.1.trans (r.tab j p q).1,z.2▸(r.tab j p q).2.mono zl⟩
theorem Dy.lose(d:Dy c σ)(k:iG c σ.l h.length)(hd:ew h.length h=true)(hh:σ.h=h++[ao])(hl:d.g.at_ (.p (.loc h.length))=some l):
  ∃d':Dy c {σ with h:=h},d'.s=d.s/\d'.g.z=d.g.z/\(∀T,T≠.p (.loc h.length)->d'.g.at_ T=d.g.at_ T/\d'.g.ob T=d.g.ob T)/\(∀T,d'.g.at_ T≠some l)/\cq c d'.g l:=by
 haveI hf:∀T,(d.g.set (.p (.loc h.length)) none default).at_ T≠some l:=fun T q=>by
  by_cases t:T=.p (.loc h.length)
  ·rw[t,Gh.at_same]at q;cases q
  ·exact t (d.h.inj _ _ _ ((Gh.at_ne t).symm.trans q) hl)
 refine⟨⟨_,d.s,HC.drop (T:=.p (.loc h.length)) (o:=default) d.h,d.r.lose k hd hh Gh.at_same (fun T t=>Gh.set_out t) rfl⟩,rfl,rfl,fun T t=>Gh.set_out t,hf,d.h.nz _ _ hl,hf,?_⟩;cases q:c.X l with
|none=>rfl
|some o=>exact absurd hl ((d.h.xz l o q).2 _)
theorem Dy.froze(gX:Dy c uW)(d:Dy c σ)(le:gX.g.Le d.g)(hl:σ.l=uW.l)(hh:σ.h=h++[.list xs])(hd:ew h.length h=true)(h0:aq uW.h h.length=none){l:Addr}(hl2:d.g.at_ (.p (.loc h.length))=some l):
  ∃d':Dy c {σ with h:=h},d'.s=d.s/\Le gX d'/\VD d' (.f (.list xs)) (.ref l)/\∀a,cq c d.g a->cq c d'.g a:=by
 have n0:gX.g.at_ (.p (.loc h.length))=none:=by have:=gX.r.loc h.length;rw[h0]at this;exact this
 have L:=d.r.loc h.length;rw[hh,sD]at L;cases(show cA c.b d.g (.loc h.length) xs from L)with|mk l' vs n k1 k2 k3=>
 cases hl2.symm.trans k1;obtain⟨ak,e1,e2,e3,e4,f⟩:=d.lose (hl▸iG.of gX.r.fr n0) hd hh hl2;have hS:∀a,a=l->ak.g.z.f a=none/\(∀T,ak.g.at_ T≠some a)/\c.X a=none:=fun a q=>q▸f;have le1:=qj (h:=ak.s.heap) fun a q=>(hS a q).1;have hz:d.g.z.Le (ak.g.adopt (·=l) ak.s.heap).z:=e2▸le1.z;refine⟨⟨_,ak.s,ak.h.adopt hS,ak.r.frz le1 (fun u_=>⟨rfl,rfl⟩) rfl⟩,e1,⟨le.z.trans hz,fun a q=>?_,fun p a q=>?_⟩,⟨vs,⟨l,n,rfl,?_⟩,FRs.mono hz k3⟩,fun a fa=>⟨?_,fun T q=>?_,fa.2.2⟩⟩
 ·exact(e3 (.p .n2i) fun z=>by cases z).2.symm▸le.n a q
 ·exact(e3 (.p p) fun z=>by cases z;rw[n0]at q;cases q).1.trans (le.p p a q)
 ·exact(if_pos rfl).trans (by rw[e1];exact(d.h.at_ _ _ hl2).trans (congrArg some k2))
 ·refine(if_neg fun z=>fa.2.1 _ (z▸hl2)).trans ?_;rw[e2];exact fa.1
 ·by_cases t:T=.p (.loc h.length)
  ·rw[t]at q;have:=ak.r.loc h.length;rw[show aq ({σ with h:=h}:Sx).h h.length=none from rC]at this;exact absurd (q.symm.trans this) (fun z=>by cases z)
  ·exact fa.2.1 T ((e3 T t).1.symm.trans q)
end
noncomputable abbrev kK(sc:Scope)(e:Ev)(l:List (Str×V)):Ev:=⟨sc.names,bG e l sc.names⟩
inductive ox(e:Ev)(n:Nat)(elt:Expr)(gens:List Comprehension)(sc:Scope)(pos:Pos)(y:Str)(ifs:List Expr)(v:V)(σ₁ au:Sx):Prop
|mk (nx:Nx) (m:Nat) (T:Sx->Bool->Sx->Prop) (G:Sx->Sx->Prop):bX v σ₁ nx->(∀σ k af,T σ k af->ly (kK sc e σ₁.l) n ifs σ k af)->(∀σ af,G σ af->mU (kK sc e σ₁.l) n elt gens sc pos 0 σ₁.h.length σ af) ->
  SLoop nx y T G m 0 {σ₁ with l:=[],h:=σ₁.h++[.list []]} au->ox e n elt gens sc pos y ifs v σ₁ au
structure eE(sc:Scope)(e:Ev)(y:Str):Prop where
 k:sc.kind=.function
 ok:fq sc.names
 c:ff e sc.names=true
 y:ad sc.names y=some .local\/ad sc.names y=some .cell
noncomputable def zm(sc:Scope)(e:Ev)(y:Str):Bool:=oB sc.kind&&nS sc.names&&ff e sc.names&&nr sc.names y
theorem eE.of{y:Str}(h:zm sc e y=true):eE sc e y:=by haveI h:=(Bool.and_eq_true _ _).mp h;haveI h1:=(Bool.and_eq_true _ _).mp h.1;haveI h2:=(Bool.and_eq_true _ _).mp h1.1;exact⟨uh h2.1,rV h2.2,h1.2,zX h.2⟩
inductive wh(d:Dy c σ₁)(o:Obj):Prop
|mk (am:Dy c {σ₁ with h:=σ₁.h++[.list []]}):d.g.Le am.g->cq c am.g d.s.heap.objs.size->am.s.heap.get? d.s.heap.objs.size=some o->am.g.at_ (.p (.loc σ₁.h.length))=some (d.s.heap.push o).objs.size->am.s={d.s with heap:=(d.s.heap.push o).push (aV [] 0)}->wh d o
theorem Ey(d:Dy c σ₁)(hIo:(d.s.heap.push o).get? d.s.heap.objs.size=some o)(hf:kx o)(nf:d.s.heap.objs.size∉c.fs):wh d o:=by
 have hI:=Heap.get?_none_of_le (h:=d.s.heap) (Nat.le_refl d.s.heap.objs.size);have fI:=d.h.fresh hI;obtain⟨ak,e1,le1,r1⟩:=((d.keeps (s':={d.s with heap:=d.s.heap.push o}) (fun u_ u_ h=>Heap.get?_push_of_some _ h) rfl rfl d.h.tk).plus c.E fI hIo).ownPush (o:=aV [] 0) (ao:=.list []) rfl fun g' u_ h1 h2=>vr h1 h2;obtain⟨dp,uY⟩:=ak.still nf;cases r1 with|mk l el el2=>
 cases el;exact .mk (ak.minus hf) le1 dp uY el2 e1
theorem Dy.noFr(d:Dy c σ₁):d.s.heap.objs.size∉c.fs:=fun m=>by obtain⟨ob,_,_,h1,_⟩:=d.frame m;rw[Heap.get?_none_of_le (Nat.le_refl _)]at h1;cases h1
theorem G3{g g':Gh}(e:g'=g.enter true fa h):g.Le g':=by rw[e];exact⟨.refl _,fun u_ u_=>.inl (fm (T:=.p .n2i) trivial).2,fun p a q=>(fm (T:=.p p) (by cases p<;>first|rfl|trivial)).1.trans q⟩
theorem BL{s:Shared}{C:Addr}{o:Obj}{fa:aE->Option Addr}{h:Heap}{hx:ca c.b A en e' (c.xs g true) fs k}(f:cq c g C)(hI:s.heap.get? C=some o)(e3:K5=g.enter true fa h)(fr:∀T a,fa T=some a->s.heap.get? a=none):cq (c.sub A en e' E (c.xs g true) fs k hx) K5 C:=by
 subst e3;refine⟨f.1,fun T q=>?_,?_⟩
 ·by_cases k:T.keep true
  ·exact f.2.1 T ((if_pos k).symm.trans q)
  ·haveI:=fr T _ ((if_neg k).symm.trans q);rw[hI]at this;cases this
 ·cases q:c.xs g true C with
 |none=>exact q
 |some io=>
   rcases sf q with⟨T,_,z,_⟩|z
   ·exact absurd z (f.2.1 T)
   ·rw[f.2.2]at z;cases z
theorem AQ(i:In c e n)(hg:gens[0]?=some ⟨.Name y py,it,ifs,0⟩)(S:eE sc e y)(L:ox e n elt gens sc pos y ifs v σ₁ au)(d:Dy c σ₁)(ra:VD d v av)
  (fin:∀(d':Dy c {au with l:=σ₁.l})(C l:Addr),Le d d'->d'.g.at_ (.p (.loc σ₁.h.length))=some l->cq c d'.g C->C∉c.fs->(∃m,d'.s.heap.Ns C m)->compPost c.b.M c.A c.E use Q (.ref l) C (.ok .next) d'.s) :
  Wp c (pyIter av) (fun it s₂=>Wp c (newList []) (fun acc cj=>Wp c (newFunctionEnv sc c.env.globals (cY c.env sc.names []) [] c.env.qual none .none (some c.env)) (fun cenv ip=>
    codeAny c.b.M c.A (.compStart (.ListComp elt gens sc pos) 0 it acc {cenv with scope:=relabel sc c.env}) (compPost c.b.M c.A c.E use Q acc cenv.locals) ip) cj) s₂) d.s:=by
 cases L with|mk nx m T G hs hT hG hL=>
 refine hs c i.h d av _ ra fun o St ho hC st0=>wpAny_newObj_type ?_;haveI C:=hC c rfl;haveI hIo:(d.s.heap.push o).get? d.s.heap.objs.size=some o:=Heap.get?_push_size _ ho;haveI nc:kx o:=by obtain⟨o',ho',hf⟩:=C.fld _ _ _ st0;rw[hIo]at ho';cases ho';exact hf.nc
 cases Ey d hIo nc d.noFr with|mk am le2 uZ je el2 es=>
 haveI st2:=C.ext _ _ am.g _ am.s.heap st0 le2 am.h.zf (je.trans hIo.symm);rw[show({d.s with heap:=(d.s.heap.push o).push {cls:=.type "list",data:=.seq ([]:List Value).toArray}}:Shared)=am.s from es.symm];refine F5 am i.e S.k S.ok S.c c.E fun cenv ay hce hloc hg3 hk3 fr3=>?_;rw[hce,hloc];haveI le3:am.g.Le ay.g:=G3 hg3;haveI st3:=C.ext _ _ ay.g _ ay.s.heap st2 le3 ay.h.zf ((hk3 _ _ je).trans je.symm);haveI K6:=BL (hx:=qy am i.e S.k S.ok S.c) (A:=c.A) (E:=c.E) uZ je hg3 fr3;haveI loop:=y0 (c:=c.sub c.A (me sc c.env am.s.heap.objs.size) (kK sc e σ₁.l) c.E (c.xs am.g true) c.fs c.n (qy am i.e S.k S.ok S.c)) (R:=compPost c.b.M c.A c.E use Q (.ref (d.s.heap.push o).objs.size) am.s.heap.objs.size) hg (S.y.elim (fun q=>.loc q) fun q=>.cell q) hT hG hL ⟨rfl,i.n,i.h⟩ ay K6 (hC _ rfl) st3 (le3.p _ _ el2) fun cf mx=>by obtain⟨d',q1,q2,q3⟩:=am.left cf (fun a m=>.inl m) (fa:=kX sc am.s.heap.objs.size) (h:=ay.s.heap) (by rw[<- hg3];exact mx);obtain⟨m,r1,_⟩:=cf.r.fr.ns;rw[<- q1];refine fin d' _ _ (le2.trans q2) (q2.p _ _ el2) (by rw[q3];exact rY am.h cf.h (T:=.L) id cf.r.fr.L) am.noFr ⟨m,q1▸cf.h.ns cf.r.fr.L r1⟩
 exact vy hg loop ((hC _ rfl).self 0 _ _ c.A _ _ i.h st3 loop)
inductive mL(e:Ev)(n:Nat)(elt:Expr)(gens:List Comprehension)(sc:Scope)(pos:Pos)(y:Str)(ifs:List Expr)(v:V)(σ₁:Sx):aG V->Prop
|bad:mL e n elt gens sc pos y ifs v σ₁ .bad
|ok (au:Sx) (h:List AO) (xs:List F):ox e n elt gens sc pos y ifs v σ₁ au->au.h=h++[.list xs]->h.length=σ₁.h.length->ew h.length h=true->mL e n elt gens sc pos y ifs v σ₁ (.ok (.f (.list xs)) {au with l:=σ₁.l,h:=h})
noncomputable def zS(d:Dy c σ)(use:Option (Value->Sem Unit))(Q:Value->Shared->Prop)(r:aG V):Prop:=match r with
|.ok u af=>∀(d':Dy c af)(val:Value)(C:Addr),Le d d'->VD d' u val->cq c d'.g C->C∉c.fs->(∃m,d'.s.heap.Ns C m)->compPost c.b.M c.A c.E use Q val C (.ok .next) d'.s
|.exc x af=>c.A.handled=none/\∀(d':Dy c af)(a:Addr),Le d d'->bI c.b c.env.frame d'.g x a->c.E (.ref a) d'.s
|.bad=>False
theorem Ai(hset:∀(env:Env)v,foldedSetIterable it env v=pure v)(S:eE sc e y)(hx:SE e n it σ rx)(hr:∀v σ₁,rx=.ok v σ₁->mL e n elt (⟨.Name y py,it,ifs,0⟩::gs) sc pos y ifs v σ₁ (f v σ₁))(i:In c e n)(d:Dy c σ)
  (p:zS d use Q (rx.bnd f)) :
  Wp c (comprehension (.ListComp elt (⟨.Name y py,it,ifs,0⟩::gs) sc pos) sc c.env (firstIterPos (⟨.Name y py,it,ifs,0⟩::gs) pos) (newList []) false (eval it c.env) use) Q d.s:=by
 refine wpAny_comprehension_free (g:=⟨.Name y py,it,ifs,0⟩) (gs:=gs) (cl:=cY c.env sc.names []) rfl (hset c.env) (rE (pj d i.e S.c)) S.k (fun x m hx=>qv S.ok.nd (hx▸m)) ?_;refine hx c i d _ ?_;cases rx with
|bad=>exact p.elim
|exc x σ₁=>exact p
|ok v σ₁=>
  intro ak av jd ra;haveI p:zS d use Q (f v σ₁):=p;haveI R:=hr v σ₁ rfl;generalize f v σ₁=r at R p;cases R with
 |bad=>exact p.elim
 |ok au h xs L hh hl hd=> refine AQ i rfl S L ak ra fun am C l bQ el fC nC ns=>?_;obtain⟨ay,q1,q2,q3,q4⟩:=Dy.froze ak am bQ rfl hh hd (by rw[hl];exact rC) (by rw[hl];exact el);rw[<- q1]at ns ⊢;exact p ay _ C (jd.trans q2) q3 (q4 C fC) nC ns
theorem Dy.letGo(d:Dy c σ)(f:cq c d.g C)(hs:Heap.SameBut C d.s.heap h'):∃d':Dy c σ,d'.s={d.s with heap:=h'}/\d'.g=d.g:=⟨⟨d.g,{d.s with heap:=h'},d.h.touch f (f.noB d.h d.r) (fun a o n e=>(hs.2 a n).trans e) rfl rfl (Nat.le_refl _),d.r⟩,rfl,rfl⟩
theorem pZ(hset:∀(env:Env)v,foldedSetIterable it env v=pure v)(S:eE sc e y)(hx:SE e n it σ rx)(hr:∀v σ₁,rx=.ok v σ₁->mL e n elt (⟨.Name y py,it,ifs,0⟩::gs) sc pos y ifs v σ₁ (f v σ₁)):
  SE e n (.ListComp elt (⟨.Name y py,it,ifs,0⟩::gs) sc pos) σ (rx.bnd f):=fun c i d Q p=>by
 rw[eval_ListComp];refine Ai hset S hx hr i d ?_;cases h:rx.bnd f with
|bad=>rw[h]at p;exact p
|exc x af=>rw[h]at p;exact p
|ok u af=> rw[h]at p;intro d' val C le r fC nC ns;obtain⟨m,ns⟩:=ns;refine⟨m,ns,fun h' hs=>?_⟩;obtain⟨am,e1,e2⟩:=d'.letGo fC hs;rw[<- e1];exact p am val (le.trans (by show d'.g.Le am.g;rw[e2];exact .refl _)) (by show VV c.b am.g u val;rw[e2];exact r)
set_option tactic.hygienic true in
theorem Ct(hy:bF e x)(hset:∀(env:Env)v,foldedSetIterable it env v=pure v)(S:eE sc e y)(hx:SE e n it σ rx)(hr:∀v σ₁,rx=.ok v σ₁->mL e n elt (⟨.Name y py,it,ifs,0⟩::gs) sc pos y ifs v σ₁ (f v σ₁)):
  SS e n (.Assign [.Name x px] (.ListComp elt (⟨.Name y py,it,ifs,0⟩::gs) sc pos) ps) σ ((rx.bnd f).bnd fun v af=>.ok .next {af with l:=ag af.l x v}):=fun c i here d Q p=>by
 haveI sw:∃k,swapsWith (.ListComp elt (⟨.Name y py,it,ifs,0⟩::gs) sc pos) (some (.Name x px)) ps.line c.env=pure k:=⟨_,rfl⟩;obtain⟨k,sw⟩:=sw;cases k with
|false=>exact wpAny_Assign_Name (pZ hset S hx hr c i d _ (aB.bnd p fun v af d' a u_ r p'=>qP hy i r p')) sw
|true=>
  rw[exec_Assign_Name_used _ _ _ _ sw];refine wpAny_bind (wpAny_standAt (wpAny_bind ?_));refine wpAny_bind (wpAny_mono (Ai (use:=some (assign (.Name x px) c.env)) (Q:=fun u_ s'=>Q .next s') hset S hx hr i d ?_) (fun u_ s' hq=>wpAny_pure (wpAny_pure hq)) fun u_ u_ x=>x);cases h:rx.bnd f with
 |bad=>rw[h]at p;exact p
 |exc x af=>rw[h]at p;exact p
 |ok u af=> rw[h]at p;intro d' val C le r fC nC ns;obtain⟨m,oC,es,ep,hoC,hdC,ns⟩:=ns;refine wpAny_assign_Name (kj (c:=c.plus C oC fC.2.2 c.E) hy i.e (d'.plus c.E fC hoC) r fun am bQ=>?_);obtain⟨uZ,aY⟩:=am.still nC;refine⟨m,⟨oC,es,ep,aY,hdC,ns⟩,fun h' hs=>?_⟩;obtain⟨ay,e1,e2⟩:=(am.minus fun v q=>by rw[hdC]at q;cases q).letGo uZ hs;exact e1▸fL (p.after (show d.g.Le ay.g from Gh.Le.trans le (by rw[e2];exact bQ)))
theorem Ha(hset:∀(env:Env)v,foldedSetIterable it env v=pure v)(S:eE sc e y)(hx:SE e n it σ (.ok v σ₁))(L:ox e n elt (⟨.Name y py,it,ifs,0⟩::gs) sc pos y ifs v σ₁ au):
  SE e n (.ListComp elt (⟨.Name y py,it,ifs,0⟩::gs) sc pos) σ (.ok (.p (.loc σ₁.h.length)) {au with l:=σ₁.l}):=fun c i d Q p=>by
 rw[eval_ListComp];refine wpAny_comprehension_free (g:=⟨.Name y py,it,ifs,0⟩) (gs:=gs) (cl:=cY c.env sc.names []) rfl (hset c.env) (rE (pj d i.e S.c)) S.k (fun x m hx=>qv S.ok.nd (hx▸m)) ?_;refine hx c i d _ fun ak av jd ra=>AQ (use:=none) i rfl S L ak ra fun am C l bQ el fC nC ns=>?_;obtain⟨m,ns⟩:=ns;refine⟨m,ns,fun h' hs=>?_⟩;obtain⟨ay,e1,e2⟩:=am.letGo fC hs;haveI cC:am.g.Le ay.g:=by rw[e2];exact .refl _
 exact e1▸p ay _ ((jd.trans bQ).trans cC) ⟨l,rfl,cC.p _ _ el⟩
theorem EY(hl:iM a=some l)(hu:iM b=some u)(hv:bV σ xs v)(hz:Nat.ble xs.length aw=true):hH v a b σ (.ok (.p (.loc σ.h.length)) {σ with h:=σ.h++[.list (cut xs l u)]}):=fun c d av lv hv' ra rl rh Q p=>by obtain⟨l,rfl,rfl⟩:=lj rl hl;obtain⟨u,rfl,rfl⟩:=lj rh hu;revert p;apply iW hv ra;intro al vs n hI hr p;have hk:∀x o,d.s.heap.get? x=some o->(d.s.heap.push {cls:=.type "slice",data:=.fields #[partValue l,partValue u,.none]}).get? x=some o:=fun x o q=>Heap.get?_push_of_some _ q;have hI':=hk _ _ hI;refine⟨"list",_,list_getitem_lookup,⟨_,hI',rfl⟩,?_⟩;refine wpAny_getItem_list_slice (vs:=.none) (st:=none) (bz hI') ⟨_,Heap.get?_push_size _ rfl,rfl,rfl⟩ (qi l) (qi u) .none (by decide) ?_ (by rw[List.size_toArray,hr.length];exact fits hz);rw[Aw];obtain⟨ak,e1,e2,e3⟩:=(d.keeps (s':={d.s with heap:=d.s.heap.push {cls:=.type "slice",data:=.fields #[partValue l,partValue u,.none]}}) hk rfl rfl d.h.tk).ownPush (o:=aV (cut vs (Option.map (fun x:Int×Tok=>x.1) l) (Option.map (fun x:Int×Tok=>x.1) u)) 0) (ao:=.list (cut xs (Option.map (fun x:Int×Tok=>x.1) l) (Option.map (fun x:Int×Tok=>x.1) u))) rfl fun g' hz h1 h2=>show cA c.b g' (.loc σ.h.length) _ from .mk _ _ 0 h1 h2 (FRs.mono hz (FRs.cut hr _ _));exact e1▸p ak _ e2 e3
theorem Ji{lo hi:Option Expr}(ho:SE e n o σ (.ok v σ₁))(h1:SO e n lo σ₁ (.ok a bl))(h2:SO e n hi bl (.ok b cD))(hl:iM a=some l)(hu:iM b=some u)(hv:bV cD xs v)(hz:Nat.ble xs.length aw=true):
  SE e n (.Subscript o (.Slice lo hi none ps) pos) σ (.ok (.p (.loc cD.h.length)) {cD with h:=cD.h++[.list (cut xs l u)]}):=fun c i d Q p=>
 rg rfl (ho c i d _ fun d1 av l1 ra=>wpAny_Slice (h1 c i d1 _ fun d2 lv l2 rl=>h2 c i d2 _ fun d3 hv' l3 rh=>wpAny_evalPart_none (EY hl hu hv hz c d3 av lv hv' (VD.mono (Le.trans l2 l3) ra) (VO.mono l3 rl) rh _ (p.after (l1.trans (l2.trans l3))))))
theorem Kl:∀{es:List (Str×Nat)}{kvs:List (Str×Value)},fS g es kvs->kvs.map (·.1)=es.map (·.1):=by
 intro es
 induction es with
|nil=> intro _ h;cases(show _=[]from h);rfl
|cons p_ _ ih=> obtain⟨k,_⟩:=p_;intro _ h;obtain⟨v,r,rfl,_,h⟩:=h;exact congrArg (k::·) (ih h)
theorem IQ(a:g8 g (.loc j) val):∀{es:List (Str×Nat)}{kvs:List (Str×Value)},fS g es kvs->fS g (es++[(u,j)]) (kvs++[(u,val)]):=by
 intro es
 induction es with
|nil=> intro _ h;cases(show _=[]from h);exact⟨val,[],rfl,a,rfl⟩
|cons p_ _ ih=> obtain⟨k,_⟩:=p_;intro _ h;obtain⟨v,r,rfl,b,h⟩:=h;exact⟨v,_,rfl,b,ih h⟩
theorem zc:∀{es:List (Str×Nat)}{kvs:List (Str×Value)},fS g es kvs->ad es u=some j->∃val,valueAt kvs u=some val/\g8 g (.loc j) val:=@fun b c d e=>match b,c,d,e with
|(k,_)::es,_,h,hl=>by
  obtain⟨v,r,rfl,a,h⟩:=h;have hl:(match ah u k with|true=>some _|false=>ad es u)=some j:=hl;have hv:valueAt ((k,v)::r) u=(if k=u then some v else valueAt r u):=by
   by_cases q:k=u
   ·simp[valueAt,q]
   ·simp[valueAt,q]
  cases z:ah u k with
 |true=>rw[z]at hl;cases hl;exact⟨v,by rw[hv,if_pos (bD.mp z).symm],a⟩
 |false=>rw[z]at hl;rw[hv,if_neg fun w=>by rw[w,bU]at z;cases z];exact zc h hl
theorem Dv(h:aq σ.h i=some (.dl es))(hu:ad es u=none)(hz:Nat.ble es.length aw=true):jQ (.p (.loc i)) (.f (.str u)) (.p (.loc j)) σ (.ok () {σ with h:=bc σ.h i (.dl (es++[(u,j)]))}):=fun c d av iv xv Q ra ri rx p=>by
 have L:=d.r.loc i;rw[h]at L;cases(show ke c.b d.g i es from L)with|mk a kvs k1 k2 k3=>
 revert p;apply eT (v:=av) ra;intro a' e p;cases e.symm.trans k1;revert p;apply bN (v:=iv) ri;intro ti p;have kk:=Kl k3;refine wpAny_setItem_pairs (strKind_is _ _ u _) (k2.at (d.h.at_ _ _ k1)) (fun h' hd' hs=>?_) (by rw[<- List.length_map (·.1),kk,List.length_map];exact fits hz);rw[A9 (by rw[kk];exact oU hu)]at hd';obtain⟨o,ho,hd⟩:=DictO.of hd';have s:=Gh.set_le (o:=o) k1;obtain⟨d',r1,r2⟩:=d.putO (ao':=.dl (es++[(u,j)])) h k1 hs ho (Nat.le_succ _) (.mk a _ Gh.at_same (by rw[Gh.ob_same];exact hd) (IQ (g8.mono s rx) (fS.eq (fun j a u_=>s.p _ a) k3)):ke c.b _ i _);exact r1▸p d' () r2 trivial
theorem Fe(h:aq σ.h i=some (.dl es))(hu:ad es u=some j):fB (.p (.loc i)) (.f (.str u)) σ (.ok (.p (.loc j)) σ):=fun c d a b ra rb Q p=>by
 haveI L:=d.r.loc i;rw[h]at L;cases(show ke c.b d.g i es from L)with|mk l kvs k1 k2 k3=>
 revert p;apply eT (v:=a) ra;intro a' e p;cases e.symm.trans k1;revert p;apply bN (v:=b) rb;intro ti p;obtain⟨val,r1,r2⟩:=zc k3 hu;haveI D:=k2.at (d.h.at_ _ _ k1);exact⟨"dict",_,slot_dict_getitem.lookup,D.mapOf.typeIs,wpAny_getItem_of (strKind_is _ _ u _) D.mapOf r1 (fN p r2 (Nat.le_succ _))⟩
theorem DO:SE e n (.Dict [] [] pos) σ (.ok (.p (.loc σ.h.length)) {σ with h:=σ.h++[.dl []]}):=fun c i d Q p=>wpAny_Dict_empty (by obtain⟨d',e1,e2,e3⟩:=d.ownPush (o:={cls:=.type "dict",data:=.dict #[]}) (ao:=.dl []) rfl fun g' u_ h1 h2=>(.mk _ [] h1 (by rw[h2];exact Al) rfl:ke c.b g' σ.h.length []);exact e1▸p d' _ e2 e3)
theorem wx:SE e n (.Dict [] [] pos) σ (.ok (.p (.loc σ.h.length)) {σ with h:=σ.h++[.dict []]}):=fun c i d Q p=>wpAny_Dict_empty (by obtain⟨d',e1,e2,e3⟩:=d.ownPush (o:={cls:=.type "dict",data:=.dict #[]}) (ao:=.dict []) rfl fun g' u_ h1 h2=>HL h1 h2;exact e1▸p d' _ e2 e3)
theorem mO:SE e n (.List [] pos) σ (.ok (.p (.loc σ.h.length)) {σ with h:=σ.h++[.list []]}):=fun c i d Q p=>wpAny_List (show Wp c (pure []) _ d.s from wpAny_pure ⟨Nat.zero_le _,by obtain⟨d',e1,e2,e3⟩:=d.ownPush (o:=aV [] 0) (ao:=.list []) rfl fun g' u_ h1 h2=>vr h1 h2;exact e1▸p d' _ e2 e3⟩)
set_option tactic.hygienic true in
theorem Cq(hs:∀env:Env,swapsWith x (some (.Attribute o "_ready_nodes" pa)) pos.line env=pure false)(hx:SE e n x σ (.ok (.p (.loc h.length)) σ₁))(ho:SE e n o σ₁ (.ok (.p .self) au))(hh:au.h=h++[.list (r.map F.str)])(hq:au.q=some q)(hr:q.ready=none)
  (k:noRef h.length au.l=true) (kf:noRef h.length e.free=true) (hd:ew h.length h=true) (h0:aq σ.h h.length=none):SS e n (.Assign [.Attribute o "_ready_nodes" pa] x pos) σ (.ok .next {au with q:=some {q with ready:=some r},h:=h}):=fun c i here d Q p=>by
 refine plainObj_wpAny_Assign_Attribute (hx c i d _ fun ak xv dy dw=>ho c i ak _ fun am ov l₂ bY=>?_) (hs c.env);apply eT (v:=xv) (VD.mono l₂ dw);intro l hl;apply eT (v:=ov) bY;intro a ha;haveI L:=am.r.loc h.length;rw[hh,sD]at L;cases(show cA c.b am.g (.loc h.length) (r.map F.str)from L)with|mk l' vs m k1 k2 k3=>
 cases hl.symm.trans k1;haveI hlI:=(am.h.at_ _ _ hl).trans (congrArg some k2);obtain⟨ay,e1,e2,e3,e4,f⟩:=am.lose (iG.chk (c:=c) k (by rw[i.e];exact kf)) hd hh hl;haveI hq3:({au with h:=h}:Sx).q=some q:=hq;cases ay.sr hq3 with|mk a' sd n2i tp tf rd kvs h1 h2 h3 h4 h5 h6 h7 h8 h9 h10=>
 haveI ha':ay.g.at_ (.p .self)=some a:=(e3 _ fun z=>by cases z).1.trans ha;cases ha'.symm.trans h1;rw[hr]at h8;haveI hrd:rd=.none:=h8.1;subst hrd;rw[<- e1];refine ue c.ok ay.h.K ((ay.h.at_ _ _ h1).trans (congrArg some h2)) (ay.h.at_ _ _ h3) h4 (show 4<=6 by decide) (.tail _ (.head _)) fun h' o' ho' hn' hs'=>?_;haveI nl:sd≠l:=fun z=>e4 .sd (z▸h3);haveI hl':h'.get? l=some (aV vs m):=(hs'.2 l nl.symm).trans (by rw[e1];exact hlI);haveI le1:=Gh.set_le (o:=o') h3;haveI n1:(ay.g.set .sd (some sd) o').at_ (.p .rd)=none:=(Gh.set_at h3).trans h8.2;haveI H:=(ay.hset (t:=ay.s.toks+1+1) h3 (fun u_ z=>by cases z) hs' ho' (Nat.le_add_right _ 2)).place (T:=.p .rd) hl' ⟨f.1,fun T z=>e4 T ((Gh.set_at h3).symm.trans z),f.2.2⟩ fun mm=>let ⟨kk,z⟩:=ay.r.tb l mm;e4 _ z;haveI le2:=Gh.new_le (a:=some l) (o:=aV vs m) n1;haveI out:∀T,T≠.sd->T≠.p .rd->((ay.g.set .sd (some sd) o').set (.p .rd) (some l) (aV vs m)).at_ T=ay.g.at_ T/\((ay.g.set .sd (some sd) o').set (.p .rd) (some l) (aV vs m)).ob T=ay.g.ob T:=fun T t1 t2=>⟨(Gh.at_ne t2).trans (Gh.at_ne t1),(Gh.ob_ne t2).trans (Gh.ob_ne t1)⟩;haveI esd:((ay.g.set .sd (some sd) o').set (.p .rd) (some l) (aV vs m)).at_ .sd=some sd/\((ay.g.set .sd (some sd) o').set (.p .rd) (some l) (aV vs m)).ob .sd=o':=⟨(Gh.at_ne fun z=>by cases z).trans Gh.at_same,(Gh.ob_ne fun z=>by cases z).trans Gh.ob_same⟩;haveI erd:((ay.g.set .sd (some sd) o').set (.p .rd) (some l) (aV vs m)).at_ (.p .rd)=some l/\((ay.g.set .sd (some sd) o').set (.p .rd) (some l) (aV vs m)).ob (.p .rd)=aV vs m:=⟨Gh.at_same,Gh.ob_same⟩;haveI le3:=le1.trans le2;haveI zs:((ay.g.set .sd (some sd) o').set (.p .rd) (some l) (aV vs m)).z.st=ay.g.z.st:=rfl;generalize((ay.g.set .sd (some sd) o').set (.p .rd) (some l) (aV vs m))=g' at H out esd erd le3 zs;haveI sm:e8 aE.nds ay.g g':=fun T t=>out T (fun z=>by rw[z]at t;exact t) (fun z=>by rw[z]at t;exact t);haveI o1:=out (.p .self) (fun z=>by cases z) (fun z=>by cases z);haveI o2:=out (.p .n2i) (fun z=>by cases z) (fun z=>by cases z);haveI hz:am.g.z.Le g'.z:=e2▸le3.z;haveI n0:d.g.at_ (.p (.loc h.length))=none:=by haveI:=d.r.loc h.length;rw[h0]at this;exact this
 haveI l12:=dy.trans l₂;haveI R:=ay.r.srtG (q:={q with ready:=some r}) le3 (fun T t=>out T (fun z=>t (z▸trivial)) (fun z=>t (z▸trivial))) zs (.mk a sd n2i tp tf (.ref l) kvs (o1.1.trans h1) (o1.2.trans h2) esd.1 (esd.2▸hn') (o2.1.trans h5) (o2.2▸h6) (ck.eq le3.z sm h7) (.mk l rfl erd.1 (.mk l vs m erd.1 erd.2 (FRs.mono hz k3))) (gC.eq le3.z sm h9) (gF.eq sm h10));refine p ⟨g',_,H,R⟩ .next ⟨l12.z.trans hz,fun a q=>?_,fun p a q=>?_⟩ rfl
 ·rw[o2.2,(e3 (.p .n2i) fun z=>by cases z).2];exact l12.n a q
 ·haveI q2:=(e3 (.p p) fun z=>by cases z;rw[n0]at q;cases q).1.trans (l12.p p a q);exact(out (.p p) (fun z=>by cases z) fun z=>by cases z;rw[h8.2]at q2;cases q2).1.trans q2
noncomputable def SK(n:Nat)(v:V)(vs:List V)(σ:Sx)(r:aG V):Prop:=∀(c:Fr),c.A.handled=none->n<=c.n->∀(d:Dy c σ)(fv:Value)(us:List Value)(Q:Value->Shared->Prop),VD d v fv->aX c.b d.g vs us->aB d VV r Q->fo c.b.M d.s.heap fv/\Wp c (call fv us) Q d.s
noncomputable def cX(u:Value)(vs:List V)(σ:Sx)(r:aG V):Prop:=∀(c:Fr),c.A.handled=none->∀(d:Dy c σ)(us:List Value)(Q:Value->Shared->Prop),aX c.b d.g vs us->aB d VV r Q->fo c.b.M d.s.heap u/\Wp c (call u us) Q d.s
theorem cx(m:(w,u)∈kU)(h:cX u vs σ r):SK n (.f (.bi w)) vs σ r:=fun c hh u_ d fv us Q rv ru p=>by haveI:=(c.ok.blts _ m).symm.trans (show c.b.blt w=some fv from rv);cases this;exact h c hh d us Q ru p
theorem dD(hg:aq eU k=some (nm,g))(hk:fF k=false)(h:bo n k vs σ r):SK n (.f (.fn k)) vs σ r:=fun c hh hn d fv us Q rv ru p=>by
 cases(show fv=.ref (c.b.fa k)from rv);haveI k3:=notCls hk;refine⟨?_,wpAny_call (codeAny_mono (h c hh hn d us Q ru p) fun r s' h=>?_)⟩
 ·cases c.ok.fn k nm g hg k3.1 k3.2.1 k3.2.2 with|mk o fd a oc cvs ct ho hnt hdata=>exact qz (d.h.b ho hnt) hdata
 ·cases r with
 |error e=>exact h
 |ok f=>cases f<;>exact h
theorem vJ(hk:k=15\/k=16)(h:r7 k vs σ r):SK n (.f (.fn k)) vs σ r:=fun c hh hn d fv us Q rv ru p=>by
 cases(show fv=.ref (c.b.fa k)from rv);refine⟨?_,h c d us Q ru p⟩;rcases hk with rfl|rfl
 ·exact keeps_K c.ok.keep.1 _ d.h.K
 ·exact keeps_K c.ok.keep.2 _ d.h.K
theorem ai(h:bx x=false)(hx:SE e n x σ (.ok v σ₁))(hr:cP e n es σ₁ (.ok vs au)):cP e n (x::es) σ (.ok (v::vs) au):=fun c i d pos Q p=>by rw[gb h];exact Calls.spliced_cons (hx c i d _ fun d' a le ra=>hr c i d' pos _ fun d'' us y rs=>p d'' _ (le.trans y) ⟨a,us,rfl,VD.mono y ra,rs⟩)
theorem jL{d:Dy c σ}{P:List Value->Prop}(h:aX c.b d.g [v] us)(k:∀a,VD d v a->P [a]):P us:=by obtain⟨u,r,rfl,a,h⟩:=h;cases(show r=[]from h);exact k u a
theorem kM(hv:bV σ xs v)(hz:Nat.ble xs.length aw=true):cX (.builtin "len") [v] σ (.ok (.f (.int xs.length)) σ):=fun c hh d us Q ru p=>⟨fV,by
 revert p;apply jL ru;intro a r;apply iW hv r;intro l vs m hI hr p;haveI e1:vs.toArray.size=xs.length:=by rw[List.size_toArray,hr.length]
 exact len_list (bz hI) (by rw[e1];exact lB hz) (e1▸eg p (Nat.le_add_right _ 2))⟩
theorem rj(hz:Nat.ble t.length aw=true):cX (.builtin "len") [.f (.str t)] σ (.ok (.f (.int t.length)) σ):=fun c hh d us Q ru p=>⟨fV,by revert p;apply jL ru;intro a r;apply bN r;intro tk p;exact len_str (Int.not_le.mpr (lB hz)) (eg p (Nat.le_add_right _ 2))⟩
theorem vC(hz:Nat.ble xs.length aw=true):cX (.builtin "len") [.f (.tup xs)] σ (.ok (.f (.int xs.length)) σ):=fun c hh d us Q ru p=>⟨fV,by
 revert p;apply jL ru;intro a r p;obtain⟨vs,o0_,hr⟩:=r;obtain⟨l,m,rfl,hI⟩:=o0_;haveI hI:=d.h.zf _ _ hI;haveI e1:vs.toArray.size=xs.length:=by rw[List.size_toArray,FRs.length hr]
 exact len_tuple ⟨_,hI,rfl,_,rfl⟩ (by rw[e1];exact lB hz) (e1▸eg p (Nat.le_add_right _ 2))⟩
theorem vo:cX (.type "range") [.f (.int i)] σ (.ok (.f (.rng 0 i 1)) σ):=fun c hh d us Q ru p=>⟨kI,by revert p;apply jL ru;intro a r;apply lF r;intro tk p;refine call_range_1 ?_;haveI le:=Gh.fz_le (o:={cls:=.type "range",data:=.fields #[.int 0 d.s.toks,.int i tk,.int 1 (d.s.toks+1)]}) (d.h.fresh (Heap.get?_none_of_le (h:=d.s.heap) (Nat.le_refl _))).1;exact p ((d.push _ rfl).tok (d.s.toks+1+1) (Nat.le_add_right _ 2)) _ le (.mk _ _ _ _ rfl Z.add_same)⟩
theorem B1(hz:k=1\/k=-1):cX (.type "range") [.f (.int i),.f (.int j),.f (.int k)] σ (.ok (.f (.rng i j k)) σ):=fun c hh d us Q ru p=>⟨kI,by obtain⟨a1,us,rfl,r1,a2,us,rfl,r2,a3,us,rfl,r3,rr⟩:=ru;cases(show us=[]from rr);revert p;apply lF (v:=a1) r1;intro t1;apply lF (v:=a2) r2;intro t2;apply lF (v:=a3) r3;intro t3 p;refine call_range_3 (by omega) ?_ (Or.inl (PyProof.noPylong_small (by omega)));haveI le:=Gh.fz_le (o:={cls:=.type "range",data:=.fields #[.int i t1,.int j t2,.int k t3]}) (d.h.fresh (Heap.get?_none_of_le (h:=d.s.heap) (Nat.le_refl _))).1;exact p (d.push _ rfl) _ le (.mk _ _ _ _ rfl Z.add_same)⟩
theorem AT(hv:bV σ xs v)(hz:Nat.ble xs.length aw=true):cX (.type "tuple") [v] σ (.ok (.f (.tup xs)) σ):=fun c hh d us Q ru p=>⟨kI,by revert p;apply jL ru;intro a r;apply iW hv r;intro l vs m hI hr p;refine call_tuple_list (bz hI) (fun h' hk=>?_) (hr.fits hz);exact xS (d:=d.keeps (s':={d.s with heap:=h'}) hk rfl rfl d.h.tk) (p.after (Gh.Le.refl _)) hr⟩
theorem CN:cX (.builtin "isinstance") [.f (.str t),.f (.bi "str")] σ (.ok (.f (.bool true)) σ):=fun c hh d us Q ru p=>⟨fV,by obtain⟨a1,us,rfl,r1,a2,us,rfl,r2,rr⟩:=ru;cases(show us=[]from rr);cases(show some (Value.type "str")=some a2 from(c.ok.blts ("str",.type "str") (by decide +kernel)).symm.trans r2);revert p;apply bN (v:=a1) r1;intro tk p;exact PySem.IsiPair.str_str (p d _ (Le.refl d) rfl)⟩
theorem G4:plainId "bool.__new__"=true:=by decide +kernel
theorem Eh:plainId "object.__new__"=true:=by decide +kernel
theorem Da:TypeCalled "object" "object.__new__" "object.__init__":=
 ⟨by decide +kernel,by decide +kernel,⟨_,_,PySem.F.mro_object⟩,madeBy_type PySem.F.mro_object (by rw[typeLookup_type,builtinLookup_eq_fast];kernel_rfl) (by decide +kernel),by decide +kernel,by rw[isSubtype_type];kernel_rfl,PySem.F.slot_object_init⟩
theorem Kj:checkTypeCall "object" ⟨[],[]⟩=pure ():=by kernel_rfl
theorem CH:checkBuiltinCall "object.__new__" ⟨[.type "object"],[]⟩=pure ():=by kernel_rfl
theorem Gw(x:Value):someArgs "bool" 0 1 ⟨[x],[]⟩=pure [x]:=by kernel_rfl
theorem FV:Bind.madeHere "object.__new__" (.type "object")=pure ():=by kernel_rfl
theorem EH:diesByItsTypesDel "object"=false:=by decide +kernel
theorem FA(h:∀A:Around,wpAny (model prog w) A (truthy x) (fun k s'=>Q (.bool k) s') E s):wpAny (model prog w) A (call (.type "bool") [x]) Q E s:=by
 refine callType_codes (Q₁:=fun obj ap=>(∃k,obj=.bool k)/\Q obj ap) PySem.F.called_bool (PySem.F.typeCall_bool_1 _) PySem.F.entry_object_init ?_ fun obj ap bk=>?_
 ·refine codeAny_of_tree ?_;show wpAny _ A.in1.in1 (do checkBuiltinCall "bool.__new__" ⟨[.type "bool",x],[]⟩;again (.builtin "bool.__new__" ⟨[.type "bool",x],[]⟩)) _ _ s;refine wpAny_bind (wpAny_of_eq (PySem.F.newCall_bool_1 _) (wpAny_pure ⟨plainId_quiet G4 _,codeAny_builtin PySem.F.entry_bool_new ?_⟩));unfold Builtin.«bool.__new__»;refine wpAny_bind (m:=isType _) (wpAny_of_eq (a:=true) rfl ?_);refine wpAny_ite_false (decide_eq_false Bool.false_ne_true) ?_;refine wpAny_bind (wpAny_of_eq PySem.F.conv_sub_bool ?_);refine wpAny_ite_false (decide_eq_false Bool.false_ne_true) ?_;exact wpAny_bind (wpAny_of_eq (Gw x) (wpAny_bind (wpAny_mono (h _) (fun k s' hk=>wpAny_pure ⟨⟨k,rfl⟩,hk⟩) fun u_ u_ z=>z)))
 ·obtain⟨o0_,hq⟩:=bk;obtain⟨k,rfl⟩:=o0_;exact⟨rfl,PySem.F.args_object_init_2 _ _,object_init_meets PySem.F.called_bool.init.lookup PySem.F.called_bool.made (by decide) prog w A.in1 _ ap ⟨rfl,rfl,hq⟩⟩
theorem EA(h:Q (.ref s.heap.objs.size) {s with heap:=s.heap.push {cls:=.type "object",data:=.plain}}):wpAny (model prog w) A (call (.type "object") []) Q E s:=by refine callType_codes (Q₁:=fun obj ap=>ap.TypeIs obj "object"/\Q obj ap) Da Kj PySem.F.entry_object_init ?_ fun obj ap bk=>⟨bk.1,PySem.F.args_object_init_1 _,wpAny_pure ⟨rfl,bk.2⟩⟩;refine codeAny_of_tree ?_;show wpAny _ A.in1.in1 (do checkBuiltinCall "object.__new__" ⟨[.type "object"],[]⟩;again (.builtin "object.__new__" ⟨[.type "object"],[]⟩)) _ _ s;refine wpAny_bind (wpAny_of_eq CH (wpAny_pure ⟨plainId_quiet Eh _,codeAny_builtin PySem.F.entry_object_new ?_⟩));unfold Builtin.«object.__new__»;refine wpAny_bind (m:=isType _) (wpAny_of_eq (a:=true) rfl ?_);refine wpAny_ite_false (decide_eq_false Bool.false_ne_true) ?_;rw[if_neg (by decide +kernel)];refine wpAny_bind (m:=pure _) (wpAny_pure (wpAny_bind (wpAny_of_eq FV ?_)));rw[if_neg (by decide)];refine wpAny_bind (m:=pure _) (wpAny_pure (wpAny_bind (wpAny_newObj_type ?_)));rw[EH,if_neg (by decide)];exact wpAny_pure ⟨⟨_,Heap.get?_push_size _ rfl,rfl⟩,h⟩
noncomputable def Bc:F->Int
|.int i=>i
|_=>0
noncomputable def hV(xs:List F)(i:Nat):Int:=match xs[i]? with
|some x=>Bc x
|none=>0
theorem yt(x:F)(r:List F):∀j,preSum (hV (x::r)) (j+1)=Bc x+preSum (hV r) j:=@fun a=>match a with
|0=>by simp[preSum,hV]
|j+1=>by rw[preSum,yt x r j,preSum,show hV (x::r) (j+1)=hV r j from rfl,Int.add_assoc]
theorem IH:∀{xs:List F}{acc t:Int},lV xs acc=some t->t=acc+preSum (hV xs) xs.length/\∀x∈xs,∃i,x=.int i:=by
 intro xs
 induction xs with
|nil=> intro acc t h;cases h;exact⟨(Int.add_zero _).symm,fun u_ m=>absurd m List.not_mem_nil⟩
|cons x r ih=>
  intro acc t h;haveI key:∃i,x=.int i/\lV r (acc+i)=some t:=by cases x<;>first|exact⟨_,rfl,h⟩|cases h
  obtain⟨i,rfl,h⟩:=key;obtain⟨h1,h2⟩:=ih (acc:=acc+i) (t:=t) h;refine⟨?_,fun x m=>?_⟩
  ·rw[List.length_cons,yt,h1,Int.add_assoc];rfl
  ·rcases List.mem_cons.mp m with rfl|m
   ·exact⟨i,rfl⟩
   ·exact h2 x m
theorem Ge(h:fX v σ k):cX (.type "bool") [v] σ (.ok (.f (.bool k)) σ):=fun c hh d us Q ru p=>⟨kI,by revert p;apply jL ru;intro a r p;exact FA fun A=>h c d a r A _ _ fun d' le=>p d' _ le rfl⟩
theorem Ez(hv:bV σ xs v)(ht:lV xs 0=some t):cX (.builtin "sum") [v] σ (.ok (.f (.int t)) σ):=fun c hh d us Q ru p=>⟨fV,by
 revert p;apply jL ru;intro a r;apply iW hv r;intro l vs m hI hr p;obtain⟨h1,h2⟩:=IH ht;refine call_sum_walkAnyS (wpAny_pyIter_list (bz hI) ?_);refine⟨d.s.heap.objs.size,[d.s.heap.objs.size,l],[d.s.heap.objs.size],_,vs.toArray.size,_,_,hV xs,rfl,(Walks.list (A:=c.A.in1) hh _ _ (qc hI) vs.toArray).toS,⟨⟨_,Heap.get?_push_size d.s.heap rfl,rfl,rfl⟩,bz (Heap.get?_push_of_some _ hI)⟩,fun x hx=>?_,fun i w hw=>?_,fun s' t' hm=>?_⟩
 ·show x < (d.s.heap.push _).objs.size;rw[Heap.size_push];rcases List.mem_cons.mp hx with rfl|hx
  ·exact Nat.lt_succ_self _
  ·rw[List.mem_singleton.mp hx];exact Nat.lt_succ_of_lt (Heap.lt_size hI)
 ·obtain⟨x,e1,e2⟩:=FRs.get hr (List.getElem?_toArray.symm.trans hw);have e1:=bC.symm.trans e1;obtain⟨j,rfl⟩:=h2 x (List.mem_of_getElem? e1);exact⟨dA w,by rw[show hV xs i=j from by unfold hV;rw[e1];rfl];exact e2⟩
 ·haveI kk:∀a o,d.s.heap.get? a=some o->s'.heap.get? a=some o:=fun a o ho=>hm.heap a o (fun q=>by rw[List.mem_singleton.mp q]at ho;exact absurd (Heap.lt_size ho) (Nat.lt_irrefl _)) (Heap.get?_push_of_some _ ho);rw[show preSum (hV xs) vs.toArray.size=t from by rw[List.size_toArray,hr.length,h1,Int.zero_add]];exact p (d.keeps kk hm.os hm.gens (Nat.lt_of_lt_of_le d.h.tk hm.toks)) _ (Gh.Le.refl _) rfl⟩
theorem BB:cX (.type "set") [] σ (.ok (.p (.loc σ.h.length)) {σ with h:=σ.h++[.set []]}):=fun c hh d us Q ru p=>⟨kI,by
 cases(show us=[]from ru);refine call_set_0 fun led=>?_;obtain⟨d',e1,e2,e3⟩:=d.ownPush (o:={cls:=.type "set",dict:=none,data:=.set #[] 0 (.fresh 0 0 led)}) (ao:=.set []) rfl fun g' u_ h1 h2=>(.mk _ h1 (by rw[h2];exact⟨fun u_=>false,fun u_=>rfl,fun h ho=>⟨_,#[],0,.fresh 0 0 led,ho,⟨rfl,rfl,rfl⟩,rfl,(fun u_ h=>by simp at h),(fun k=>by simp),by decide +kernel,by cases led<;>decide +kernel,rfl⟩⟩):lW c.b g' (.loc σ.h.length) [])
 exact e1▸p d' _ e2 e3⟩
open Classical in
theorem G2:cX (.type "object") [] σ (.ok (.f (.star σ.st)) {σ with st:=σ.st+1}):=fun c hh d us Q ru p=>⟨kI,by cases(show us=[]from ru);refine EA ?_;have le1:=Gh.fz_le (o:={cls:=.type "object",data:=.plain}) (d.h.fresh (Heap.get?_none_of_le (h:=d.s.heap) (Nat.le_refl _))).1;have H:=(d.push {cls:=.type "object",data:=.plain} rfl).h;have R:=(d.push {cls:=.type "object",data:=.plain} rfl).r;generalize hg:(d.push {cls:=.type "object",data:=.plain} rfl).g=g at H R;have le1:d.g.Le g:=hg▸le1;haveI z0:g.z.st σ.st=none:=R.st σ.st (Nat.le_refl _);have le2:g.Le {g with z:={g.z with st:=fun k=>if k=σ.st then some d.s.heap.objs.size else g.z.st k}}:=⟨⟨fun u_ u_ e=>e,fun k a e=>(if_neg fun z=>by rw[z,z0]at e;cases e).trans e⟩,fun u_ u_=>.inl rfl,fun u_ u_ e=>e⟩;refine p ⟨{g with z:={g.z with st:=fun k=>if k=σ.st then some d.s.heap.objs.size else g.z.st k}},_,⟨H.zf,H.at_,H.inj,H.nz,H.xz,H.xs,H.base,H.tabs,H.old,H.os,H.gens,H.tk⟩,⟨R.fr.mono le2 fun u_ u_=>⟨rfl,rfl⟩,fun i=>OR.eq le2.z (fun u_ u_ u_ e=>e) (fun u_ u_=>⟨rfl,rfl⟩) (R.loc i),eH.eq le2.z (fun u_ u_=>⟨rfl,rfl⟩) R.srt,fun k q h=>⟨(R.tab k q h).1,(R.tab k q h).2.mono le2.z⟩,fun k h=>?_⟩⟩ _ (le1.trans le2) (.mk _ rfl (if_pos rfl));exact(if_neg (fun z=>by rw[z]at h;exact Nat.not_succ_le_self _ h)).trans (R.st k (Nat.le_of_succ_le h))⟩
theorem B9:∀p∈gP,fF p.2=false/\(aq eU p.2).isSome=true/\copiedNames.contains p.1=false:=by decide +kernel
theorem FZ:∀p∈gP,ad (sL n2i rd q tp tf) p.1=none:=by intro p m;simp only[gP,List.mem_cons,List.not_mem_nil,or_false]at m;rcases m with rfl|rfl|rfl|rfl|rfl|rfl|rfl<;>rfl
theorem Dk(hq:h.get? q=some (methodObj (.ref f) self))(ho:h.get? f=some o)(hd:o.data=.func fd):fo M h (.ref q):=by refine⟨.boundFrame,.inr (.inr rfl),fun A Q E s k z=>?_⟩;unfold keeperOf;refine wpAny_bind (wpAny_load (k _ _ hq) ?_);dsimp only;rw[if_neg (by decide)];refine wpAny_bind (m:=load f) (wpAny_load (k _ _ ho) ?_);rw[hd];exact wpAny_pure z
theorem vh(hq:σ.q=some q)(hm:(m,k)∈gP)(ha:sj e n args σ ra)(hk:∀vs af,ra=.ok vs af->bo n k (.p .self::vs) af (kr vs af)):ln e n (.p .self) m args σ (ra.bnd kr):=fun c i d av pos pl Q r p=>by
 obtain⟨f1,f2,f3⟩:=B9 _ hm;obtain⟨pf,hpf⟩:=Option.isSome_iff_exists.mp f2;obtain⟨nm,f⟩:=pf;have k3:=notCls f1;have r0:=r;revert p r0;apply eT r;intro a ea p r0;cases d.sr hq with|mk a' sd n2i tp tf rd kvs h1 h2 h3 h4 h5 h6 h7 h8 h9 h10=>
 cases h1.symm.trans ea;obtain⟨m1,m2,m3,m4,m5⟩:=c.ok.sMeth _ hm;have I:InstAt d.s.heap a {cls:=.ref (c.b.fa 15),dict:=some sd,data:=.plain} (c.b.fa 15) (some (d.g.ob .sd)):=⟨(d.h.at_ _ _ ea).trans (congrArg some h2),rfl,rfl,d.h.at_ _ _ h3⟩;have hl:lookIn m (d.g.ob .sd)=some none:=(wg h4 m).trans (congrArg some (FZ _ hm));have kC:∀{af:Sx}(d':Dy c af),∃o fd,d'.s.heap.get? (c.b.fa k)=some o/\o.data=.func fd:=fun d'=>by cases c.ok.fn k nm f hpf k3.1 k3.2.1 k3.2.2 with|mk o fd a oc cvs ct ho hnt hdata=>exact⟨o,fd,d'.h.b ho hnt,hdata⟩
 have run:∀{af:Sx}(d':Dy c af)vs us,ra=.ok vs af->Le d d'->aX c.b d'.g vs us->aB d' VV (kr vs af) Q->codeAny c.b.M c.A (.call (.ref (c.b.fa k)) ⟨.ref a::us,[]⟩) (fun r s'=>match r with|.ok (.ret v)=>Q v s'|.ok _=>False|.error e=>c.E e s') d'.s:=fun d' vs us hra le rs p'=>
  codeAny_mono (hk vs _ hra c i.h i.n d' (.ref a::us) Q ⟨.ref a,us,rfl,VD.mono le r0,rs⟩ p') fun r s' h=>by
   cases r with
  |error e=>exact h
  |ok f=>cases f<;>exact h
 have go:∀{fv:Value}{first:List Value}(gX:Dy c σ),Le d gX->(∀{af:Sx}(d':Dy c af)vs us,ra=.ok vs af->Le gX d'->aX c.b d'.g vs us->aB d' VV (kr vs af) Q->fo c.b.M d'.s.heap fv/\Wp c (call fv (first++us)) Q d'.s)->Wp c (callWith pos fv first (backTo pos (starEach args c.env)) []) Q gX.s:=fun{fv first}gX K7 hh=>fQ (ha c i gX fv pos _ (by
  have p:=p.after K7;cases ra with
 |bad=>exact p.elim
 |exc _ _=>exact p
 |ok vs af=> intro d' a' le r';obtain⟨us,kw⟩:=a';obtain⟨rfl,ru⟩:=r';exact hh d' vs us rfl le ru (aB.after le p)))
 cases hst:(backTo pos (starEach args c.env)).any (·.1)with
|false=> rw[if_neg Bool.false_ne_true];refine method_fn d.h.K I (plainGet_of c.ok.sGet).1 (plainGet_of c.ok.sGet).2 m1 m2 (by show(lookIn m (d.g.ob .sd)).map (·.isSome)=some false;rw[hl];rfl) (go (first:=[.ref a]) d (Le.refl d) fun d' vs us hra le rs p'=>?_);obtain⟨o,fd,ho,hd⟩:=kC d';exact⟨qz ho hd,wpAny_call (run d' vs us hra le rs p')⟩
|true=>
  rw[if_pos rfl];haveI hf:findObj c.b.K (c.b.fa 15) (some (d.g.ob .sd)) m=some (.bind (.builtin "function.__get__") (.ref (c.b.fa k))):=by
   obtain⟨cd,hc,hd⟩:=any_some c.ok.sDict;have ho:W.ownOf cd (some (d.g.ob .sd)) m=some none:=by unfold W.ownOf;rw[if_pos hd];exact hl
   exact i6 hc (i6 m1 (i6 m3 (i6 m4 (i6 ho (if_neg (by rw[f3];exact Bool.false_ne_true))))))
  refine wpAny_bind (get_bind d.h.K I (plainGet_of c.ok.sGet).1 hf (plainGet_of c.ok.sGet).2 (wpAny_call (fn_get (s:={d.s with toks:=d.s.toks+1}) d.h.K m2 (handed_on rfl (wpAny_pure ?_)))));have le:=Gh.fz_le (o:=methodObj (.ref (c.b.fa k)) (.ref a)) (d.h.fresh (Heap.get?_none_of_le (h:=d.s.heap) (Nat.le_refl _))).1;refine go (first:=[]) ((d.push (methodObj (.ref (c.b.fa k)) (.ref a)) rfl).tok (d.s.toks+1) (Nat.le_succ _)) le fun d' vs us hra le' rs p'=>?_;obtain⟨o,fd,ho,hd⟩:=kC d';have hmo:=d'.h.zf _ _ (le'.z.f _ _ (Z.add_same (x:=d.s.heap.objs.size)));exact⟨Dk hmo ho hd,wpAny_call (method_call hmo (run d' vs us hra (le.trans le') rs p'))⟩
theorem yr(a:Value):checkBoundCall "list_iterator.__next__" ⟨[a],[]⟩=pure ():=by kernel_rfl
theorem vu:(Code.builtin "list_iterator.__next__" as).quiet=true:=Code.quiet_builtin _ (by decide +kernel)
theorem Jm:(Code.builtin "list.append" as).quiet=true:=Code.quiet_builtin _ (by decide +kernel)
theorem vS:(Manifest.signature? "list.append").isSome=true:=by decide +kernel
theorem DI{sig}(h:Manifest.signature? "list.append"=some sig)(a c:Value):Bind.checkArgs "list.append" {sig with full:="list.append"} ⟨[a,c],[]⟩=pure ():=by
 haveI e:sig=(Manifest.signature? "list.append").get vS:=by simp[h]
 subst e
 kernel_rfl
theorem IS:builtinKind "list.append"=some .method:=by decide +kernel
theorem DB:Manifest.varargsMethods.contains "list.append"=false:=by decide +kernel
theorem Eb:isSubtype (.type "list") (.type "module")=pure false:=by kernel_rfl
section
variable{A:Around}{E:Value->Shared->Prop}{s:Shared}
theorem FE(hI:IsL s.heap l items k)(h:Q () s):wpAny M A (checkBoundCall "list.append" ⟨[.ref l,x],[]⟩) Q E s:=by obtain⟨sig,hs⟩:=Option.isSome_iff_exists.mp vS;unfold checkBoundCall;rw[hs];dsimp only;rw[IS];dsimp only;rw[if_neg (by decide)];refine wpAny_bind (wpAny_isInstance (T:="list") ⟨_,hI,rfl⟩ Eb ?_);rw[DB,if_neg (by decide)];refine wpAny_bind (m:=isType (.ref l)) (wpAny_bind (wpAny_loadPart hI (wpAny_pure ?_)));dsimp only;rw[if_neg (by decide)];exact wpAny_bind (wpAny_typeOf (T:="list") ⟨_,hI,rfl⟩ (wpAny_of_eq (a:=()) (DI hs _ _) h))
end
section
variable{prog:Program}{w:World}{A:Around}{E:Value->Shared->Prop}{s:Shared}{a l:Addr}
theorem sa{T id:String}(hT:T="builtin_function_or_method"\/T="method-wrapper")(ho:s.heap.get? a=some {cls:=.type T,data:=.fields #[.builtin id,self]})
  (chk:∀{Q':Unit->Shared->Prop}{E':Value->Shared->Prop},Q' () s->wpAny (model prog w) A.in1 (checkBoundCall id ⟨self::rest,[]⟩) Q' E' s) (q:∀as:Args,(Code.builtin id as).quiet=true) (hb:entryFor table id=some bi)
  (h:wpAny (model prog w) (A.under (.builtin id ⟨self::rest,[]⟩)) (bi ⟨self::rest,[]⟩) (fun fin s'=>∃v,fin=.done (.ret v)/\Q v s') E s) :
  wpAny (model prog w) A (call (.ref a) rest) Q E s:=by
 refine wpAny_call (codeAny_of_tree ?_);show wpAny _ A.in1 (callAny (.ref a) ⟨rest,[]⟩) _ _ s;unfold callAny;refine wpAny_bind (wpAny_load ho ?_);haveI e1:(Value.type T==Value.type "method"||Value.type T==Value.type "builtin_function_or_method"||Value.type T==Value.type "method-wrapper")=true:=by rcases hT with rfl|rfl<;>decide
 haveI e2:(Value.type T != Value.type "method")=true:=by rcases hT with rfl|rfl<;>decide
 refine wpAny_ite_true (decide_eq_true e1) (wpAny_ite_true (decide_eq_true e2) ?_);refine wpAny_bind (chk (wpAny_bind (wpAny_pure (wpAny_pure ⟨q _,codeAny_builtin hb (wpAny_mono h (fun fin s' h'=>?_) fun u_ u_ x=>x)⟩))));obtain⟨v,rfl,hv⟩:=h';exact hv
theorem wr{T id:String}(hT:T="builtin_function_or_method"\/T="method-wrapper")(ho:s.heap.get? a=some {cls:=.type T,data:=.fields #[.builtin id,self]}):fo (model prog w) s.heap (.ref a):=by
 refine⟨.machine,.inr (.inl rfl),fun A Q E s k q=>?_⟩;unfold keeperOf;refine wpAny_bind (wpAny_load (k _ _ ho) ?_);have e1:(Value.type T==Value.type "builtin_function_or_method"||Value.type T==Value.type "method-wrapper")=true:=by rcases hT with rfl|rfl<;>decide
 have e2:(Value.type T != Value.type "method")=true:=by rcases hT with rfl|rfl<;>decide
 exact wpAny_ite_true (decide_eq_true e2) (wpAny_pure (Eq.mpr (congrArg (Q · s) (if_pos e1)) q))
end
section
variable{σ:Sx}{i n:Nat}{xs:List F}{x:F}
theorem An(h:aq σ.h i=some (.list xs)):gz (.p (.loc i)) "append" σ (.ok (.bnd i) σ):=fun c d av ex Q ra p=>by revert p;apply ma (.loc i h) ra;intro a vs m e hI hr p;refine Ii hI ?_;haveI le:=Gh.fz_le (o:=ng "list.append" (.ref a) "builtin_function_or_method") (d.h.fresh (Heap.get?_none_of_le (h:=d.s.heap) (Nat.le_refl _))).1;exact p ((d.push (ng "list.append" (.ref a) "builtin_function_or_method") rfl).tok (d.s.toks+1) (Nat.le_succ _)) _ le (.mk a _ rfl (le.p _ _ e) Z.add_same)
theorem yE(h:aq σ.h i=some (.list xs))(hz:Nat.ble xs.length aw=true):SK n (.bnd i) [.f x] σ (.ok (.f .none) {σ with h:=bc σ.h i (.list (xs++[x]))}):=fun c hh u_ d fv us Q rv ru p=>by
 cases rv with|mk a q ef ea hq=>
 subst ef;revert p;apply jL ru;intro xv rx p;cases(eQ.loc i h).at_ d with|mk a' vs m h1 h2 h3=>
 cases h1.symm.trans ea;haveI hI:IsL d.s.heap a vs.toArray m:=(d.h.at_ _ _ ea).trans (congrArg some h2);refine⟨wr (.inl rfl) (d.h.zf _ _ hq),sa (.inl rfl) (d.h.zf _ _ hq) (fun h=>FE hI h) (fun u_=>Jm) entry_list_append ?_⟩;show wpAny _ _ (updateSeq a (·.push xv) >>= fun u_=>ret .none) _ _ d.s;haveI hsz:vs.toArray.size<=sizeLine:=FRs.fits h3 hz;refine wpAny_bind (wpAny_updateSeq hI rfl (wpAny_pure ⟨.none,rfl,?_⟩));haveI hI':=Heap.get?_update_self (Obj.mapSeq fun x=>x.push xv) hI (by rw[Obj.mapSeq_push_plain];rfl);rw[Obj.mapSeq_push_plain,List.push_toArray]at hI';exact Dy.putN p (.loc i xs h) ea (FRs.snoc h3 rx) (Heap.SameBut.update ..) hI' (Nat.le_refl _)
end
theorem BX:entryFor table "iter"=some Builtin.«iter»:=entryFor_of_tree (by kernel_rfl)
theorem EM:builtinKind "iter"=none:=by decide +kernel
theorem Dt:plainId "iter"=true:=by decide +kernel
theorem Hj(a:Value):argsOk "iter" ⟨[a],[]⟩:=by unfold argsOk;kernel_rfl
theorem IG(hl:s.heap.IsList l items)
  (h:Q (.ref s.heap.objs.size) {s with heap:=s.heap.push {cls:=.type "list_iterator",data:=.fields #[.ref l,.int 0 0]}}):wpAny (model prog w) A (call (.builtin "iter") [.ref l]) Q E s:=by
 refine Calls.call_function_entry EM Dt BX (Hj _) ?_;unfold Builtin.«iter»;exact wpAny_bind (m:=someArgs "iter" 1 2 _) (wpAny_pure (wpAny_bind (wpAny_pyIter_list hl (wpAny_pure ⟨_,rfl,h⟩))))
theorem s9:∀{its:List (Str×Nat)}{j:Nat}{vs:List Value},dN g i j its vs->vs.length=its.length:=by
 intro its
 induction its with
|nil=> intro _ _ h;cases(show _=[]from h);rfl
|cons p_ _ ih=> obtain⟨_,_⟩:=p_;intro _ _ h;obtain⟨v,r,rfl,_,h⟩:=h;exact congrArg (·+1) (ih h)
theorem w6:∀{its:List (Str×Nat)}{j:Nat}{vs:List Value},qh g i (j+its.length) x p v->dN g i j its vs->dN g i j (its++[(x,p)]) (vs++[v]):=by
 intro its
 induction its with
|nil=> intro j _ a h;cases(show _=[]from h);exact⟨v,[],rfl,a,rfl⟩
|cons p_ r ih=> obtain⟨_,_⟩:=p_;intro j _ a h;obtain⟨w,t,rfl,b,h⟩:=h;exact⟨w,_,rfl,b,ih (by rw[Nat.add_assoc,Nat.add_comm 1];exact a) h⟩
theorem E0:∀{its:List (Str×Nat)}{j:Nat}{vs:List Value},dN g i j (its++[(x,p)]) vs->∃us v,vs=us++[v]/\dN g i j its us/\qh g i (j+its.length) x p v:=by
 intro its
 induction its with
|nil=> intro j _ h;obtain⟨v,r,rfl,a,h⟩:=h;cases(show r=[]from h);exact⟨[],v,rfl,rfl,a⟩
|cons p_ r ih=> obtain⟨_,_⟩:=p_;intro j _ h;obtain⟨w,t,rfl,b,h⟩:=h;obtain⟨us,v,rfl,h1,h2⟩:=ih h;exact⟨w::us,v,rfl,⟨w,us,rfl,b,h1⟩,by rw[Nat.add_assoc,Nat.add_comm 1]at h2;exact h2⟩
theorem qA(z:g.z.Le g'.z)(e:∀x l,g.at_ (.p (.suc x))=some l->g'.at_ (.p (.suc x))=some l)(k:∀j',j' < j+its.length->g'.at_ (.sub i j')=g.at_ (.sub i j')/\g'.ob (.sub i j')=g.ob (.sub i j'))(h:dN g i j its vs):dN g' i j its vs:=by
 induction its generalizing j vs with
|nil=>exact h
|cons t r ih=>
  obtain⟨y,q⟩:=t;obtain⟨v,us,rfl,a,h⟩:=h;refine⟨v,us,rfl,?_,ih (fun j' l=>k j' (by rw[List.length_cons];lia)) h⟩;cases a with|mk l it mw h1 h2 h3 h4 h5=>
  haveI q:=k j (by rw[List.length_cons];lia);exact .mk l it mw (e _ l h1) h2 (z.f _ _ h3) (q.1.trans h4) (q.2.trans h5)
theorem Dx:SE e n (.List [] pos) σ (.ok (.p (.loc σ.h.length)) {σ with h:=σ.h++[.iters []]}):=fun c i d Q p=>wpAny_List (show Wp c (pure []) _ d.s from wpAny_pure ⟨Nat.zero_le _,by obtain⟨d',e1,e2,e3⟩:=d.ownPush (o:=aV [] 0) (ao:=.iters []) rfl fun g' u_ h1 h2=>(.mk _ [] 0 h1 h2 rfl:gJ g' σ.h.length [] []);exact e1▸p d' _ e2 e3⟩)
end
section
open PySem PySem.W PyProof.Rows PySem.SeqAt Builtin Builtin.ObjectAttr
theorem Gk:typeLookup (.type "wrapper_descriptor") "__get__"=pure (some (.builtin "wrapper_descriptor.__get__")):=by rw[typeLookup_type,builtinLookup_eq_fast];kernel_rfl
theorem J7:typeLookup (.type "wrapper_descriptor") "__set__"=pure none:=by rw[typeLookup_type,builtinLookup_eq_fast];kernel_rfl
theorem DC:typeLookup (.type "wrapper_descriptor") "__delete__"=pure none:=by rw[typeLookup_type,builtinLookup_eq_fast];kernel_rfl
theorem DH:Slot "wrapper_descriptor" "__get__" "wrapper_descriptor.__get__":=
 .of (owner:="wrapper_descriptor") (n:="__get__") (by rw[typeLookup_type,builtinLookup_eq_fast];kernel_rfl) (by decide +kernel) (by decide +kernel) (by decide +kernel)
  (by first|exact .inl (by decide +kernel)|exact .inr (by decide +kernel)) (by rw[isSubtype_type];kernel_rfl)
theorem GW:entryFor table "wrapper_descriptor.__get__"=some Builtin.«wrapper_descriptor.__get__»:=entryFor_of_tree (by kernel_rfl)
theorem Ep(a b c:Value):argsOk "wrapper_descriptor.__get__" ⟨[a,b,c],[]⟩:=by unfold argsOk;kernel_rfl
theorem xN:typeOf (.builtin "list_iterator.__next__")=pure (.type "wrapper_descriptor"):=by show builtinType _=_;rw[builtinType_eq_fast];kernel_rfl
theorem Di:Slot "list_iterator" "__getattribute__" "object.__getattribute__":=
 .of (owner:="object") (n:="__getattribute__") (by rw[typeLookup_type,builtinLookup_eq_fast];kernel_rfl) (by decide +kernel) (by decide +kernel) (by decide +kernel)
  (by first|exact .inl (by decide +kernel)|exact .inr (by decide +kernel)) (by rw[isSubtype_type];kernel_rfl)
theorem FQ:entryFor table "object.__getattribute__"=some Builtin.«object.__getattribute__»:=entryFor_of_tree (by kernel_rfl)
theorem KN(a b:Value):argsOk "object.__getattribute__" ⟨[a,b],[]⟩:=by unfold argsOk;kernel_rfl
theorem I6{i:Nat}(hI:s.heap.get? a=some {cls:=.type "list_iterator",data:=.fields #[.ref l,.int i 0]})
  (h:Q (.ref s.heap.objs.size) {s with heap:=s.heap.push {cls:=.type "method-wrapper",data:=.fields #[.builtin "list_iterator.__next__",.ref a]},toks:=s.toks+1}):wpAny (model prog w) A (getAttr (.ref a) "__next__" ex) Q E s:=by
 refine xF hI rfl rfl rfl slot_listiter_next.lookup xN Gk J7 DC (by decide) Di FQ (fun x y=>KN x y) ?_;show wpAny _ _ (holding [.builtin "list_iterator.__next__"] (call (.builtin "wrapper_descriptor.__get__") [.builtin "list_iterator.__next__",.ref a,.type "list_iterator"]) >>= ret) _ _ _;refine wpAny_bind (wpAny_holding ?_);haveI hT:({s with toks:=s.toks+1}:Shared).TypeIs (.builtin "list_iterator.__next__") "wrapper_descriptor":=xN;refine wpAny_call_entry DH hT GW ?_ (Ep _ _ _);obtain⟨hh,g,d,t,os⟩:=s;haveI L1:Looks (model prog w) hh (isInstance (.ref a) (.type "list_iterator")) true:=fun A Q E s' k q=>by unfold isInstance;refine wpAny_bind (wpAny_typeOf ⟨_,k _ _ hI,rfl⟩ ?_);exact wpAny_of_eq (by rw[isSubtype_type];kernel_rfl) q
 unfold Builtin.«wrapper_descriptor.__get__»
 repeat lk
 exact⟨_,rfl,wpAny_pure ⟨_,rfl,rfl,h⟩⟩
theorem HG{i:Nat}(ho:s.heap.get? a=some {cls:=.type "method-wrapper",data:=.fields #[.builtin "list_iterator.__next__",.ref it]})(hit:s.heap.get? it=some {cls:=.type "list_iterator",data:=.fields #[.ref l,.int i 0]})
  (hl:s.heap.IsList l items) (hx:items[i]?=some x) (hQ:∀h',h'.get? it=some {cls:=.type "list_iterator",data:=.fields #[.ref l,.int (i+1:Nat) 0]}->Heap.SameBut it s.heap h'->Q x {s with heap:=h'}) :
  wpAny (model prog w) A (call (.ref a) []) Q E s:=by
 refine sa (.inr rfl) ho (fun h=>wpAny_of_eq (a:=()) (yr _) h) (fun u_=>vu) entry_listiter_next ?_;obtain⟨ol,hol,_,nl,hdl⟩:=hl;show wpAny _ _ (field (.ref it) 0 >>= _) _ _ s;refine wpAny_bind (wpAny_field hit rfl (x:=.ref l) rfl ?_);show wpAny _ _ (if(Value.ref l==Value.none)=true then _ else _) _ _ s;rw[if_neg (show ¬((Value.ref l==Value.none)=true)from Bool.false_ne_true)];show wpAny _ _ (field (.ref it) 1 >>= _) _ _ s;refine wpAny_bind (wpAny_field hit rfl (x:=.int i 0) rfl ?_);show wpAny _ _ (seqItems? (.ref l) >>= _) _ _ s;refine wpAny_bind (wpAny_seqItems hol hdl ?_);simp only[Int.toNat_natCast,hx];refine wpAny_bind (wpAny_setField hit rfl (by simp) (wpAny_pure ⟨x,rfl,hQ _ ?_ (Heap.SameBut.update ..)⟩));exact Heap.get?_update_self _ hit rfl
theorem He{i:Nat}(hh:A.handled=none)(ho:s.heap.get? a=some {cls:=.type "method-wrapper",data:=.fields #[.builtin "list_iterator.__next__",.ref it]})(hit:s.heap.get? it=some {cls:=.type "list_iterator",data:=.fields #[.ref l,.int i 0]})
  (hl:s.heap.IsList l items) (hx:items[i]?=none) (hE:∀h1 h' e,Heap.SameBut it s.heap h1->(∃o,h1.get? it=some o)->(∀c o,h1.get? c=some o->h'.get? c=some o)->h1.get? e=none->(∃o vs,h'.get? e=some o/\o.cls=.type "StopIteration"/\o.data=.fields vs/\vs[1]?=some .none)->E (.ref e) {s with heap:=h'}) :
  wpAny (model prog w) A (call (.ref a) []) Q E s:=by
 refine sa (.inr rfl) ho (fun h=>wpAny_of_eq (a:=()) (yr _) h) (fun u_=>vu) entry_listiter_next ?_;obtain⟨ol,hol,_,nl,hdl⟩:=hl;show wpAny _ _ (field (.ref it) 0 >>= _) _ _ s;refine wpAny_bind (wpAny_field hit rfl (x:=.ref l) rfl ?_);show wpAny _ _ (if(Value.ref l==Value.none)=true then _ else _) _ _ s;rw[if_neg (show ¬((Value.ref l==Value.none)=true)from Bool.false_ne_true)];show wpAny _ _ (field (.ref it) 1 >>= _) _ _ s;refine wpAny_bind (wpAny_field hit rfl (x:=.int i 0) rfl ?_);show wpAny _ _ (seqItems? (.ref l) >>= _) _ _ s;refine wpAny_bind (wpAny_seqItems hol hdl ?_);simp only[Int.toNat_natCast,hx];refine wpAny_bind (wpAny_rule (wpAny_bind (wpAny_setField hit rfl (by simp) ?_)));show wpAny _ _ (newExc (.type "StopIteration") [] >>= _) _ _ _;refine wpAny_bind ?_;refine wpAny_bind (wpAny_newObj_type ?_ (by size_fits));refine wpAny_bind (m:=firstArgMember _ _) (wpAny_of_eq (a:=Value.none) (by first|rfl|(simp only[firstArgMember];rfl)) ?_);refine wpAny_newObj_type ?_ (by size_fits);refine wpAny_bind (wpAny_handled ?_);rw[show(A.under _).handled=none from hh];refine wpAny_bind (wpAny_pure (wpAny_throw ?_));refine hE (s.heap.update it (Obj.mapFields fun x=>x.setIfInBounds 0 Value.none)) _ _ (.update ..) ⟨_,Heap.get?_update_self _ hit rfl⟩ (fun c o h=>Heap.get?_push_of_some _ (Heap.get?_push_of_some _ h)) (Heap.get?_none_of_le (by simp)) ⟨_,_,Heap.get?_push_size _ rfl,rfl,rfl,rfl⟩
end
section
open PySem PySem.W PyProof.Rows PySem.SeqAt
noncomputable abbrev fj(it:Addr):Obj:=ng "list_iterator.__next__" (.ref it) "method-wrapper"
theorem Dy.itsAt(d:Dy c σ)(h:aq σ.h i=some (.iters its)):gJ d.g i its []:=by haveI L:=d.r.loc i;rw[h]at L;exact L
theorem Dy.pushIt(d:Dy c σ)(hi:aq σ.h i=some (.iters its))(el:d.g.at_ (.p (.loc i))=some l)(eo:d.g.ob (.p (.loc i))=aV vs m)(hR:dN d.g i 0 its vs)(ez:d.g.at_ (.p (.suc x))=some lz)
  (hs:Heap.SameBut l ((d.s.heap.push (cy lz 0)).push (fj d.s.heap.objs.size)) h') (hn:h'.get? l=some (aV (vs++[.ref (d.s.heap.objs.size+1)]) k)) (ht:d.s.toks<=t) :
  ∃d':Dy c {σ with h:=bc σ.h i (.iters (its++[(x,0)]))},d'.s={d.s with heap:=h',toks:=t}/\Le d d':=by
 have hf:=Heap.get?_none_of_le (h:=d.s.heap) (Nat.le_refl d.s.heap.objs.size);haveI nt:d.s.heap.objs.size∉c.b.tabA:=fun m=>by obtain⟨k,q⟩:=d.r.tb _ m;rw[d.h.at_ _ _ q]at hf;cases hf
 have H1:=d.h.own (T:=.sub i its.length) (s':={d.s with heap:=d.s.heap.push (cy lz 0)}) (o:=cy lz 0) hf (fun a o q=>Heap.get?_push_of_some _ q) (Heap.get?_push_size _ rfl) rfl rfl (Nat.le_refl _) nt;haveI e2:(d.s.heap.push (cy lz 0)).objs.size=d.s.heap.objs.size+1:=Heap.size_push ..;have hf2:=Heap.get?_none_of_le (h:=d.s.heap.push (cy lz 0)) (Nat.le_refl _);have H2:=H1.frz (s':={d.s with heap:=(d.s.heap.push (cy lz 0)).push (fj d.s.heap.objs.size)}) (o:=fj d.s.heap.objs.size) hf2 (fun a o q=>Heap.get?_push_of_some _ q) (Heap.get?_push_size _ rfl) rfl rfl (Nat.le_refl _);rw[e2]at hf2 H2;haveI f2:=(H1.fresh hf2).1;haveI out1:=fun{T}(z:T≠aE.sub i its.length)=>Gh.set_out (g:=d.g) (a:=some d.s.heap.objs.size) (o:=cy lz 0) z;have in1:((d.g.set (.sub i its.length) (some d.s.heap.objs.size) (cy lz 0)).fz (d.s.heap.objs.size+1) (fj d.s.heap.objs.size)).at_ (.sub i its.length)=some d.s.heap.objs.size/\((d.g.set (.sub i its.length) (some d.s.heap.objs.size) (cy lz 0)).fz (d.s.heap.objs.size+1) (fj d.s.heap.objs.size)).ob (.sub i its.length)=cy lz 0:=⟨Gh.at_same (g:=d.g) (o:=cy lz 0),Gh.ob_same (g:=d.g) (a:=some d.s.heap.objs.size)⟩;have o1:∀T,T≠.sub i its.length->((d.g.set (.sub i its.length) (some d.s.heap.objs.size) (cy lz 0)).fz (d.s.heap.objs.size+1) (fj d.s.heap.objs.size)).at_ T=d.g.at_ T/\((d.g.set (.sub i its.length) (some d.s.heap.objs.size) (cy lz 0)).fz (d.s.heap.objs.size+1) (fj d.s.heap.objs.size)).ob T=d.g.ob T:=fun T t=>out1 t;have z1:((d.g.set (.sub i its.length) (some d.s.heap.objs.size) (cy lz 0)).fz (d.s.heap.objs.size+1) (fj d.s.heap.objs.size)).z.f (d.s.heap.objs.size+1)=some (fj d.s.heap.objs.size):=Z.add_same;have zl:d.g.z.Le ((d.g.set (.sub i its.length) (some d.s.heap.objs.size) (cy lz 0)).fz (d.s.heap.objs.size+1) (fj d.s.heap.objs.size)).z:=Z.add_le f2;have zs:((d.g.set (.sub i its.length) (some d.s.heap.objs.size) (cy lz 0)).fz (d.s.heap.objs.size+1) (fj d.s.heap.objs.size)).z.st=d.g.z.st:=rfl;generalize((d.g.set (.sub i its.length) (some d.s.heap.objs.size) (cy lz 0)).fz (d.s.heap.objs.size+1) (fj d.s.heap.objs.size))=g at H2 in1 o1 z1 zl zs;have el':g.at_ (.p (.loc i))=some l:=(o1 _ fun z=>by cases z).1.trans el;have H3:=H2.upd (s':={d.s with heap:=h',toks:=t}) el' (fun u_ z=>by cases z) (fun y q=>hs.2 y q) hn rfl rfl ht;have out2:=fun{T}(z:T≠aE.p (.loc i))=>Gh.set_out (g:=g) (a:=some l) (o:=aV (vs++[.ref (d.s.heap.objs.size+1)]) k) z;have at2:=fun T=>Gh.set_at (T':=T) (o:=aV (vs++[.ref (d.s.heap.objs.size+1)]) k) el';have ob2:(g.set (.p (.loc i)) (some l) (aV (vs++[.ref (d.s.heap.objs.size+1)]) k)).ob (.p (.loc i))=aV (vs++[.ref (d.s.heap.objs.size+1)]) k:=Gh.ob_same;have zz:(g.set (.p (.loc i)) (some l) (aV (vs++[.ref (d.s.heap.objs.size+1)]) k)).z=g.z:=rfl;generalize g.set (.p (.loc i)) (some l) (aV (vs++[.ref (d.s.heap.objs.size+1)]) k)=g' at H3 out2 at2 ob2 zz;have le:d.g.Le g':=⟨by rw[zz];exact zl,fun a u_=>.inl ((out2 (T:=.p .n2i) fun z=>by cases z).2.trans (o1 _ fun z=>by cases z).2),fun p a q=>(at2 _).trans ((o1 _ fun z=>by cases z).1.trans q)⟩;have sub:∀j',g'.at_ (.sub i j')=g.at_ (.sub i j')/\g'.ob (.sub i j')=g.ob (.sub i j'):=fun j'=>out2 fun z=>by cases z
 refine⟨⟨g',_,H3,d.r.locG le (fun T t=>?_) (by rw[zz];exact zs) hi (.mk l (vs++[.ref (d.s.heap.objs.size+1)]) k ((at2 _).trans el') (by rw[List.append_nil];exact ob2) (w6 ?_ (qA le.z (fun x l q=>le.p _ _ q) (fun j' q=>?_) hR)):gJ g' i _ [])⟩,rfl,le⟩
 ·have n1:T≠.sub i its.length:=fun z=>t (z▸rfl);have n2:T≠.p (.loc i):=fun z=>t (z▸rfl);exact⟨(out2 n2).1.trans (o1 _ n1).1,(out2 n2).2.trans (o1 _ n1).2⟩
 ·rw[Nat.zero_add];exact .mk lz d.s.heap.objs.size (d.s.heap.objs.size+1) (le.p _ _ ez) rfl (by rw[zz];exact z1) ((sub _).1.trans in1.1) ((sub _).2.trans in1.2)
 ·have n1:aE.sub i j'≠.sub i its.length:=fun z=>by cases z;rw[Nat.zero_add]at q;exact Nat.lt_irrefl _ q
  exact⟨(sub j').1.trans (o1 _ n1).1,(sub j').2.trans (o1 _ n1).2⟩
theorem GA(hd:bt e dn σ (.p (.loc i)))(hi:aq σ.h i=some (.iters its))(hit:bt e itn σ (.f (.bi "iter")))(ha:SE e n arg σ (.ok (.p (.suc x)) σ))(hq:σ.q=some q)(hx:ad q.n2i x=some nd)(hz:Nat.ble its.length aw=true)
  (hl:(pm.endLine==pc.line)=true) (hs:bx arg=false):SS e n (.Expr (.Call (.Attribute (.Name dn pd) "append" pm) [.Attribute (.Call (.Name itn pit) [arg] [] pi) "__next__" pn] [] pc) pos) σ (.ok .next {σ with h:=bc σ.h i (.iters (its++[(x,0)]))}):=fun c ic here d Q p=>by
 refine wpAny_Expr_any (oQ rfl hl (show 1 < 25 from by decide) (ei hd ic.e d fun av ra=>?_)) (uI c) rfl;apply eT (v:=av) ra;intro l el;cases d.itsAt hi with|mk l' vs m k1 k2 k3=>
 cases k1.symm.trans el;rw[List.append_nil]at k2;have hI:IsL d.s.heap l vs.toArray m:=(d.h.at_ _ _ el).trans (congrArg some k2);rw[kJ (args:=[.Attribute (.Call (.Name itn pit) [arg] [] pi) "__next__" pn]) rfl,if_neg Bool.false_ne_true];refine getMethod_builtin (IsL.ty hI) PySem.F.plainAttrs_list PySem.F.slot_list_append PySem.F.type_list_append (fun a e=>by cases e;exact⟨_,hI,rfl⟩) (fQ (Calls.evalArgs_plain (Calls.spliced_cons ?_)));rw[arm_eval_Attribute,show attributeBase (Expr.Call (.Name itn pit) [arg] [] pi) "__next__" c.env (eval (.Call (.Name itn pit) [arg] [] pi) c.env)=eval (.Call (.Name itn pit) [arg] [] pi) c.env from rfl];refine wpAny_bind (wpAny_Call_ofName (ei hit ic.e d fun fv rf=>?_));cases(show some (Value.builtin "iter")=some fv from(c.ok.blts ("iter",.builtin "iter") (by decide +kernel)).symm.trans rf);rw[gb hs];refine fQ (Calls.evalArgs_plain (Calls.spliced_cons (ha c ic d _ fun ak zv le rz=>Calls.spliced_nil ⟨fV,?_⟩)));apply eT (v:=zv) rz;intro lz ez;cases ak.itsAt hi with|mk dy K8 Bj j1 j2 j3=>
 cases(le.p _ _ el).symm.trans j1;rw[List.append_nil]at j2;have uY:IsL ak.s.heap l K8.toArray Bj:=(ak.h.at_ _ _ j1).trans (congrArg some j2);obtain⟨_,N⟩:=ak.node hq hx;cases N with|mk a0 dx lz' tx tn h1 h2 h3 h4 h5 h6 h7=>
 cases h6.symm.trans ez;cases h7 with|mk a1 vs2 m2 g1 g2 g3=>
 cases g1.symm.trans ez;have hIz:IsL ak.s.heap lz vs2.toArray m2:=(ak.h.at_ _ _ ez).trans (congrArg some g2);refine IG (bz hIz) (wpAny_bind (wpAny_standAt (wpAny_bind (wpAny_holding (I6 (l:=lz) (i:=0) (Heap.get?_push_size _ rfl) (wpAny_bind (wpAny_letTemporaryGo (wpAny_pure (Calls.spliced_nil ⟨fV,?_⟩)))))))));have e2:(ak.s.heap.push (cy lz 0)).objs.size=ak.s.heap.objs.size+1:=Heap.size_push ..;refine wpAny_list_append_plain ⟨Bj,Heap.get?_push_of_some _ (Heap.get?_push_of_some _ uY)⟩ (fun h' hI' hs=>?_) (by rw[List.size_toArray,s9 j3];exact fits hz);obtain⟨k',hI'⟩:=hI';rw[List.push_toArray]at hI';obtain⟨am,q1,q2⟩:=ak.pushIt (t:=ak.s.toks+1) hi j1 j2 j3 ez hs (by rw[<- e2];exact hI') (Nat.le_succ _);exact q1▸fL (p.after (le.trans q2))
theorem JH(hi:aq σ.h i=some (.itersD its))(hz:Nat.ble (its.length+1) aw=true):∀(c:Fr)(d:Dy c σ)(av:Value)(Q:Value->Shared->Prop),VD d (.p (.loc i)) av->(∀(d':Dy c {σ with h:=bc σ.h i (.iters its)})v,Le d d'->Q v d'.s)->Wp c (call (.builtin "list.pop") [av]) Q d.s:=fun c d av Q ra h=>by
 apply eT (v:=av) ra;intro l el;haveI L:=d.r.loc i;rw[hi]at L;obtain⟨v,L⟩:=(show ∃v,gJ d.g i its [v]from L);cases L with|mk l' vs m k1 k2 k3=>
 cases k1.symm.trans el;haveI hI:IsL d.s.heap l (vs++[v]).toArray m:=(d.h.at_ _ _ el).trans (congrArg some k2);refine As (b:=c.b) hI (by rw[List.size_toArray,List.length_append,s9 k3];exact fits hz) fun h' k hI' hs=>?_;haveI s:=Gh.set_le (o:=aV vs k) el;haveI at2:=fun T=>Gh.set_at (T':=T) (o:=aV vs k) el;obtain⟨d',q1,q2⟩:=d.putO (ao':=.iters its) hi el hs hI' (Nat.le_refl _) (.mk l vs k ((at2 _).trans el) (by rw[List.append_nil];exact Gh.ob_same) (qA (g:=d.g) (g':=d.g.set (.p (.loc i)) (some l) (aV vs k)) (.refl _) (fun x a q=>s.p _ _ q) (fun j' u_=>Gh.set_out fun z=>by cases z) k3):gJ (d.g.set (.p (.loc i)) (some l) (aV vs k)) i its []);exact q1▸h d' v q2
noncomputable def Fr.mark(c:Fr)(v:Option Value)(E:Value->Shared->Prop):Fr:=⟨c.b,c.ok,c.A.mark v,c.env,c.e,E,c.X,c.fs,c.n,⟨c.k.depth,c.k.units,c.k.frames,c.k.fn,c.k.glo,c.k.blt,c.k.kinds,c.k.dbg,c.k.code,c.k.frm⟩⟩
noncomputable def Dy.mark(d:Dy c σ)(v:Option Value)(E:Value->Shared->Prop):Dy (c.mark v E) σ:=
 ⟨d.g,d.s,⟨d.h.zf,d.h.at_,d.h.inj,d.h.nz,d.h.xz,d.h.xs,d.h.base,d.h.tabs,d.h.old,d.h.os,d.h.gens,d.h.tk⟩,⟨⟨d.r.fr.L,d.r.fr.ns,d.r.fr.cell,d.r.fr.free⟩,d.r.loc,d.r.srt,d.r.tab,d.r.st⟩⟩
noncomputable def Dy.unmark(d:Dy (c.mark v E) σ):Dy c σ:=
 ⟨d.g,d.s,⟨d.h.zf,d.h.at_,d.h.inj,d.h.nz,d.h.xz,d.h.xs,d.h.base,d.h.tabs,d.h.old,d.h.os,d.h.gens,d.h.tk⟩,⟨⟨d.r.fr.L,d.r.fr.ns,d.r.fr.cell,d.r.fr.free⟩,d.r.loc,d.r.srt,d.r.tab,d.r.st⟩⟩
theorem Dy.flight(d:Dy c σ)(ex:bI c.b c.env.frame d.g z a)(hT:∃T,d.g.at_ (.exc 1)=some T)(hQ:∀d':Dy c σ,Le d d'->bI c.b c.env.frame d'.g z a->(∃T,d'.g.at_ (.exc 1)=some T)->Q () d'.s):wpAny c.b.M A (setFlight (.ref a) none) Q E d.s:=by
 obtain⟨T,hT⟩:=hT;cases ex with|mk vs e1 e2 e3 e4 e5=>
 rcases e5 with⟨_,q⟩|⟨T',ts,fl,h1,t1,t2,t3,hfl⟩
 ·rw[hT]at q;cases q
 ·have hTT:=d.h.at_ _ _ t1;have hsz3:3 < ts.size:=(Array.getElem?_eq_some_iff.mp t3).1;refine wpAny_setFlight_none (d.h.at_ _ _ e1) e3 h1 hTT t2 hsz3 ?_;have hT2:=Heap.get?_update_self (Obj.mapFields (·.setIfInBounds 3 .none)) hTT (Obj.isFreed_of_fields (Obj.data_mapFields t2 _));have hd2:=Obj.data_mapFields t2 (·.setIfInBounds 3 .none);generalize Obj.mapFields (·.setIfInBounds 3 .none) (d.g.ob (.exc 1))=o2 at hT2 hd2;have s:=Gh.set_le (o:=o2) t1;have out:=fun{T}(z:T≠aE.exc 1)=>Gh.set_out (g:=d.g) (a:=some T') (o:=o2) z;have o0:=out (T:=.exc 0) fun z=>by cases z
  exact hQ ⟨_,_,d.hset t1 (fun u_ z=>by cases z) (Heap.SameBut.update ..) hT2 (Nat.le_refl _),d.r.excG s (fun T t=>out fun z=>t (z▸trivial)) rfl⟩ s
   (.mk vs (o0.1.trans e1) ((congrArg Obj.cls o0.2).trans e2) ((congrArg Obj.data o0.2).trans e3) e4 (.inr ⟨T',ts.setIfInBounds 3 .none,.none,h1,Gh.at_same,(congrArg Obj.data Gh.ob_same).trans hd2,Array.getElem?_setIfInBounds_self_of_lt hsz3,.inl rfl⟩)) ⟨T',Gh.at_same⟩
theorem A4{nm m id:Str}{id':String}{v:V}{r:aG V}{pn pm pc:Pos}(hv:bt e nm σ v)(i:c.e=e)(hl:(pm.endLine==pc.line)=true)(hg:e9 v m σ id')(d:Dy c σ){Q:Value->Shared->Prop}(hc:∀av,VD d v av->Wp c (call (.builtin id') [av]) Q d.s):
  Wp c (eval (.Call (.Attribute (.Name nm pn) m pm) [] [] pc) c.env) Q d.s:=by
 refine oQ rfl hl (show 0 < 25 from by decide) (ei hv i d fun av ra=>?_);rw[kJ (args:=[]) rfl,if_neg Bool.false_ne_true];exact hg c d av _ _ ra (fQ (sb (fun x z=>by cases z) (Calls.spliced_nil ⟨fV,hc av ra⟩)))
theorem hand(i0:c.e=e)(hd:bt e dn σ (.p (.loc i)))(hs:bt e sn σ (.p (.loc j)))(ht:bt e tn au (.p (.loc k)))(hl:(pm.endLine==pc.line)=true)(hl2:(pm2.endLine==pc2.line)=true)
  (hj:aq σ.h j=some (.list (xs++[F.str u]))) (e1:σ₁={σ with h:=bc σ.h j (.list xs)}) (hi:aq σ₁.h i=some (.dict es)) (hu:gZ es u=true) (e2:au={σ₁ with h:=bc σ₁.h i (.dict (gq u es))}) (hk:aq au.h k=some (.itersD its)) (e3:bl={au with h:=bc au.h k (.iters its)})
  (z1:Nat.ble (xs++[F.str u]).length aw=true) (z2:Nat.ble es.length aw=true) (z3:Nat.ble (its.length+1) aw=true) (d:Dy c σ) (h:∀d':Dy c bl,Le d d'->Q .next d'.s) :
  Wp c (execs [.Delete [.Subscript (.Name dn pd) (.Call (.Attribute (.Name sn ps) "pop" pm) [] [] pc) pk] pdl,.Expr (.Call (.Attribute (.Name tn pt) "pop" pm2) [] [] pc2) pe] c.env) Q d.s:=by
 subst e1 e2 e3;refine wpAny_execs_cons (wpAny_Delete (wpAny_deleteEach_cons (wpAny_delete_Subscript (ei hd i0 d fun av ra=>?_))));refine A4 (id:="list.pop") (r:=.bad) hs i0 hl (gG (.p _ (.loc j hj)) PySem.F.slot_list_pop PySem.F.type_list_pop) d fun lv rl=>C0 (.loc j hj) (.loc j _ hj) z1 c d lv _ rl fun ak uv dy ru=>?_;refine IP hi hu z2 c ak av uv _ (VD.mono dy ra) ru fun am u_ l₂ u_=>wpAny_deleteEach_nil ?_;refine wpAny_execs_cons (wpAny_Expr_any (A4 (id:="list.pop") (r:=.bad) ht i0 hl2 (fun c' d' av' pl Q' ra' h'=>?_) am fun tv rt=>JH hk z3 c am tv _ rt fun ay v dz=>wpAny_execs_nil (h ay (dy.trans (l₂.trans dz)))) (uI c) rfl);revert h';apply eT (v:=av') ra';intro l el h';haveI L:=d'.r.loc k;rw[hk]at L;obtain⟨v,L⟩:=(show ∃v,gJ d'.g k its [v]from L);cases L with|mk l' vs m k1 k2 k3=>
 cases k1.symm.trans el;haveI hI:IsL d'.s.heap l (vs++[v]).toArray m:=(d'.h.at_ _ _ el).trans (congrArg some k2);exact getMethod_builtin (IsL.ty hI) PySem.F.plainAttrs_list PySem.F.slot_list_pop PySem.F.type_list_pop (fun a e=>by cases e;exact⟨_,hI,rfl⟩) h'
theorem Dw:isSubtype (.type "StopIteration") (.type "BaseException")=pure true:=by rw[isSubtype_type];kernel_rfl
theorem Gq:isSubtype (.type ((Manifest.find? "StopIteration").elim "type" fun x=>x.metatype)) (.type "tuple")=pure false:=by rw[isSubtype_type];kernel_rfl
theorem EX
  (h:wpAny M A (eval (.Subscript o i ps) env) (fun f ap=>wpAny M A (callWith pos f [] (backTo pos (starEach args env)) []) Q E ap) E s):wpAny M A (eval (.Call (.Subscript o i ps) args [] pos) env) Q E s:=by
 show wpAny M A (do callWith pos (<- eval (.Subscript o i ps) env) [] (backTo pos (starEach args env)) (backToKw pos (keywordEach [] env))) Q E s;exact wpAny_bind h
theorem Dy.moveIt(d:Dy c σ)(hi:aq σ.h i=some ao)(hT:T.own i)(et:d.g.at_ T=some it)(hs:Heap.SameBut it d.s.heap h')(hn:h'.get? it=some o')(k:OR c.b (d.g.set T (some it) o') i (some ao')):
  ∃d':Dy c {σ with h:=bc σ.h i ao'},d'.s={d.s with heap:=h'}/\Le d d':=by
 haveI nT:∀k,T≠.tab k:=fun k z=>by rw[z]at hT;exact hT
 haveI s:d.g.Le (d.g.set T (some it) o'):=⟨.refl _,fun a u_=>.inl (Gh.ob_ne fun z=>by rw[<- z]at hT;exact hT),fun p a q=>(Gh.set_at et).trans q⟩;exact⟨⟨_,_,d.hset (t:=d.s.toks) et nT hs hn (Nat.le_refl _),d.r.locG s (fun T' t=>Gh.set_out fun z=>t (z▸hT)) rfl hi k⟩,rfl,s⟩
inductive xD(c:Fr)(g:Gh)(i:Nat)(its:List (Str×Nat))(x:Str)(p:Nat)(nd:aZ)(av:Value):Prop
|mk (l:Addr) (us:List Value) (m:Nat) (it mw lz:Addr) (vs:List Value) (m2:Nat):av=.ref l->g.at_ (.p (.loc i))=some l->g.ob (.p (.loc i))=aV (us++[Value.ref mw]) m->dN g i 0 its us->g.z.f mw=some (fj it)->g.at_ (.sub i its.length)=some it->g.ob (.sub i its.length)=cy lz p ->
  g.at_ (.p (.suc x))=some lz->g.ob (.p (.suc x))=aV vs m2->FRs c.b g.z (nd.succ.map F.str) vs->xD c g i its x p nd av
theorem Ku(d:Dy c σ)(hi:aq σ.h i=some (.iters (its++[(x,p)])))(hq:σ.q=some q)(hx:ad q.n2i x=some nd)(ra:VD d (.p (.loc i)) av):xD c d.g i its x p nd av:=by
 obtain⟨_,N⟩:=d.node hq hx;cases N with|mk a0 dx lz' tx tn j1 j2 j3 j4 j5 j6 j7=>
 cases j7 with|mk a1 vs2 m2 f1 f2 f3=>
 clear j1 j2 j3 j4 j5 hx hq;cases ra with|mk l el ea=>
 cases d.itsAt hi with|mk l' vs m k1 k2 k3=>
 haveI el':l'=l:=Option.some.inj (k1.symm.trans ea);clear k1 hi;obtain⟨us,v,rfl,h1,h2⟩:=E0 k3;rw[Nat.zero_add]at h2;rw[List.append_nil]at k2;cases h2 with|mk lz it mw g1 g2 g3 g4 g5=>
 subst g2;exact .mk l us m it mw lz vs2 m2 el ea k2 h1 g3 g4 g5 g1 f2 f3
theorem BJ(hI:IsL s.heap l (us++[v]).toArray m)(hz:us.length+1<=aw)(h:Q v s):SubscriptOn (model prog wd) A (.ref l) (.int (-1) t) Q E s:=by
 haveI e:aw=100000:=rfl;refine⟨"list",_,list_getitem_lookup,⟨_,hI,rfl⟩,wpAny_getItem_list_neg (bz hI) (by decide) ?_ (by decide) ?_ h⟩
 ·rw[List.size_toArray,List.length_append];show -(((us.length+1:Nat)):Int)<=-1;lia
 ·rw[List.size_toArray,List.length_append,show((-1:Int)+((us.length+[v].length:Nat):Int)).toNat=us.length from by show((-1:Int)+((us.length+1:Nat):Int)).toNat=_;lia];rw[List.getElem?_toArray];exact List.getElem?_concat_length
noncomputable abbrev l7(c:Fr)(hs:List ExceptHandler)(Q:Flow->Shared->Prop):Value->Shared->Prop:=fun e ap=>wpAny c.b.M c.A (noteFrame e c.env) (fun u_ s₂=>wpAny c.b.M c.A (setFlight e none) (fun u_ cj=>wpAny c.b.M c.A (handleBy e c.env hs) Q c.E cj) c.E s₂) c.E ap
set_option tactic.hygienic true in
theorem uB(h:Wp (c.out (l7 c [cW] Q)) (execs body c.env) (fun f ap=>match f with|.next=>Q .next ap|f=>Q f ap) s):Wp c (exec (.Try body [cW] [] [] pos) c.env) Q s:=
 wpAny_Try_except (wpAny_mono h (fun f ap bk=>by cases f<;>first|exact wpAny_execs_nil bk|exact bk) fun u_ u_ x=>x)
theorem xQ(ic:In c e n)(d:Dy c σ)(hv:bt e itn σ (.p (.loc i)))(hix:SE e n ix σ (.ok (.f (.int (-1))) σ))(hi:aq σ.h i=some (.iters (its++[(x,p)])))(hz:Nat.ble (its.length+1) aw=true)(hq:σ.q=some q)(hx:ad q.n2i x=some nd)
  (k:∀(ak:Dy c σ)(us:List Value)(m:Nat)(it mw lz:Addr)(vs:List Value)(m2:Nat),Le d ak->ak.g.ob (.p (.loc i))=aV (us++[Value.ref mw]) m->dN ak.g i 0 its us->ak.g.z.f mw=some (fj it)->ak.g.at_ (.sub i its.length)=some it->ak.g.ob (.sub i its.length)=cy lz p->ak.g.at_ (.p (.suc x))=some lz->ak.g.ob (.p (.suc x))=aV vs m2 ->
   FRs c.b ak.g.z (nd.succ.map F.str) vs->∀l,ak.g.at_ (.p (.loc i))=some l->wpAny c.b.M c.A (call (.ref mw) [] []) Q c.E ak.s):Wp c (eval (.Call (.Subscript (.Name itn pit) ix ps) [] [] pc) c.env) Q d.s:=by
 refine EX (rg rfl (ei hv ic.e d fun av ra=>?_));refine hix c ic d _ fun ak kv dy rk=>?_;cases Ku ak hi hq hx (VD.mono dy ra)with|mk l us m it mw lz vs m2 t1 t2 t3 t4 t5 t6 t7 t8 t9 t10=>
 rw[VV.int rk,t1];exact BJ ((ak.h.at_ _ _ t2).trans (congrArg some t3)) (by rw[s9 t4];exact Nat.le_of_ble_eq_true hz) (fQ (sb (fun x z=>by cases z) (Calls.spliced_nil ⟨wr (.inr rfl) (ak.h.zf _ _ t5),k ak us m it mw lz vs m2 dy t3 t4 t5 t6 t7 t8 t9 t10 l t2⟩)))
theorem Eg(ic:In c e n)(d:Dy c σ)(hv:bt e itn σ (.p (.loc i)))(hix:SE e n ix σ (.ok (.f (.int (-1))) σ))(hi:aq σ.h i=some (.iters (its++[(x,p)])))(hz:Nat.ble (its.length+1) aw=true)(hq:σ.q=some q)(hx:ad q.n2i x=some nd)(hw:aq nd.succ p=some w)
  (k:∀(d':Dy c {σ with h:=bc σ.h i (.iters (its++[(x,p+1)]))})v,Le d d'->VD d' (.f (.str w)) v->Q v d'.s):Wp c (eval (.Call (.Subscript (.Name itn pit) ix ps) [] [] pc) c.env) Q d.s:=by
 refine xQ ic d hv hix hi hz hq hx fun ak us m it mw lz vs m2 dy t3 t4 t5 t6 t7 t8 t9 t10 l t2=>?_;clear hv hix hz hq hx;obtain⟨wv,hwv,rw'⟩:=FRs.at_ t10 (show aq (nd.succ.map F.str) p=some (.str w)from oj (bC.symm.trans hw));refine HG (ak.h.zf _ _ t5) ((ak.h.at_ _ _ t6).trans (congrArg some t7)) (bz ((ak.h.at_ _ _ t8).trans (congrArg some t9))) (List.getElem?_toArray.trans hwv) fun h' hit' hs=>?_;have s:=fun{T'}(z:T'≠aE.sub i its.length)=>Gh.set_out (g:=ak.g) (a:=some it) (o:=cy lz (p+1)) z;obtain⟨am,q1,l₂⟩:=ak.moveIt (ao':=.iters (its++[(x,p+1)])) hi (T:=.sub i its.length) rfl t6 hs hit' (.mk l (us++[.ref mw]) m ((s fun z=>by cases z).1.trans t2) ((s fun z=>by cases z).2.trans (by rw[List.append_nil];exact t3))
  (w6 (.mk lz it mw ((s fun z=>by cases z).1.trans t8) rfl t5 (by rw[Nat.zero_add];exact Gh.at_same) (by rw[Nat.zero_add];exact Gh.ob_same)) (qA (g:=ak.g) (g':=ak.g.set (.sub i its.length) (some it) (cy lz (p+1))) (.refl _) (fun x a q=>(s fun z=>by cases z).1.trans q) (fun j' q=>s fun z=>by cases(z);rw[Nat.zero_add]at q;exact Nat.lt_irrefl _ q) t4)):gJ _ i _ [])
 rw[<- q1];exact k am wv (Gh.Le.trans dy l₂) (FR.mono l₂.z rw')
theorem Df(ic:In c e n)(d:Dy c σ)(hv:bt e itn σ (.p (.loc i)))(hix:SE e n ix σ (.ok (.f (.int (-1))) σ))(hi:aq σ.h i=some (.iters (its++[(x,p)])))(hz:Nat.ble (its.length+1) aw=true)(hq:σ.q=some q)(hx:ad q.n2i x=some nd)(hw:aq nd.succ p=none)
  (k:∀(d':Dy c {σ with h:=bc σ.h i (.itersD its)})ax,Le d d'->bI c.b c.env.frame d'.g .stop ax->c.E (.ref ax) d'.s):Wp c (eval (.Call (.Subscript (.Name itn pit) ix ps) [] [] pc) c.env) Q d.s:=by
 refine xQ ic d hv hix hi hz hq hx fun ak us m it mw lz vs m2 dy t3 t4 t5 t6 t7 t8 t9 t10 l t2=>?_;clear hv hix hz hq hx;haveI hn:vs.toArray[p]?=none:=by rw[List.getElem?_toArray,List.getElem?_eq_none_iff,FRs.length t10,List.length_map];exact List.getElem?_eq_none_iff.mp (bC.symm.trans hw)
 refine He ic.h (ak.h.zf _ _ t5) ((ak.h.at_ _ _ t6).trans (congrArg some t7)) (bz ((ak.h.at_ _ _ t8).trans (congrArg some t9))) hn fun h1 h' ea' hs1 hl1 hk' hne he=>?_;obtain⟨o1,ho1⟩:=hl1;obtain⟨oe,vs,he,hce,hde,h1e⟩:=he;have s:=fun{T'}(z:T'≠aE.sub i its.length)=>Gh.set_out (g:=ak.g) (a:=some it) (o:=o1) z;obtain⟨am,q1,l₂⟩:=ak.moveIt (ao':=.itersD its) hi (T:=.sub i its.length) rfl t6 hs1 ho1 ⟨.ref mw,(.mk l us m ((s fun z=>by cases z).1.trans t2) ((s fun z=>by cases z).2.trans t3)
  (qA (g:=ak.g) (g':=ak.g.set (.sub i its.length) (some it) o1) (.refl _) (fun x a q=>(s fun z=>by cases z).1.trans q) (fun j' q=>s fun z=>by cases(z);rw[Nat.zero_add]at q;exact Nat.lt_irrefl _ q) t4):gJ _ i its [.ref mw])⟩
 obtain⟨ay,q3,dz,oG⟩:=am.excNew (X:=.stop) (h':=h') (ea:=ea') (by rw[q1];exact hne) (by rw[q1];exact hk') he hce hde h1e fun t z=>by cases z
 rw[q1]at q3;exact q3▸k ay ea' (Gh.Le.trans dy (Gh.Le.trans l₂ dz)) oG
theorem Kq(hv:bt e itn σ (.p (.loc i)))(hix:SE e n ix σ (.ok (.f (.int (-1))) σ))(hi:aq σ.h i=some (.iters (its++[(x,p)])))(hz:Nat.ble (its.length+1) aw=true)(hq:σ.q=some q)(hx:ad q.n2i x=some nd)(hw:aq nd.succ p=some w)(hy:bF e y):
  SS e n (.Try [.Assign [.Name y py] (.Call (.Subscript (.Name itn pit) ix ps) [] [] pc) pa,.Break pb] [.ExceptHandler (some (.Name xn px)) none (b0::hb) ph] [] [] pos) σ (.ok .brk {σ with l:=ag σ.l y (.f (.str w)),h:=bc σ.h i (.iters (its++[(x,p+1)]))}):=fun c ic here d Q pp=>
 uB (wpAny_execs_cons (wpAny_Assign_Name (Eg (c:=c.out (l7 c _ Q)) ⟨ic.e,ic.n,ic.h⟩ (d.out _) hv hix hi hz hq hx hw fun am v l₂ r=>kj (c:=c.out (l7 c _ Q)) hy ic.e am (v:=.f (.str w)) r fun ay dz=>wpAny_execs_cons (wpAny_Break (pp ay.back .brk (Gh.Le.trans l₂ dz) rfl))) rfl))
theorem IZ(hv:bt e itn σ (.p (.loc i)))(hix:SE e n ix σ (.ok (.f (.int (-1))) σ))(hi:aq σ.h i=some (.iters (its++[(x,p)])))(hz:Nat.ble (its.length+1) aw=true)(hq:σ.q=some q)(hx:ad q.n2i x=some nd)(hw:aq nd.succ p=none)
  (hxn:bt e xn σ₁ (.f (.bi "StopIteration"))) (e0:σ₁={σ with h:=bc σ.h i (.itersD its)})
  (hd:bt e dn σ₁ (.p (.loc i₂))) (hs:bt e sn σ₁ (.p (.loc j))) (ht:bt e tn bl (.p (.loc i))) (hl:(pm.endLine==pc2.line)=true) (hl2:(pm2.endLine==pc3.line)=true)
  (hj:aq σ₁.h j=some (.list (xs++[F.str u]))) (e1:au={σ₁ with h:=bc σ₁.h j (.list xs)}) (hi2:aq au.h i₂=some (.dict es)) (hu:gZ es u=true) (e2:bl={au with h:=bc au.h i₂ (.dict (gq u es))}) (hk:aq bl.h i=some (.itersD its)) (e3:cD={bl with h:=bc bl.h i (.iters its)})
  (z1:Nat.ble (xs++[F.str u]).length aw=true) (z2:Nat.ble es.length aw=true) :
  SS e n (.Try [.Assign [.Name y py] (.Call (.Subscript (.Name itn pit) ix ps) [] [] pc) pa,.Break pb] [.ExceptHandler (some (.Name xn px)) none [.Delete [.Subscript (.Name dn pd) (.Call (.Attribute (.Name sn ps2) "pop" pm) [] [] pc2) pk] pdl,.Expr (.Call (.Attribute (.Name tn pt) "pop" pm2) [] [] pc3) pe] ph] [] [] pos) σ (.ok .next cD):=fun c ic here d Q pp=>by
 refine uB (wpAny_execs_cons (wpAny_Assign_Name (Df (c:=c.out (l7 c _ Q)) ⟨ic.e,ic.n,ic.h⟩ (d.out _) hv hix hi hz hq hx hw fun ay ea' dz oG=>?_) rfl));clear hv hix hi hq hx hw;subst e0;refine ay.back.note oG here fun bH jb K9 La=>bH.flight K9 La fun cf u0 Bk Lb=>?_;refine wpAny_handleBy_builtin (T:="StopIteration") (X:="StopIteration") (b:=true) Dw Gq isSubtype_stop (ei (c:=c.mark (some (.ref ea')) (notedBy c.b.M (c.A.mark (some (.ref ea'))) c.env (cameBackBy c.b.M c.A c.env c.E))) hxn ic.e (cf.mark _ _) fun xv rx=>?_);refine⟨Option.some.inj (rx.symm.trans (c.ok.blts ("StopIteration",.type "StopIteration") (by decide +kernel))),?_,?_⟩
 ·cases Bk with|mk vs e1 e2=>exact⟨_,cf.h.at_ _ _ e1,e2⟩
 rw[if_pos rfl];refine cf.flight Bk Lb fun Lc Ld Lw Ly=>hand (c:=c.mark (some (.ref ea')) (notedBy c.b.M (c.A.mark (some (.ref ea'))) c.env (cameBackBy c.b.M c.A c.env c.E))) ic.e hd hs ht hl hl2 hj e1 hi2 hu e2 hk e3 z1 z2 hz (Lc.mark _ _) fun vd ve=>?_;exact pp vd.unmark .next (Gh.Le.trans dz (Gh.Le.trans jb (Gh.Le.trans u0 (Gh.Le.trans Ld ve)))) rfl
theorem CC(hy:bF e y)(hx:SE e n x σ (.ok v σ₁))(ho:SE e n o σ₁ (.ok w au))(hk:SE e n k au (.ok u bl))(hp:jQ w u v bl (.ok () cD)):SS e n (.Assign [.Subscript o k ps,.Name y py] x pos) σ (.ok .next {cD with l:=ag cD.l y v}):=fun c i h d Q p=>by refine wpAny_Assign_two (hx c i d _ fun ak a dy ra=>?_);rw[assign_Subscript];refine wpAny_bind (wpAny_holding (ho c i ak _ fun am b l₂ rb=>wpAny_bind (wpAny_holding (hk c i am _ fun ay z dz rz=>wpAny_bind (wpAny_standAt (wpAny_bind (wpAny_holding (hp c ay b z a _ (VD.mono dz rb) rz (VD.mono dz (VD.mono l₂ ra)) fun bH u_ jb u_=>wpAny_release ?_))))))));exact wpAny_assign_Name (qP hy i (VD.mono jb (VD.mono dz (VD.mono l₂ ra))) (p.after (dy.trans (l₂.trans (dz.trans jb)))))
inductive nO:List (Option Expr)->List Expr->List (Str×Str)->Prop
|nil:nO [] [] []
|cons {ks:List (Option Expr)} {vs:List Expr} {es:List (Str×Str)} (u w:Str) (a b:Nat) (p q:Pos):nO ks vs es->nO (some (.Constant (.str u) a p)::ks) (.Constant (.str w) b q::vs) ((u,w)::es)
noncomputable def qI:List (Str×Str)->List (Str×F)->List (Str×F)
|[],acc=>acc
|(u,w)::es,acc=>qI es (ag acc u (.str w))
theorem BK(u:Str)(t:Tok):Value.isStrOf u (.str u t)=true:=decide_eq_true rfl
set_option tactic.hygienic true in
theorem BC{kvs:List (Str×Value)}(nd:(kvs.map (·.1)).Nodup):((stored kvs u v).map (·.1)).Nodup:=by
 unfold stored
 split
 ·rw[List.map_map];rw[show(((fun x:Str×Value=>x.1) ∘ fun kv:Str×Value=>if kv.1=u then(kv.1,v)else kv))=fun kv=>kv.1 from by funext kv;show(if kv.1=u then(kv.1,v)else kv).1=kv.1;split<;>rfl]
  exact nd
 ·rename_i h;rw[List.map_append,List.nodup_append];refine⟨nd,.cons (fun u_ m=>by cases m) .nil,fun a m c m' q=>h ?_⟩;cases List.mem_singleton.mp m';subst q;obtain⟨kv,m1,m2⟩:=List.mem_map.mp m;exact List.any_eq_true.mpr ⟨kv,m1,decide_eq_true m2⟩
theorem I9{pos:Pos}(h:nO ks vs es):∀{s:Shared}{Q:List (Value×Value)->Shared->Prop},
  (∀vals kvs t,s.toks<=t->Carries c.b.kd vals kvs->(∀z(acc:List (Str×F))acc',DRs c.b z acc acc'->(acc'.map (·.1)).Nodup->DRs c.b z (qI es acc) (merged acc' kvs))->Q vals {s with toks:=t}) ->
  ks.all (·.isSome)=true/\ks.length=vs.length/\ks.length=es.length/\Wp c (evalPairs (pairTrees ks vs env pos)) Q s:=by
 induction h with
|nil=>exact fun hQ=>⟨rfl,rfl,rfl,pairTrees_nil_walk (hQ [] [] _ (Nat.le_refl _) trivial fun u_ u_ u_ r u_=>r)⟩
|cons u w a b p q h ih=>
  intro s Q hQ;obtain⟨a1,a2,a3,a4⟩:=ih (s:={s with toks:=s.toks+1+1}) (Q:=fun r cj=>Q ((.str u s.toks,.str w (s.toks+1))::r) cj) fun vals kvs t ht hc hd=>
   hQ ((.str u s.toks,.str w (s.toks+1))::vals) ((u,.str w (s.toks+1))::kvs) t (Nat.le_trans (Nat.le_add_right _ 2) ht) ⟨BK u s.toks,rfl,hc⟩ fun z acc acc' r nd=>
    hd z _ _ (yS (x:=.str w) (v:=.str w (s.toks+1)) (rfl:FR c.b z (.str w) (.str w (s.toks+1))) r nd) (BC nd)
  exact⟨a1,congrArg (·+1) a2,congrArg (·+1) a3,pairTrees_cons_walk (Calls.Constant_str (Calls.Constant_str a4))⟩
theorem EW(h:nO ks vs es)(h0:es.length≠0)(h1:es.length<=15):SE e n (.Dict ks vs pos) σ (.ok (.f (.dict (qI es []))) σ):=fun c i d Q p=>by
 obtain⟨a1,a2,a3,a4⟩:=I9 (c:=c) (env:=c.env) (pos:=pos) h (s:={d.s with heap:=d.s.heap.push {cls:=.type "dict",data:=.dict #[]}}) (Q:=fun vs ap=>∃kvs,Carries c.b.kd vs kvs/\ap.heap.DictOf c.b.kd d.s.heap.objs.size [] /\
   ∀h',h'.DictOf c.b.kd d.s.heap.objs.size (merged [] kvs)->Heap.SameBut d.s.heap.objs.size ap.heap h'->Q (.ref d.s.heap.objs.size) {ap with heap:=h',toks:=ap.toks+vs.length})
  fun vals kvs t ht hc hd=>⟨kvs,hc,Heap.DictOf.new _,fun h' hD hs=>by
   have hf:=Heap.get?_none_of_le (h:=d.s.heap) (Nat.le_refl d.s.heap.objs.size);obtain⟨o,ho,hO⟩:=DictO.of hD;have hk:∀a o,d.s.heap.get? a=some o->h'.get? a=some o:=fun a o ho=>(hs.2 a (Nat.ne_of_lt (Heap.lt_size ho))).trans (Heap.get?_push_of_some _ ho);have le:=Gh.fz_le (o:=o) (d.h.fresh hf).1;refine p ⟨_,_,d.h.frz (s':={d.s with heap:=h',toks:=t+vals.length}) hf hk ho rfl rfl (Nat.le_trans ht (Nat.le_add_right ..)),d.r.frz le (fun u_=>⟨rfl,rfl⟩) rfl⟩ _ le ⟨_,.mk _ o rfl (beq_eq_false_iff_ne.mpr fun q=>?_) Z.add_same hO,hd _ [] [] rfl .nil⟩;obtain⟨o',ho'⟩:=c.ok.sys;by_cases m:sysModules∈c.b.tabA
   ·obtain⟨k,z⟩:=d.r.tb _ m;have:=d.h.at_ _ _ z;rw[<- q,hf]at this;cases this
   ·have:=d.h.b ho' m;rw[<- q,hf]at this;cases this⟩
 exact wpAny_Dict_walk (knd:=c.b.kd) a1 a2 (fun q=>by rw[q]at a3;exact h0 a3.symm) (by rw[a3];exact h1) a4
theorem F9:∀{es:List (Str×F)}{kvs:List (Str×Value)},DRs b z es kvs->FRs b z (es.map (·.2)) (kvs.map (·.2)):=by
 intro es
 induction es with
|nil=> intro _ h;cases(show _=[]from h);exact(rfl:_=[])
|cons p_ _ ih=> obtain⟨_,_⟩:=p_;intro _ h;obtain⟨v,r,rfl,a,h⟩:=h;exact⟨v,_,rfl,a,ih h⟩
section
variable{b:aN}{A:Around}{s:Shared}{z:Z}
theorem Ky(hh:A.handled=none)(hu:A.units+7 < cLine)(hm:s.heap.DictAt b.kd d kvs ep)(hz:∀a o,z.f a=some o->s.heap.get? a=some o)(rx:FR b z x xv)(hit:s.heap.get? it=none)(h:cT 6 ys xs ks):
  ∀{vs:List Value}{j:Nat}{R:Result->Shared->Prop}{h':Heap}{tk:Nat},(∀y∈xs,y=x)->(kvs.map (·.2)).drop j=vs->FRs b z ys vs->(∀a o,s.heap.get? a=some o->h'.get? a=some o)->h'.IsValIter it d j kvs.length ep ->
   (∀h'',(∀a o,s.heap.get? a=some o->h''.get? a=some o)->R (.ok (.ret (.bool (ks.any id)))) {s with heap:=h'',toks:=tk})->codeAny b.M A (.builtin "proto.contains_iter" ⟨[.ref it,xv],[]⟩) R {s with heap:=h',toks:=tk}:=by
 have ent:entryFor table "proto.contains_iter"=some Builtin.«proto.contains_iter»:=entryFor_of_fast (by kernel_rfl);have pl:plainId "proto.contains_iter"=true:=by decide +kernel
 have hmk:∀{h':Heap},(∀a o,s.heap.get? a=some o->h'.get? a=some o)->h'.DictAt b.kd d kvs ep:=fun hk=>by obtain⟨o,es,ho,r⟩:=hm;exact⟨o,es,hk d o ho,r⟩
 induction h with
|nil=>
  intro vs j R h' tk _ hv hr hk hI hR;cases(show vs=[]from hr);refine codeAny_builtin ent ?_;rw[Around.under_plainId pl _];refine wpAny_bind (m:=pyNext (.ref it)) (wpAny_pyNext_values_end hh hI (hmk hk) ?_ fun h'' he=>?_)
  ·have:=congrArg List.length hv;rw[List.length_drop,List.length_map]at this;exact List.getElem?_eq_none (Nat.sub_eq_zero_iff_le.mp this)
  ·refine wpAny_bind (wpAny_rule (wpAny_pure (hR _ fun a o ho=>he a o (fun q=>?_) (hk a o ho))));subst q;rw[hit]at ho;cases ho
|cons y x' k ys xs ks e h ih=>
  intro vs j R h' tk hx hv hr hk hI hR;obtain⟨v,vs',rfl,a,r⟩:=hr;cases hx x' (.head _);have hj:(kvs.map (·.2))[j]?=some v:=by have:=congrArg (fun l=>l[0]?) hv;rw[List.getElem?_drop]at this;exact this
  rw[List.getElem?_map]at hj;obtain⟨kv,hkv,rfl⟩:=Option.map_eq_some_iff.mp hj;haveI hv':(kvs.map (·.2)).drop (j+1)=vs':=by rw[<- List.drop_drop,hv];rfl
  refine codeAny_builtin ent ?_;rw[Around.under_plainId pl _];refine wpAny_bind (m:=pyNext (.ref it)) (wpAny_pyNext_values_item (k:=kv.1) (v:=kv.2) hI (hmk hk) hkv fun h'' hI' hs=>?_);have hk':∀a o,s.heap.get? a=some o->h''.get? a=some o:=fun a o ho=>(hs.2 a (fun q=>by subst q;rw[hit]at ho;cases ho)).trans (hk a o ho);refine wpAny_bind (((e b z {s with heap:=h'',toks:=tk} kv.2 xv (fun a o q=>hk' a o (hz a o q)) a rx).2 A.in1 (l9 hu)).el _ _ _ _ ?_);cases k with
 |true=>exact wpAny_bind (wpAny_rule (wpAny_pure (hR _ hk')))
 |false=>exact wpAny_pure ⟨plainId_quiet pl _,ih (fun y m=>hx y (.tail _ m)) hv' r hk' hI' hR⟩
end
theorem FS(h:cT 6 (es.map (·.2)) ((es.map (·.2)).map fun u_=>x) ks):aQ (ft neg .In .NotIn) (.f x) (.dview es) σ (ks.any id != neg):=fun c hh d a b ra rb Q q=>by
 obtain⟨kvs,v,hr⟩:=rb;cases v with|mk v dd o ev hv hd hO=>
 subst ev;haveI hvw:d.s.heap.IsValuesView v dd:=⟨_,d.h.zf _ _ hv,rfl,rfl⟩;obtain⟨ep,hDA⟩:=(hO.at (d.h.zf _ _ hd)).dictAt;haveI nc:typeLookup (.type "dict_values") "__contains__"=pure none:=by rw[typeLookup_type,builtinLookup_eq_fast];kernel_rfl
 haveI key:∀{Q:Bool->Shared->Prop},(∀d':Dy c σ,Le d d'->Q (ks.any id) d'.s)->Wp c (contains (.ref v) a) Q d.s:=fun{Q}hQ=>by
  unfold contains;refine wpAny_holding ?_;rw[stdlibNamesSay?_ref];refine wpAny_bind (wpAny_specialOf hvw.typeIs nc ?_);rw[if_neg (by decide)];refine wpAny_bind (wpAny_callSpecialUnlessNone?_none hvw.typeIs nc (wpAny_bind (wpAny_rule ?_)));refine wpAny_bind (wpAny_tryCatch (wpAny_pyIter_values hvw hDA (wpAny_bind (wpAny_runValue ?_))));exact Ky (b:=c.b) (z:=d.g.z) hh c.u7 hDA d.h.zf ra (Heap.get?_none_of_le (Nat.le_refl _)) h (j:=0) (fun y m=>by obtain⟨_,_,rfl⟩:=List.mem_map.mp m;rfl) rfl (F9 hr) (fun a o ho=>Heap.get?_push_of_some _ ho) ⟨_,Heap.get?_push_size _ rfl,rfl,rfl⟩ fun h'' hk=>
   wpAny_pure (hQ (d.keeps (s':={d.s with heap:=h''}) hk rfl rfl d.h.tk) (Gh.Le.refl _))
 unfold compareOp;cases neg with
|true=>exact wpAny_bind (key fun d' le=>wpAny_pure (by rw[<- Bool.bne_true];exact q d' le))
|false=>exact wpAny_bind (key fun d' le=>wpAny_pure (by haveI:=q d' le;rw[Bool.bne_false]at this;exact this))
theorem bd.of(h:p.vararg=none)(hn:cV p=ns)(hl:Nat.beq vs.length ns.length=true):bd p vs (ns.zip vs):=by subst hn;exact .plain h hl
theorem bB(hb:∀env,attributeBase o nm env (eval o env)=eval o env)(ho:SE e n o σ (.ok v σ₁))(ha:gz v nm σ₁ rs):SE e n (.Attribute o nm pos) σ rs:=fun c j d Q pp=>by rw[arm_eval_Attribute,hb];exact wpAny_bind (ho c j d _ fun d' av le r=>wpAny_bind (wpAny_standAt (wpAny_bind (wpAny_holding (ha c d' av _ _ r (aB.imp (pp.after le) fun u_ u_ q=>wpAny_bind (wpAny_letTemporaryGo (wpAny_pure q))))))))
theorem pq(hs:bF e nm)(hx:SE e n x σ (.ok v σ₁)):SE e n (.NamedExpr (.Name nm p) x pos) σ (.ok v {σ₁ with l:=ag σ₁.l nm v}):=fun c j d Q pp=>by rw[arm_eval_NamedExpr];refine wpAny_bind (hx c j d _ fun d' a le ra=>wpAny_bind (wpAny_holding ?_));rw[arm_assign_Name];exact wpAny_bind (wpAny_standAt (wpAny_bindName (kj hs j.e d' ra fun d'' le'=>wpAny_pure (pp d'' a (le.trans le') (VD.mono le' ra)))))
theorem aR(hl:SE e n l σ (.ok v σ₁))(hr:SE e n r σ₁ (.ok w au))(hb:ds op v w au rs):SE e n (.BinOp l op r pos) σ rs:=fun c j d Q pp=>wpAny_BinOp (hl c j d _ fun d' a le ra=>hr c j d' _ fun d'' b le' rb=>hb c d'' a b (VD.mono le' ra) rb Q ((pp.after le).after le'))
theorem uK(hm:behindInMarks co r=false)(hl:SE e n l σ (.ok v σ₁))(hr:SE e n r σ₁ (.ok w au))(hc:aQ co v w au k):SE e n (.Compare l [co] [r] pos) σ (.ok (.f (.bool k)) au):=fun c j d Q pp=>
 wpAny_Compare1 (hl c j d _ fun d' a le ra=>hr c j d' _ fun d'' b le' rb=>hc c j.h d'' a b (VD.mono le' ra) rb _ fun d3 z=>pp d3 _ (le.trans (le'.trans z)) rfl) hm
theorem az(hm:behindInMarks co r=false)(hl:SE e n l σ (.ok v σ₁))(hr:SE e n r σ₁ (.ok w au))(hc:aQ co v w au k):ST e n (.Compare l [co] [r] pos) σ (.ok k au):=fun c j d Q pp=>
 wpAny_isTrue_Compare1 (hl c j d _ fun d' a le ra=>hr c j d' _ fun d'' b le' rb=>hc c j.h d'' a b (VD.mono le' ra) rb _ fun d3 z=>wpAny_truthy_bool (pp d3 k (le.trans (le'.trans z)) rfl)) hm
theorem bh(ho:SE e n o σ (.ok v σ₁))(hi:SE e n i σ₁ (.ok w au))(hs:fB v w au rs):SE e n (.Subscript o i pos) σ rs:=fun c j d Q pp=>rg rfl (ho c j d _ fun d' a le ra=>hi c j d' _ fun d'' b le' rb=>hs c d'' a b (VD.mono le' ra) rb _ ((pp.after le).after le'))
theorem ba(hb:∀env,attributeBase o m env (eval o env)=eval o env)(hl:(p.endLine==pos.line)=true)(hn:Nat.blt args.length 25=true)(ho:SE e n o σ (.ok v σ₁))(hk:ln e n v m args σ₁ rs):SE e n (.Call (.Attribute o m p) args [] pos) σ rs:=
 fun c j d Q pp=>oQ (hb _) hl (Nat.blt_eq.mp hn) (ho c j d _ fun d' av le ra=>hk c j d' av pos _ Q ra (pp.after le))
theorem bL{id:String}(hg:e9 v m σ id)(hs:g6 args=true)(ha:cP e n args σ (.ok us σ₁))(hk:ky id v us σ₁ rs):ln e n v m args σ rs:=fun c j d av pos pl Q ra pp=>by rw[kJ hs,if_neg Bool.false_ne_true];refine hg c d av pl _ ra (fQ (sE (Hk hs) ha c j d (.builtin id) pos _ fun d' a le r=>?_));obtain⟨as,kw⟩:=a;obtain⟨rfl,r⟩:=r;exact⟨fV,hk c j.h d' av as Q (VD.mono le ra) r (pp.after le)⟩
theorem bf(hv:bt e f σ v)(hs:ka args=true)(ha:cP e n args σ (.ok us σ₁))(hk:SK n v us σ₁ rs):SE e n (.Call (.Name f fp) args [] pos) σ rs:=fun c j d Q pp=>
 wpAny_Call_ofName (ei hv j.e d fun fv rv=>fQ (sE hs ha c j d fv pos _ fun d' a le r=>by obtain⟨as,kw⟩:=a;obtain⟨rfl,r⟩:=r;exact hk c j.h j.n d' fv as Q (VD.mono le rv) r (pp.after le)))
theorem qm{K:Sx->aG Fl->Prop}(hx:SE e n x σ (.ok v σ₁))(hset:∀(env:Env)v,foldedSetIterable x env v=pure v)(hs:bX v σ₁ nx)(hy:bF e nm)(hL:gM nx nm K m 0 σ₁ rf)(hB:∀σ r,K σ r->SB e n body σ r):SS e n (.For (.Name nm py) x body [] pos) σ rf:=
 FT (f:=fun u_ u_=>rf) hx hset hy hB fun v' af e=>by cases(e);exact .inr ⟨nx,m,hs,hL⟩
theorem cw:SE e n (.Constant .none j pos) σ (.ok (.f .none) σ):=qS (k:=.none)
theorem aL:SE e n (.Constant (.int i) j pos) σ (.ok (.f (.int i)) σ):=qS (k:=.int i)
theorem aJ:SE e n (.Constant (.str s) j pos) σ (.ok (.f (.str s)) σ):=qS (k:=.str s)
theorem sK:SE e n (.Constant (.bool b) j pos) σ (.ok (.f (.bool b)) σ):=qS (k:=.bool b)
structure ci(f:Fn)(ns:List Str)(va:Option Str)(names:List (Str×NameKind)):Prop where
 args:cV f.params=ns
 va:f.params.vararg.map (·.arg)=va
 names:f.scope.names=names
theorem bd.st(h:p.vararg.map (·.arg)=some a)(hn:cV p=ns)(hl:Nat.ble ns.length vs.length=true)(hd:jR (vs.drop ns.length)=some xs)(hz:Nat.ble xs.length aw=true):bd p vs (ns.zip vs++[(a,.f (.tup xs))]):=by
 subst hn;cases hp:p.vararg with
|none=>rw[hp]at h;cases h
|some b=>rw[hp]at h;cases h;exact .star b xs hp hl hd hz
theorem bd.pl(h:p.vararg.map (·.arg)=none)(hn:cV p=ns)(hl:Nat.beq vs.length ns.length=true):bd p vs (ns.zip vs):=by
 refine bd.of ?_ hn hl;cases hp:p.vararg with
|none=>rfl
|some b=>rw[hp]at h;cases h
theorem gm(hq:σ.q=sq)(hf:aq eU j=some (dn,f))(hk:fF j=false)(F:ci f ns va names)(hb:cV f.params=ns->f.params.vararg.map (·.arg)=va->bd f.params vs l)(hv:vs.all (seen false)=true)
  (hB:SB ⟨names,[]⟩ n f.body ⟨l,sq,[],σ.st⟩ r) (hO:dC false σ r r'):bo (n+1) j vs σ r':=by
 haveI h:=F.names;subst h hq;exact HJ hO hf hk (hb F.args F.va) hv hB
theorem bZ(hw:kb false au v w)(he:σ.leave false au=af):dC false σ (.ok (.ret v) au) (.ok w af):=he▸.hand _ _ _ _ rfl hw
theorem tM(he:σ.leave false au=af):dC false σ (.ok .next au) (.ok (.f .none) af):=he▸.hand _ _ (.f .none) _ rfl (.same _ rfl)
theorem iC(he:σ.leave false au=af):dC false σ (.exc z au) (.exc z af):=he▸.exc _ _
theorem mE(hx:SE e n x σ (.ok v σ₁)):SB e n (.Return (some x) pos::rest) σ (.ok (.ret v) σ₁):=fO (Ca hx) fun af z=>by cases z
theorem Av:ci (fh "_get_nodeinfo") ["self","node"] none [("self",.local),("node",.local),("result",.local),("_NodeInfo",.globalImplicit)]:=⟨by kernel_rfl,by kernel_rfl,by kernel_rfl⟩
noncomputable def touch(ns:List (Str×aZ))(u:Str):List (Str×aZ):=match ad ns u with
|some _=>ns
|none=>ns++[(u,⟨0,[]⟩)]
set_option tactic.hygienic true in
theorem yO(hq:σ.q=some ⟨ns,rd,a,b,none⟩)(hz:Nat.ble ns.length aw=true):bo (n+1) 23 [.p .self,.f (.str u)] σ (.ok (.p (.nd u)) {σ with q:=some ⟨touch ns u,rd,a,b,none⟩}):=by
 unfold touch;cases hl:ad ns u with
|some nd=>
  refine' gm hq (dn:="_get_nodeinfo") rfl rfl Av (fun h1 h2=>bd.pl h2 h1 rfl) rfl ?hB (bZ (.same _ rfl) ?he)
  case hB=>
   refine' cG (hU ?t eA) ?r
   case t=> refine az (w:=.f .none) rfl (pq (.loc rfl) (ba (fun u_=>rfl) rfl rfl (bB (fun u_=>rfl) (ae (.loc rfl rfl)) (jZ rfl)) (bL (mG rfl PySem.F.slot_dict_get PySem.F.type_dict_get) rfl (ai rfl (ae (.loc rfl rfl)) an) (yC rfl hl).up))) cw (kc (neg:=false))
   case r=>exact mE (ae (.loc rfl rfl))
  case he=>rfl
|none=>
  refine' gm hq (dn:="_get_nodeinfo") rfl rfl Av (fun h1 h2=>bd.pl h2 h1 rfl) rfl ?hB (bZ (.same _ rfl) ?he)
  case hB=>
   refine' cG (jJ ?t (cG ?s eA)) ?r
   case t=> refine az (w:=.f .none) rfl (pq (.loc rfl) (ba (fun u_=>rfl) rfl rfl (bB (fun u_=>rfl) (ae (.loc rfl rfl)) (jZ rfl)) (bL (mG rfl PySem.F.slot_dict_get PySem.F.type_dict_get) rfl (ai rfl (ae (.loc rfl rfl)) an) (xP rfl hl).up))) cw (kH (neg:=false))
   case s=> refine CC (.loc rfl) (bf (.glob rfl rfl) rfl (ai rfl (ae (.loc rfl rfl)) an) (vJ (.inr rfl) (J6 rfl rfl hl))) (bB (fun u_=>rfl) (ae (.loc rfl rfl)) (jZ rfl)) (ae (.loc rfl rfl)) (IU rfl rfl hz)
   case r=>exact mE (ae (.loc rfl rfl))
  case he=>rfl
noncomputable def aT(ns:List (Str×aZ))(u:Str):aZ:=match ad ns u with
|some nd=>nd
|none=>⟨0,[]⟩
noncomputable def addP(x:Str)(ns:List (Str×aZ))(p:Str):List (Str×aZ):=ag (touch ns p) p {aT ns p with succ:=(aT ns p).succ++[x]}
noncomputable def ig(ns:List (Str×aZ))(x:Str)(ps:List Str):List (Str×aZ):=ps.foldl (addP x) (ag (touch ns x) x {aT ns x with np:=(aT ns x).np+(ps.length:Int)})
structure Sm(k:Nat)(ns:List (Str×aZ)):Prop where
 n:ns.length<=k
 s:∀y nd,ad ns y=some nd->nd.succ.length<=k
theorem bA(h:n<=k)(hk:k<=1000):Nat.ble n aw=true:=Nat.ble_eq_true_of_le (Nat.le_trans h (Nat.le_trans hk (by decide)))
section
variable{ns:List (Str×aZ)}{u x p:Str}{k:Nat}
theorem nh:ad (touch ns u) u=some (aT ns u):=by
 unfold touch aT;cases h:ad ns u with
|some nd=>exact h
|none=>exact(qN h).trans (by show(match ah u u with|true=>_|false=>_)=_;rw[bU])
theorem putL_len:∀{l:List (Str×α)},(ag l x a).length<=l.length+1:=by
 intro l
 induction l with
|nil=> exact Nat.le_refl _
|cons p_ r ih=>
  obtain⟨y,b⟩:=p_;rw[gf];cases ah x y with
 |true=>exact Nat.le_succ _
 |false=>exact Nat.succ_le_succ ih
theorem A2:∀{l:List (Str×α)},ad l x=some b->(ag l x a).length=l.length:=@fun d e=>match d,e with
|(y,c)::r,h=>by
  haveI h:(match ah x y with|true=>some c|false=>ad r x)=some b:=h;rw[gf];cases q:ah x y with
 |true=>rfl
 |false=>rw[q]at h;exact congrArg (·+1) (A2 h)
theorem un(h:Sm k ns):(aT ns u).succ.length<=k:=by
 unfold aT;cases q:ad ns u with
|some nd=>exact h.s _ _ q
|none=>exact Nat.zero_le _
theorem Sm.touch(h:Sm k ns):Sm (k+1) (touch ns u):=by
 unfold Mine.touch;cases q:ad ns u with
|some nd=>exact⟨Nat.le_succ_of_le h.n,fun y nd e=>Nat.le_succ_of_le (h.s y nd e)⟩
|none=>
  refine⟨by rw[List.length_append];exact Nat.succ_le_succ h.n,fun y nd e=>?_⟩;cases z:ad ns y with
 |some nd'=>rw[uu z]at e;cases e;exact Nat.le_succ_of_le (h.s _ _ z)
 |none=>
   rw[qN z]at e;haveI e:(match ah y u with|true=>some (⟨0,[]⟩:aZ)|false=>none)=some nd:=e;cases w:ah y u with
  |true=>rw[w]at e;cases e;exact Nat.zero_le _
  |false=>rw[w]at e;cases e
theorem Sm.put(h:Sm k ns)(hl:ad ns u=some nd)(h':nd'.succ.length<=k):Sm k (ag ns u nd'):=by
 refine⟨by rw[A2 hl];exact h.n,fun y m e=>?_⟩;rw[dB]at e
 split at e
 ·cases e;exact h'
 ·exact h.s _ _ e
theorem Sm.addP(h:Sm k ns):Sm (k+1) (addP x ns p):=h.touch.put nh (by rw[List.length_append];exact Nat.succ_le_succ (un h))
end
noncomputable def yY(enc:List (Str×V)->S->Sx)(y:Str)(f:List (Str×V)->Str->List (Str×V))(g:S->Str->S)(P:List (Str×V)->S->List Str->Prop)(σ:Sx)(r:aG Fl):Prop:=
 ∃l s p ps,σ=enc (ag l y (.f (.str p))) s/\P l s (p::ps)/\r=.ok .next (enc (f (ag l y (.f (.str p))) p) (g s p))
theorem uN{enc:List (Str×V)->S->Sx}(hput:∀l s v,{enc l s with l:=ag (enc l s).l y v}=enc (ag l y v) s){P:List (Str×V)->S->List Str->Prop}
  (step:∀l s p ps,P l s (p::ps)->P (f (ag l y (.f (.str p))) p) (g s p) ps) (all:List Str) (hnx:∀i l s ps,P l s ps->nx i (enc l s)=bw (all.map F.str) i (enc l s)):∀(ps:List Str)(i:Nat)(l:List (Str×V))(s:S),all.drop i=ps->P l s ps->∃l',P l' (ps.foldl g s) []/\gM nx y (yY enc y f g P) (ps.length+1) i (enc l s) (.ok .next (enc l' (ps.foldl g s))):=by
 intro ps
 induction ps with
|nil=>
  intro i l s hd h;refine⟨l,h,?_⟩;haveI:aq (all.map F.str) i=none:=by rw[bC,List.getElem?_eq_none_iff,List.length_map];exact List.drop_eq_nil_iff.mp hd
  rw[mW];rw[hnx i l s [] h];unfold bw;rw[this];rfl
|cons p ps ih=>
  intro i l s hd h;haveI hlt:all[i]?=some p:=by haveI:=congrArg (fun l=>l[0]?) hd;rw[List.getElem?_drop]at this;exact this
  haveI hd':all.drop (i+1)=ps:=by rw[<- List.drop_drop,hd];rfl
  haveI hx:aq (all.map F.str) i=some (.str p):=oj hlt;obtain⟨l',h',H⟩:=ih (i+1) (f (ag l y (.f (.str p))) p) (g s p) hd' (step l s p ps h);refine⟨l',h',?_⟩;rw[mW];rw[hnx i l s _ h];unfold bw;rw[hx];exact⟨_,fun u_ u_=>_,⟨l,s,p,ps,hput l s _,h,rfl⟩,rfl,fun fl af e=>by cases(e);exact H⟩
section
variable{n j:Nat}{σ σ₁:Sx}{m:Str}{q:bW}
theorem dE(hq:σ.q=some q)(hm:(m,j)∈gP)(hs:ka args=true)(ha:cP e n args σ (.ok us σ₁))(hk:bo n j (.p .self::us) σ₁ rs):ln e n (.p .self) m args σ rs:=vh (kr:=fun u_ u_=>rs) hq hm (sE hs ha) fun vs af h=>by cases(h);exact hk
variable{x:Str}{ns:List (Str×aZ)}{a b:Int}{ps:List Str}{k:Nat}
noncomputable abbrev EK:List (Str×NameKind):=[("self",.local),("node",.local),("predecessors",.local),("nodeinfo",.local),("pred",.local),("pred_info",.local),("ValueError",.globalImplicit),("len",.globalImplicit)]
theorem Ay:ci (fh "add") ["self","node"] (some "predecessors") EK:=⟨by kernel_rfl,by kernel_rfl,by kernel_rfl⟩
theorem mT:∀{ps:List Str},jR (ps.map fun p=>V.f (.str p))=some (ps.map F.str):=by
 intro ps
 induction ps with
|nil=> exact rfl
|cons p ps ih=> show((jR (ps.map fun p=>V.f (.str p))).map (F.str p::·))=_;rw[ih];rfl
set_option tactic.hygienic true in
theorem Bv{rd:List Str}(hq:σ.q=some ⟨ns,some rd,a,b,none⟩)(hz:ps.length<=1000):bo (n+1) 18 (.p .self::.f (.str x)::ps.map fun p=>.f (.str p)) σ (.exc (.value "Nodes cannot be added after a call to prepare()") {σ with q:=some ⟨ns,some rd,a,b,none⟩}):=by
 refine' gm hq (dn:="add") rfl rfl Ay (fun h1 h2=>bd.st h2 h1 ?l mT ?z) ?s ?hB (iC ?he)
 case l=>exact Nat.ble_eq_true_of_le (by rw[List.length_cons,List.length_cons];exact Nat.le_add_left 2 _)
 case z=>rw[List.length_map];exact bA (Nat.le_refl _) hz
 case s=>
  refine List.all_eq_true.mpr fun v m=>?_;rcases List.mem_cons.mp m with rfl|m
  ·rfl
  ·rcases List.mem_cons.mp m with rfl|m
   ·rfl
   ·obtain⟨p,_,rfl⟩:=List.mem_map.mp m;rfl
 case hB=> refine fO (jJ (az (w:=.f .none) rfl (bB (fun u_=>rfl) (ae (.loc rfl rfl)) (i7 rfl rfl)) cw (kc (neg:=true))) (fO (jg (.glob rfl rfl) rfl aJ) fun af z=>by cases z)) fun af z=>by cases z
 case he=>rfl
theorem aj(h:ah y z=false):ad (ag l z v) y=ad l y:=by rw[dB,if_neg fun q=>by rw[q,bU]at h;cases h]
theorem aF:ad (ag l z v) z=some v:=by rw[dB,if_pos rfl]
set_option tactic.hygienic true in
theorem sy(hq:σ.q=some ⟨ns,none,a,b,none⟩)(hs:Sm k ns)(hk:k+ps.length<=800):bo (n+2) 18 (.p .self::.f (.str x)::ps.map fun p=>.f (.str p)) σ (.ok (.f .none) {σ with q:=some ⟨ig ns x ps,none,a,b,none⟩}):=by
 haveI hm:(("_get_nodeinfo":Str),23)∈gP:=.tail _ (.tail _ (.tail _ (.tail _ (.tail _ (.head _)))));haveI hp:Nat.ble (ps.map F.str).length aw=true:=by rw[List.length_map];exact bA (Nat.le_trans (Nat.le_add_left _ k) hk) (by decide)
 haveI hlen:∀τ,cX (.builtin "len") [.f (.tup (ps.map F.str))] τ (.ok (.f (.int (ps.length:Int))) τ):=fun τ=>by haveI:=vC (σ:=τ) hp;rw[List.length_map]at this;exact this
 obtain⟨l',_,H⟩:=uN (S:=List (Str×aZ)) (enc:=fun l s=>⟨l,some ⟨s,none,a,b,none⟩,[],σ.st⟩) (y:="pred") (f:=fun l p=>ag l "pred_info" (.p (.nd p))) (g:=addP x) (P:=fun l s ps=>ad l "self"=some (.p .self)/\ad l "node"=some (.f (.str x))/\∃k,Sm k s/\k+ps.length<=900) (fun u_ u_ u_=>rfl)
  (fun l s p ps h=>⟨(aj rfl).trans ((aj rfl).trans h.1),(aj rfl).trans ((aj rfl).trans h.2.1),let ⟨k,hs,hk⟩:=h.2.2;⟨k+1,hs.addP,Nat.le_trans (Nat.le_of_eq (Nat.add_right_comm k 1 ps.length)) hk⟩⟩) ps (nx:=bw (ps.map F.str)) (fun u_ u_ u_ u_ u_=>rfl) ps 0 [("self",.p .self),("node",.f (.str x)),("predecessors",.f (.tup (ps.map F.str))),("nodeinfo",.p (.nd x))] (ag (touch ns x) x {aT ns x with np:=(aT ns x).np+(ps.length:Int)}) rfl ⟨rfl,rfl,k+1,hs.touch.put nh (Nat.le_succ_of_le (un hs)),by lia⟩
 refine' gm hq (dn:="add") rfl rfl Ay (fun h1 h2=>bd.st h2 h1 ?l mT hp) ?s ?hB (tM ?he)
 case l=>exact Nat.ble_eq_true_of_le (by rw[List.length_cons,List.length_cons];exact Nat.le_add_left 2 _)
 case s=>
  refine List.all_eq_true.mpr fun v m=>?_;rcases List.mem_cons.mp m with rfl|m
  ·rfl
  ·rcases List.mem_cons.mp m with rfl|m
   ·rfl
   ·obtain⟨p,_,rfl⟩:=List.mem_map.mp m;rfl
 case hB=>
  refine' cG (hU (az (w:=.f .none) rfl (bB (fun u_=>rfl) (ae (.loc rfl rfl)) (oD rfl rfl)) cw (kH (neg:=true))) eA) (cG ?s1 (cG ?s2 (cG ?s3 eA)))
  case s1=>exact aS (.loc rfl) rfl (ba (fun u_=>rfl) rfl rfl (ae (.loc rfl rfl)) (dE rfl hm rfl (ai rfl (ae (.loc rfl rfl)) an) (yO rfl (bA hs.n (by lia)))))
  case s2=>exact oV (ae (.loc rfl rfl)) (mj rfl nh) (bf (.glob rfl rfl) rfl (ai rfl (ae (.loc rfl rfl)) an) (cx (.head _) (hlen _))) nZ (oR rfl nh)
  case s3=> refine qm (ae (.loc rfl rfl)) (fun u_ u_=>rfl) tC (.loc rfl) H fun σ r hK=>?_;obtain⟨l,ns,p,ps,rfl,o0_,rfl⟩:=hK;obtain⟨h1,h2,k,hs,hk⟩:=o0_;haveI hk:k<=900:=Nat.le_trans (Nat.le_add_right _ _) hk;haveI lt:ad (touch ns p) p=some (aT ns p):=nh;refine' cG (aS (.loc rfl) rfl (ba (fun u_=>rfl) rfl rfl (ae (.loc rfl ((aj rfl).trans h1))) (dE rfl hm rfl (ai rfl (ae (.loc rfl aF)) an) (yO rfl (bA hs.n (Nat.le_trans hk (by decide))))))) (cG ?s4 eA);exact fu (ba (fun u_=>rfl) rfl rfl (bB (fun u_=>rfl) (ae (.loc rfl aF)) (ug rfl lt)) (bL (gG (.p _ (.suc p _ _ rfl lt rfl)) PySem.F.slot_list_append PySem.F.type_list_append) rfl (ai rfl (ae (.loc rfl ((aj rfl).trans ((aj rfl).trans h2)))) an) (jY (.suc p ⟨touch ns p,none,a,b,none⟩ (aT ns p) rfl lt rfl) (.suc p ⟨touch ns p,none,a,b,none⟩ (aT ns p) ((aT ns p).succ++[x]) rfl lt yL) (by rw[List.length_map];exact bA (un hs) (by lia))).up)) rfl
 case he=>rfl
end
section
variable{n:Nat}{σ:Sx}{ns:List (Str×aZ)}{a b:Int}{ps rd:List Str}
theorem A6:ci (fh "get_ready") ["self"] none [("self",.local),("result",.local),("n2i",.local),("node",.local),("ValueError",.globalImplicit),("tuple",.globalImplicit),("_NODE_OUT",.globalImplicit),("len",.globalImplicit)]:=⟨by kernel_rfl,by kernel_rfl,by kernel_rfl⟩
theorem zM:ci (fh "is_active") ["self"] none [("self",.local),("ValueError",.globalImplicit),("bool",.globalImplicit)]:=⟨by kernel_rfl,by kernel_rfl,by kernel_rfl⟩
theorem xT:ci (fh "prepare") ["self"] none [("self",.local),("cycle",.local),("ValueError",.globalImplicit),("CycleError",.globalImplicit)]:=⟨by kernel_rfl,by kernel_rfl,by kernel_rfl⟩
theorem xC:ci (fh "done") ["self"] (some "nodes") [("self",.local),("nodes",.local),("n2i",.local),("node",.local),("nodeinfo",.local),("stat",.local),("successor",.local),("successor_info",.local),("ValueError",.globalImplicit),("_NODE_OUT",.globalImplicit),("_NODE_DONE",.globalImplicit)]:=⟨by kernel_rfl,by kernel_rfl,by kernel_rfl⟩
set_option tactic.hygienic true in
theorem Jc(hq:σ.q=some ⟨ns,none,a,b,none⟩):bo (n+1) 20 [.p .self] σ (.exc (.value "prepare() must be called first") {σ with q:=some ⟨ns,none,a,b,none⟩}):=by
 refine' gm hq (dn:="get_ready") rfl rfl A6 (fun h1 h2=>bd.pl h2 h1 rfl) rfl ?hB (iC ?he)
 case hB=>exact fO (jJ (az (w:=.f .none) rfl (bB (fun u_=>rfl) (ae (.loc rfl rfl)) (oD rfl rfl)) cw (kH (neg:=false))) (fO (jg (.glob rfl rfl) rfl aJ) fun af z=>by cases z)) fun af z=>by cases z
 case he=>rfl
set_option tactic.hygienic true in
theorem Gb(hq:σ.q=some ⟨ns,none,a,b,none⟩):bo (n+1) 21 [.p .self] σ (.exc (.value "prepare() must be called first") {σ with q:=some ⟨ns,none,a,b,none⟩}):=by
 refine' gm hq (dn:="is_active") rfl rfl zM (fun h1 h2=>bd.pl h2 h1 rfl) rfl ?hB (iC ?he)
 case hB=>exact fO (jJ (az (w:=.f .none) rfl (bB (fun u_=>rfl) (ae (.loc rfl rfl)) (oD rfl rfl)) cw (kH (neg:=false))) (fO (jg (.glob rfl rfl) rfl aJ) fun af z=>by cases z)) fun af z=>by cases z
 case he=>rfl
set_option tactic.hygienic true in
theorem Ib(hq:σ.q=some ⟨ns,none,a,b,none⟩)(hz:ps.length<=1000):bo (n+1) 22 (.p .self::ps.map fun p=>.f (.str p)) σ (.exc (.value "prepare() must be called first") {σ with q:=some ⟨ns,none,a,b,none⟩}):=by
 refine' gm hq (dn:="done") rfl rfl xC (fun h1 h2=>bd.st h2 h1 ?l mT ?z) ?s ?hB (iC ?he)
 case l=>exact Nat.ble_eq_true_of_le (by rw[List.length_cons];exact Nat.le_add_left 1 _)
 case z=>rw[List.length_map];exact bA (Nat.le_refl _) hz
 case s=>
  refine List.all_eq_true.mpr fun v m=>?_;rcases List.mem_cons.mp m with rfl|m
  ·rfl
  ·obtain⟨p,_,rfl⟩:=List.mem_map.mp m;rfl
 case hB=>exact fO (jJ (az (w:=.f .none) rfl (bB (fun u_=>rfl) (ae (.loc rfl rfl)) (oD rfl rfl)) cw (kH (neg:=false))) (fO (jg (.glob rfl rfl) rfl aJ) fun af z=>by cases z)) fun af z=>by cases z
 case he=>rfl
set_option tactic.hygienic true in
theorem Jd(hq:σ.q=some ⟨ns,some rd,a,b,none⟩):bo (n+1) 19 [.p .self] σ (.exc (.value "cannot prepare() more than once") {σ with q:=some ⟨ns,some rd,a,b,none⟩}):=by
 refine' gm hq (dn:="prepare") rfl rfl xT (fun h1 h2=>bd.pl h2 h1 rfl) rfl ?hB (iC ?he)
 case hB=>exact fO (jJ (az (w:=.f .none) rfl (bB (fun u_=>rfl) (ae (.loc rfl rfl)) (i7 rfl rfl)) cw (kc (neg:=true))) (fO (jg (.glob rfl rfl) rfl aJ) fun af z=>by cases z)) fun af z=>by cases z
 case he=>rfl
end
noncomputable def xo:BoolOp->Bool->Bool
|.And,k=>!k
|.Or,k=>k
theorem Gp(hx:SE e n x σ (.ok v σ₁))(ht:fX v σ₁ k)(hk:xo op k=true):nA e n op (x::y::r) σ (.ok v σ₁):=fun c i d pos Q p=>by refine wpAny_bind (hx c i d _ fun d' a le ra=>wpAny_bind (wpAny_standAt (wpAny_bind (wpAny_holding (ht c d' a ra _ _ _ fun d'' z=>?_)))));cases op<;>cases k<;>first|cases hk;done|exact wpAny_pure (p d'' a (le.trans z) (VD.mono z ra))
theorem Kw(hx:SE e n x σ (.ok v σ₁))(ht:fX v σ₁ k)(hk:xo op k=false)(hr:nA e n op (y::r) σ₁ rs):nA e n op (x::y::r) σ rs:=fun c i d pos Q p=>by refine wpAny_bind (hx c i d _ fun d' a le ra=>wpAny_bind (wpAny_standAt (wpAny_bind (wpAny_holding (ht c d' a ra _ _ _ fun d'' z=>?_)))));cases op<;>cases k<;>first|cases hk;done|exact hr c i d'' pos Q (p.after (le.trans z))
set_option tactic.hygienic true in
theorem Hv(hq:σ.q=some ⟨ns,some rd,a,b,none⟩)(hz:rd.length<=1000):bo (n+1) 21 [.p .self] σ (.ok (.f (.bool (decide (b < a)||!rd.isEmpty))) {σ with q:=some ⟨ns,some rd,a,b,none⟩}):=by
 have hb:Nat.ble (rd.map F.str).length aw=true:=by rw[List.length_map];exact bA (Nat.le_refl _) hz
 have T:=fun τ(h:bV τ (rd.map F.str) (.p .rd))=>ki h hb;have es:(!(rd.map F.str).isEmpty)=!rd.isEmpty:=by cases rd<;>rfl
 rw[es]at T;refine' gm hq (dn:="is_active") rfl rfl zM (fun h1 h2=>bd.pl h2 h1 rfl) rfl ?hB (bZ (.same _ rfl) ?he)
 case hB=>
  refine' cG (hU (az (w:=.f .none) rfl (bB (fun u_=>rfl) (ae (.loc rfl rfl)) (i7 rfl rfl)) cw (kc (neg:=false))) eA) (mE (E6 ?o))
  case o=>
   have C:∀τ,aQ .Lt (.f (.int b)) (.f (.int a)) τ (decide (b < a)):=fun τ=>qo;cases h:decide (b < a)with
  |true=> rw[h]at C;exact Gp (k:=true) (v:=.f (.bool true)) (uK rfl (bB (fun u_=>rfl) (ae (.loc rfl rfl)) (tJ rfl)) (bB (fun u_=>rfl) (ae (.loc rfl rfl)) (uQ rfl)) (C _)) jH rfl
  |false=> rw[h]at C;refine Kw (k:=false) (v:=.f (.bool false)) (uK rfl (bB (fun u_=>rfl) (ae (.loc rfl rfl)) (tJ rfl)) (bB (fun u_=>rfl) (ae (.loc rfl rfl)) (uQ rfl)) (C _)) jH rfl (IA ?_);exact bf (.glob rfl rfl) rfl (ai rfl (bB (fun u_=>rfl) (ae (.loc rfl rfl)) (i7 rfl rfl)) an) (cx (by decide +kernel) (Ge (T _ (.p _ (.rd _ _ rfl rfl rfl)))))
 case he=>rfl
noncomputable def fW(ns:List (Str×aZ))(u:Str):List (Str×aZ):=ag ns u {aT ns u with np:=-1}
theorem nV(h:(ad ns u).isSome=true):ad ns u=some (aT ns u):=by obtain⟨nd,h⟩:=Option.isSome_iff_exists.mp h;unfold aT;rw[h]
theorem Fa(h:(ad ns v).isSome=true):(ad (fW ns u) v).isSome=true:=by
 unfold fW;rw[dB]
 split
 ·rfl
 ·exact h
set_option tactic.hygienic true in
theorem JE(hq:σ.q=some ⟨ns,some rd,a,b,none⟩)(hz:rd.length<=1000)(hh:∀u∈rd,(ad ns u).isSome=true):bo (n+1) 20 [.p .self] σ (.ok (.f (.tup (rd.map F.str))) {σ with q:=some ⟨rd.foldl fW ns,some [],a+(rd.length:Int),b,none⟩}):=by
 haveI hb:Nat.ble (rd.map F.str).length aw=true:=by rw[List.length_map];exact bA (Nat.le_refl _) hz
 haveI hlen:∀τ,cX (.builtin "len") [.f (.tup (rd.map F.str))] τ (.ok (.f (.int (rd.length:Int))) τ):=fun τ=>by haveI:=vC (σ:=τ) hb;rw[List.length_map]at this;exact this
 obtain⟨l',hP,H⟩:=uN (S:=List (Str×aZ)) (enc:=fun l s=>⟨l,some ⟨s,some rd,a,b,none⟩,[],σ.st⟩) (y:="node") (f:=fun l u_=>l) (g:=fW) (P:=fun l s ps=>ad l "n2i"=some (.p .n2i)/\ad l "self"=some (.p .self)/\ad l "result"=some (.f (.tup (rd.map F.str)))/\∀u∈ps,(ad s u).isSome=true) (fun u_ u_ u_=>rfl)
  (fun l s p ps h=>⟨(aj rfl).trans h.1,(aj rfl).trans h.2.1,(aj rfl).trans h.2.2.1,fun u m=>Fa (h.2.2.2 u (.tail _ m))⟩) rd (nx:=bw (rd.map F.str)) (fun u_ u_ u_ u_ u_=>rfl) rd 0 [("self",.p .self),("result",.f (.tup (rd.map F.str))),("n2i",.p .n2i)] ns rfl ⟨rfl,rfl,rfl,hh⟩
 refine' gm hq (dn:="get_ready") rfl rfl A6 (fun h1 h2=>bd.pl h2 h1 rfl) rfl ?hB (bZ (.same _ rfl) ?he)
 case hB=>
  refine' cG (hU (az (w:=.f .none) rfl (bB (fun u_=>rfl) (ae (.loc rfl rfl)) (i7 rfl rfl)) cw (kc (neg:=false))) eA) (cG ?s1 (cG ?s2 (cG ?s3 (cG ?s4 (cG ?s5 ?s6)))))
  case s1=>exact aS (.loc rfl) rfl (bf (.glob rfl rfl) rfl (ai rfl (bB (fun u_=>rfl) (ae (.loc rfl rfl)) (i7 rfl rfl)) an) (cx (by decide +kernel) (AT (.p _ (.rd _ _ rfl rfl rfl)) hb)))
  case s2=>exact aS (.loc rfl) rfl (bB (fun u_=>rfl) (ae (.loc rfl rfl)) (jZ rfl))
  case s3=> refine qm (ae (.loc rfl rfl)) (fun u_ u_=>rfl) tC (.loc rfl) H fun σ r hK=>?_;obtain⟨l,s,p,ps,rfl,o0_,rfl⟩:=hK;obtain⟨h1,h2,h3,h4⟩:=o0_;haveI lt:=nV (h4 p (.head _));exact cG (wU rfl (ae (.glob rfl rfl)) (bh (ae (.loc rfl ((aj rfl).trans h1))) (ae (.loc rfl aF)) (uc rfl lt)) (oR rfl lt)) eA
  case s4=>exact fu (ba (fun u_=>rfl) rfl rfl (bB (fun u_=>rfl) (ae (.loc rfl hP.2.1)) (i7 rfl rfl)) (bL (gG (.p _ (.rd _ _ rfl rfl rfl)) PySem.F.slot_list_clear PySem.F.type_list_clear) rfl an (GH (.rd _ _ rfl rfl rfl) (.rd _ _ [] rfl rfl rfl) hb).up)) rfl
  case s5=>exact oV (ae (.loc rfl hP.2.1)) (uQ rfl) (bf (.glob rfl rfl) rfl (ai rfl (ae (.loc rfl hP.2.2.1)) an) (cx (.head _) (hlen _))) nZ (CF rfl)
  case s6=>exact mE (ae (.loc rfl hP.2.2.1))
 case he=>rfl
noncomputable abbrev Qs:=List (Str×aZ)×List Str
noncomputable def fe(s:Qs)(y:Str):Qs:=(ag s.1 y {aT s.1 y with np:=(aT s.1 y).np-1},match decide ((aT s.1 y).np-1=0)with
|true=>s.2++[y]
|false=>s.2)
section
variable{n k st:Nat}{a b:Int}{x p:Str}{l:List (Str×V)}{s:Qs}
theorem IR:aT (ag ns u nd) v=(match ah v u with|true=>nd|false=>aT ns v):=by
 unfold aT;rw[dB];cases q:ah v u with
|true=>rw[if_pos (bD.mp q)]
|false=>rw[if_neg fun z=>by rw[z,bU]at q;cases q]
noncomputable abbrev II:List (Str×NameKind):=[("self",.local),("nodes",.local),("n2i",.local),("node",.local),("nodeinfo",.local),("stat",.local),("successor",.local),("successor_info",.local),("ValueError",.globalImplicit),("_NODE_OUT",.globalImplicit),("_NODE_DONE",.globalImplicit)]
noncomputable abbrev kG(a b:Int)(st:Nat)(l:List (Str×V))(s:Qs):Sx:=⟨l,some ⟨s.1,some s.2,a,b,none⟩,[],st⟩
theorem Bt(h1:ad l "n2i"=some (.p .n2i))(h2:ad l "self"=some (.p .self))(h3:ad l "successor"=some (.f (.str p)))(hl:(ad s.1 p).isSome=true)(hz:s.2.length<=1000)(hs:(pQ.endLine==pS.line)=true):
  SB ⟨II,[]⟩ n [.Assign [.Name "successor_info" pA] (.Subscript (.Name "n2i" pB) (.Name "successor" pC) pD) pE,.AugAssign (.Attribute (.Name "successor_info" pF) "npredecessors" pG) .Sub (.Constant (.int 1) j1 pH) pI,
   .If (.Compare (.Attribute (.Name "successor_info" pJ) "npredecessors" pK) [.Eq] [.Constant (.int 0) j2 pL] pM) [.Expr (.Call (.Attribute (.Attribute (.Name "self" pN) "_ready_nodes" pO) "append" pQ) [.Name "successor" pR] [] pS) pT] [] pU] (kG a b st l s) (.ok .next (kG a b st (ag l "successor_info" (.p (.nd p))) (fe s p))):=by
 haveI lt:=nV hl;haveI lt2:ad (ag s.1 p {aT s.1 p with np:=(aT s.1 p).np-1}) p=some {aT s.1 p with np:=(aT s.1 p).np-1}:=aF;refine' cG (aS (.loc rfl) rfl (bh (ae (.loc rfl h1)) (ae (.loc rfl h3)) (uc rfl lt))) (cG (oV (ae (.loc rfl aF)) (mj rfl lt) aL HV (oR rfl lt)) (cG ?t eA));unfold fe;haveI C:∀τ,aQ .Eq (.f (.int ((aT s.1 p).np-1))) (.f (.int 0)) τ (decide ((aT s.1 p).np-1=0)):=fun τ=>by haveI:=bS (σ:=τ) (neg:=false) (iu (n:=6) (i:=(aT s.1 p).np-1) (j:=0));rw[Bool.bne_false]at this;exact this
 cases h:decide ((aT s.1 p).np-1=0)with
|true=> rw[h]at C;refine jJ (az rfl (bB (fun u_=>rfl) (ae (.loc rfl aF)) (mj rfl lt2)) aL (C _)) (cG (fu (ba (fun u_=>rfl) hs rfl (bB (fun u_=>rfl) (ae (.loc rfl ((aj rfl).trans h2))) (i7 rfl rfl)) (bL (gG (.p _ (.rd _ _ rfl rfl rfl)) PySem.F.slot_list_append PySem.F.type_list_append) rfl (ai rfl (ae (.loc rfl ((aj rfl).trans h3))) an) (jY (.rd _ _ rfl rfl rfl) (.rd ⟨_,some s.2,a,b,none⟩ s.2 (s.2++[p]) rfl rfl yL) (by rw[List.length_map];exact bA (Nat.le_refl _) hz)).up)) rfl) eA)
|false=> rw[h]at C;exact hU (az rfl (bB (fun u_=>rfl) (ae (.loc rfl aF)) (mj rfl lt2)) aL (C _)) eA
end
section
variable{st:Nat}{a b:Int}{p:Str}{all:List Str}
structure lu(p:Str)(all:List Str)(l:List (Str×V))(s:Qs)(ps:List Str):Prop where
 n2i:ad l "n2i"=some (.p .n2i)
 self:ad l "self"=some (.p .self)
 nodes:∀y∈ps,(ad s.1 y).isSome=true
 succ:(ad s.1 p).isSome=true/\(aT s.1 p).succ=all
 z:s.2.length+ps.length<=1000
theorem ui(h:(ad ns v).isSome=true):(ad (ag ns u nd) v).isSome=true:=by
 rw[dB]
 split
 ·rfl
 ·exact h
theorem lu.step(h:lu p all l s (y::ps))(h1:ad l' "n2i"=ad l "n2i")(h2:ad l' "self"=ad l "self"):lu p all l' (fe s y) ps:=by
 refine⟨h1.trans h.n2i,h2.trans h.self,fun u m=>ui (h.nodes u (.tail _ m)),⟨ui h.succ.1,?_⟩,?_⟩
 ·show(aT (ag s.1 y _) p).succ=all;rw[IR];cases q:ah p y with
 |true=>cases bD.mp q;exact h.succ.2
 |false=>exact h.succ.2
 ·haveI z:=h.z;rw[List.length_cons]at z;unfold fe;cases decide ((aT s.1 y).np-1=0)with
 |true=>show(s.2++[y]).length+ps.length<=1000;rw[List.length_append,List.length_singleton];lia
 |false=>show s.2.length+ps.length<=1000;lia
set_option tactic.hygienic true in
theorem DT(hq:σ.q=some q)(hl:ad q.n2i x=some nd):∃h,nH σ (.suc x)=some ⟨nd.succ.map F.str,h⟩:=by
 unfold nH;dsimp only
 split
 ·rename_i q' h';rw[hq]at h';cases h'
  split
  ·rename_i nd' h2;rw[hl]at h2;cases h2;exact⟨.suc x q nd hq hl rfl,rfl⟩
  ·rename_i h2;rw[hl]at h2;cases h2
 ·rename_i h';rw[hq]at h';cases h'
theorem Cs(h:lu p all l s all):∃l',lu p all l' (all.foldl fe s) []/\gM (md (.suc p)) "successor" (yY (kG a b st) "successor" (fun l y=>ag l "successor_info" (.p (.nd y))) fe (lu p all)) (all.length+1) 0 (kG a b st l s) (.ok .next (kG a b st l' (all.foldl fe s))):=
 uN (fun u_ u_ u_=>rfl) (fun l s y ps h=>h.step ((aj rfl).trans (aj rfl)) ((aj rfl).trans (aj rfl))) all (fun i l s ps h=>by haveI lt:=nV h.succ.1;obtain⟨h',e⟩:=DT (σ:=kG a b st l s) rfl lt;unfold md bw;rw[e,<-h.succ.2]<;>rfl) all 0 l s rfl h
end
section
variable{e:Ev}{n:Nat}{σ σ₁:Sx}{r xs:List Expr}
theorem gj(hx:SE e n x σ (.ok (.f (.str t)) σ₁))(hz:Nat.ble (acc++t).length aw=true)(hr:mS e n r (acc++t) σ₁ rs):mS e n (x::r) acc σ rs:=fun c i d Q h p=>by
 show Wp c (do
   let some s<-asStr? (<- eval x c.env)|unsupported "internal:joinedstr"
   if acc.length+s.length > sizeLine then unsupported "str:memory"
   joinParts (acc++s) (evalEach r c.env)) Q d.s
 refine wpAny_bind (hx c i d _ fun d' a le ra=>?_);rw[ra.str];haveI hz2:¬(acc.length+t.length > sizeLine):=by rw[<- strLen_append];exact Nat.not_lt.mpr (fits hz)
 refine wpAny_bind (wpAny_pure ?_);dsimp only;rw[if_neg hz2]
 first
 |exact hr c i d' Q (fits hz) (p.after le)
 |exact wpAny_bind (wpAny_pure (hr c i d' Q (fits hz) (p.after le)))
theorem rq(hx:mS e n (x::y::r) Str.empty σ (.ok t σ₁)):SE e n (.JoinedStr (x::y::r) pos) σ (.ok (.f (.str t)) σ₁):=J5 hx
end
noncomputable def EB(e:Ev)(n:Nat)(body:List Stmt)(σ:Sx)(C:aG Fl->Prop):Prop:=∃r,SB e n body σ r/\C r
set_option tactic.hygienic true in
noncomputable def dK(e:Ev)(n:Nat)(rest:List Stmt)(C:aG Fl->Prop)(r:aG Fl):Prop:=match r with
|.ok .next σ=>EB e n rest σ C
|r=>C r
set_option tactic.hygienic true in
noncomputable def gr(J:Sx->Prop)(B C:aG Fl->Prop)(r:aG Fl):Prop:=match r with
|.ok fl σ=>match fl with
 |.next=>J σ
 |.cont=>J σ
 |.brk=>B (.ok .next σ)
 |.ret v=>C (.ok (.ret v) σ)
|r=>C r
section
variable{e:Ev}{n:Nat}{σ σ₁ af:Sx}{st:Stmt}{body orelse rest:List Stmt}{r:aG Fl}{C:aG Fl->Prop}
theorem aD(h:C (.ok .next σ)):EB e n [] σ C:=⟨_,eA,h⟩
set_option tactic.hygienic true in
theorem gO(hs:SS e n st σ r)(h:dK e n rest C r):EB e n (st::rest) σ C:=by
 cases r with
|ok fl af=>
  cases fl with
 |next=>exact⟨_,cG hs h.choose_spec.1,h.choose_spec.2⟩
 |_=>exact⟨_,fO hs (fun u_ z=>by cases z),h⟩
|_=>exact⟨_,fO hs (fun u_ z=>by cases z),h⟩
theorem aC(hs:SS e n st σ (.ok .next σ₁))(h:EB e n rest σ₁ C):EB e n (st::rest) σ C:=gO hs h
theorem cN(hx:SE e n x σ (.ok v σ₁))(h:C (.ok (.ret v) σ₁)):EB e n (.Return (some x) pos::rest) σ C:=⟨_,mE hx,h⟩
theorem oO{z:X}(hs:SS e n st σ (.exc z σ₁))(h:C (.exc z σ₁)):EB e n (st::rest) σ C:=gO hs h
theorem cu(ht:ST e n t σ (.ok true σ₁))(h:EB e n body σ₁ (dK e n rest C)):EB e n (.If t body orelse pos::rest) σ C:=gO (jJ ht h.choose_spec.1) h.choose_spec.2
theorem bM(ht:ST e n t σ (.ok false σ₁))(h:EB e n orelse σ₁ (dK e n rest C)):EB e n (.If t body orelse pos::rest) σ C:=gO (hU ht h.choose_spec.1) h.choose_spec.2
theorem nX(ht:ST e n t σ (.ok k σ₁))(h1:k=true->EB e n body σ₁ (dK e n rest C))(h2:k=false->EB e n orelse σ₁ (dK e n rest C)):EB e n (.If t body orelse pos::rest) σ C:=by
 cases k with
|true=>exact cu ht (h1 rfl)
|false=>exact bM ht (h2 rfl)
noncomputable def rm(nx:Nx)(y:Str)(K:Sx->aG Fl->Prop)(D:aG Fl->Prop)(m i:Nat)(σ:Sx):Prop:=∃r,gM nx y K m i σ r/\D r
set_option tactic.hygienic true in
theorem Dc{K:Sx->aG Fl->Prop}(h:nx i σ=some (some v))(hk:K {σ with l:=ag σ.l y v} rb)(ht:gr (rm nx y K D m (i+1)) D D rb):rm nx y K D (m+1) i σ:=by
 have fin:∀r,(rb.bnd fun u_ u_=>r)=r->D r->(∀fl au,rb=.ok fl au->nN fl (gM nx y K m (i+1)) au r)->rm nx y K D (m+1) i σ:=fun r e1 c g=>by refine⟨r,?_,c⟩;rw[mW];rw[h];exact⟨rb,fun u_ u_=>r,hk,e1.symm,g⟩
 clear h hk;cases rb with
|ok fl af=>
  cases fl with
 |next=>exact ht.elim fun r h=>fin r rfl h.2 fun fl bl q=>by cases(q);exact h.1
 |cont=>exact ht.elim fun r h=>fin r rfl h.2 fun fl bl q=>by cases(q);exact h.1
 |brk=>exact fin (.ok .next af) rfl ht fun fl bl q=>by cases(q);rfl
 |ret v=>exact fin (.ok (.ret v) af) rfl ht fun fl bl q=>by cases(q);rfl
|exc z af=>exact fin (.exc z af) rfl ht fun fl bl q=>by cases q
|bad=>exact fin .bad rfl ht fun fl bl q=>by cases q
set_option tactic.hygienic true in
theorem gr.to(h:gr J B C r)(f:∀σ,J σ->J' σ)(g:∀r,B r->D r)(k:∀v σ,C (.ok (.ret v) σ)->D (.ok (.ret v) σ))(k2:∀z σ,C (.exc z σ)->D (.exc z σ))(k3:C .bad->D .bad):gr J' D D r:=by
 cases r with
|ok fl af=>
  cases fl with
 |next=>exact f _ h
 |cont=>exact f _ h
 |brk=>exact g _ h
 |ret v=>exact k _ _ h
|exc z af=>exact k2 _ _ h
|bad=>exact k3 h
set_option tactic.hygienic true in
theorem JK{J:List F->Sx->Prop}{nx:Nx}(hnx:∀i xs σ,J xs σ->nx i σ=bw all i σ)(h0:∀σ,J [] σ->EB e n rest σ C)(h1:∀a xs σ,J (a::xs) σ->EB e n body {σ with l:=ag σ.l y (.f a)} (gr (J xs) (dK e n rest C) C))(xs:List F):
  ∀(i:Nat)(σ:Sx),all.drop i=xs->J xs σ->rm nx y (SB e n body) (dK e n rest C) (xs.length+1) i σ:=by
 induction xs with
|nil=> intro i σ hd j;refine⟨.ok .next σ,?_,h0 σ j⟩;rw[mW];rw[hnx i [] σ j];unfold bw;rw[bC,List.getElem?_eq_none_iff.mpr (List.drop_eq_nil_iff.mp hd)]
|cons a xs ih=>
  intro i σ hd j;haveI hx:all[i]?=some a:=by haveI:=congrArg (fun l=>l[0]?) hd;rw[List.getElem?_drop]at this;exact this
  obtain⟨rb,hb,ht⟩:=h1 a xs σ j;exact Dc (v:=.f a) ((hnx i _ σ j).trans (by unfold bw;rw[bC,hx])) hb (ht.to (fun af=>ih (i+1) af (by rw[<- List.drop_drop,hd];rfl)) (fun u_ h=>h) (fun u_ u_ h=>h) (fun u_ u_ h=>h) fun h=>h)
theorem AE{J:List F->Sx->Prop}(hnx:∀i xs' σ,J xs' σ->nx i σ=bw xs i σ)(hx:SE e n x σ (.ok v σ₁))(hset:∀(env:Env)v,foldedSetIterable x env v=pure v)(hs:bX v σ₁ nx)(hy:bF e y)(j:J xs σ₁)(h0:∀σ,J [] σ->EB e n rest σ C)(h1:∀a xs σ,J (a::xs) σ->EB e n body {σ with l:=ag σ.l y (.f a)} (gr (J xs) (dK e n rest C) C)):EB e n (.For (.Name y py) x body [] pos::rest) σ C:=
 haveI h:=JK hnx h0 h1 xs 0 σ₁ rfl j
 gO (qm hx hset hs hy h.choose_spec.1 fun u_ u_ h=>h) h.choose_spec.2
theorem nu{J:List F->Sx->Prop}(hx:SE e n x σ (.ok v σ₁))(hset:∀(env:Env)v,foldedSetIterable x env v=pure v)(hs:bX v σ₁ (bw xs))(hy:bF e y)(j:J xs σ₁)(h0:∀σ,J [] σ->EB e n rest σ C)(h1:∀a xs σ,J (a::xs) σ->EB e n body {σ with l:=ag σ.l y (.f a)} (gr (J xs) (dK e n rest C) C)):EB e n (.For (.Name y py) x body [] pos::rest) σ C:=
 AE (fun u_ u_ u_ u_=>rfl) hx hset hs hy j h0 h1
noncomputable def yy(enc:List (Str×V)->S->Sx)(J:List (Str×V)->S->Prop)(σ:Sx):Prop:=∃l s,σ=enc l s/\J l s
set_option tactic.hygienic true in
theorem l8{enc:List (Str×V)->S->Sx}(hput:∀l s v,{enc l s with l:=ag (enc l s).l y v}=enc (ag l y v) s){J:List Str->List (Str×V)->S->Prop}(hx:SE e n x σ (.ok v (enc l s)))(hset:∀(env:Env)v,foldedSetIterable x env v=pure v)(hs:bX v (enc l s) (bw (ps.map F.str)))(hy:bF e y)(j:J ps l s)
  (h0:∀l s,J [] l s->EB e n rest (enc l s) C) (h1:∀p ps l s,J (p::ps) l s->EB e n body (enc (ag l y (.f (.str p))) s) (gr (yy enc (J ps)) (dK e n rest C) C)):EB e n (.For (.Name y py) x body [] pos::rest) σ C:=by
 refine nu (J:=fun xs σ=>∃ps,xs=ps.map F.str/\yy enc (J ps) σ) hx hset hs hy ⟨ps,rfl,l,s,rfl,j⟩ (fun σ h=>?_) fun a xs σ h=>?_
 ·obtain⟨ps,h1,l,s,rfl,j⟩:=h;cases ps with
 |nil=>exact h0 l s j
 |cons _ _=>cases(h1)
 ·obtain⟨ps,e1,l,s,rfl,j⟩:=h;cases ps with
 |nil=>cases(e1)
 |cons p ps=>
   cases(e1);rw[hput];obtain⟨r,hb,ht⟩:=h1 p ps l s j;refine⟨r,hb,?_⟩;cases r with
  |ok fl af=>cases fl with
   |next=>exact⟨ps,rfl,ht⟩
   |cont=>exact⟨ps,rfl,ht⟩
   |_=>exact ht
  |_=>exact ht
noncomputable def oy(T:Sx->aG Bool->Prop)(B O:Sx->aG Fl->Prop)(D:aG Fl->Prop)(σ:Sx):Prop:=∃f r,oa T B O f σ r/\D r
theorem Hl(ht:T σ (.ok false σ₁))(h:O σ₁ r)(d:D r):oy T B O D σ:=⟨1,r,⟨_,fun u_ u_=>r,ht,rfl,fun k af q=>by cases(q);exact h⟩,d⟩
set_option tactic.hygienic true in
theorem H0(ht:T σ (.ok true σ₁))(hb:B σ₁ rb)(hc:gr (oy T B O D) D D rb):oy T B O D σ:=by
 have fin:∀r,(rb.bnd fun u_ u_=>r)=r->D r->∀f,(∀fl au,rb=.ok fl au->nN fl (oa T B O f) au r)->oy T B O D σ:=fun r e1 c f g=>
  ⟨f+1,r,⟨_,fun u_ u_=>r,ht,rfl,fun k af q=>by cases(q);exact⟨rb,fun u_ u_=>r,hb,e1.symm,g⟩⟩,c⟩
 clear ht hb;cases rb with
|ok fl au=>
  cases fl with
 |next=>exact hc.elim fun f h=>h.elim fun r h=>fin r rfl h.2 f fun fl bl q=>by cases(q);exact h.1
 |cont=>exact hc.elim fun f h=>h.elim fun r h=>fin r rfl h.2 f fun fl bl q=>by cases(q);exact h.1
 |brk=>exact fin (.ok .next au) rfl hc 0 fun fl bl q=>by cases(q);rfl
 |ret v=>exact fin (.ok (.ret v) au) rfl hc 0 fun fl bl q=>by cases(q);rfl
|exc z au=>exact fin (.exc z au) rfl hc 0 fun fl bl q=>by cases q
|bad=>exact fin .bad rfl hc 0 fun fl bl q=>by cases q
theorem CW{J:Nat->Sx->Prop}(h:∀m σ,J m σ->∃k σ₁,ST e n t σ (.ok k σ₁)/\match k with
 |false=>EB e n orelse σ₁ (dK e n rest C)
 |true=>EB e n body σ₁ (gr (fun af=>∃m',m' < m/\J m' af) (dK e n rest C) C))(m:Nat):∀σ,J m σ->oy (ST e n t) (SB e n body) (SB e n orelse) (dK e n rest C) σ:=by
 induction m using Nat.strongRecOn with
|ind m ih=>
  intro σ j;obtain⟨k,σ₁,ht,hk⟩:=h m σ j;cases k with
 |false=>exact Hl ht hk.choose_spec.1 hk.choose_spec.2
 |true=>exact H0 ht hk.choose_spec.1 (hk.choose_spec.2.to (fun au q=>ih _ q.choose_spec.1 au q.choose_spec.2) (fun u_ h=>h) (fun u_ u_ h=>h) (fun u_ u_ h=>h) fun h=>h)
theorem jP{J:Nat->Sx->Prop}(m:Nat)(j:J m σ)(h:∀m σ,J m σ->∃k σ₁,ST e n t σ (.ok k σ₁)/\match k with
 |false=>EB e n orelse σ₁ (dK e n rest C)
 |true=>EB e n body σ₁ (gr (fun af=>∃m',m' < m/\J m' af) (dK e n rest C) C)):EB e n (.While t body orelse pos::rest) σ C:=by
 obtain⟨f,r,h1,h2⟩:=CW h m σ j;exact gO (IK (fun u_ u_ h=>h) (fun u_ u_ h=>h) (fun u_ u_ h=>h) h1) h2
theorem eC(hq:σ.q=sq)(hf:aq eU j=some (dn,f))(hk:fF j=false)(F:ci f ns va names)(hb:cV f.params=ns->f.params.vararg.map (·.arg)=va->bd f.params vs l)(hv:vs.all (seen false)=true)
  (hB:EB ⟨names,[]⟩ n f.body ⟨l,sq,[],σ.st⟩ fun r=>dC false σ r r'):bo (n+1) j vs σ r':=gm hq hf hk F hb hv hB.choose_spec.1 hB.choose_spec.2
end
noncomputable abbrev Qd:=Qs×Int
noncomputable def mH(x:Str):Str:=Str.empty++"node "++reprText x++" was not added using add()"
noncomputable def kQ(x:Str):Str:=Str.empty++"node "++reprText x++" was not passed out (still not ready)"
noncomputable def jt(x:Str):Str:=Str.empty++"node "++reprText x++" was already marked done"
structure Sg(x:Str):Prop where
 r:Nat.ble (reprText x).length aw=true
 r1:Nat.ble (Str.empty++"node "++reprText x).length aw=true
 a:Nat.ble (mH x).length aw=true
 b:Nat.ble (kQ x).length aw=true
 c:Nat.ble (jt x).length aw=true
noncomputable def dM(ns:List (Str×aZ))(x:Str):Option Str:=match ad ns x with
|none=>some (mH x)
|some nd=>match decide (nd.np=-1)with
 |true=>none
 |false=>match decide (0<=nd.np)with
  |true=>some (kQ x)
  |false=>some (jt x)
noncomputable def gL(s:Qd)(x:Str):Qd:=((aT s.1.1 x).succ.foldl fe (ag s.1.1 x {aT s.1.1 x with np:=-2},s.1.2),s.2+1)
noncomputable def cM:List Str->Qd->Option Str×Qd
|[],s=>(none,s)
|x::xs,s=>match dM s.1.1 x with
 |some m=>(some m,s)
 |none=>cM xs (gL s x)
noncomputable def nq:List Str->Qd->Prop
|[],_=>True
|x::xs,s=>Sg x/\(∀nd,ad s.1.1 x=some nd->nd.np=-1\/0<=nd.np\/nd.np=-2)/\(dM s.1.1 x=none->(∀y∈(aT s.1.1 x).succ,(ad s.1.1 y).isSome=true)/\s.1.2.length+(aT s.1.1 x).succ.length<=1000/\nq xs (gL s x))
noncomputable abbrev KK(a:Int)(st:Nat)(l:List (Str×V))(s:Qd):Sx:=kG a s.2 st l s.1
theorem tA(hy:bt e y σ (.f (.str x)))(h1:Nat.ble (Str.empty++c1).length aw=true)(hr:Nat.ble (reprText x).length aw=true)(h2:Nat.ble (Str.empty++c1++reprText x).length aw=true)(h3:Nat.ble (Str.empty++c1++reprText x++c2).length aw=true):
  SE e n (.JoinedStr [.Constant (.str c1) j1 p1,.FormattedValue (.Name y p2) 114 none p3,.Constant (.str c2) j2 p4] pos) σ (.ok (.f (.str (Str.empty++c1++reprText x++c2))) σ):=
 rq (gj aJ h1 (gj (De (ae hy) hr) h2 (gj aJ h3 qG)))
theorem xk(h:dM ns x=none):∃nd,ad ns x=some nd/\nd.np=-1/\aT ns x=nd:=by
 unfold dM at h;unfold aT;cases q:ad ns x with
|none=>rw[q]at h;cases h
|some nd=>
  rw[q]at h;refine⟨nd,rfl,?_,rfl⟩;haveI h:(match decide (nd.np=-1)with|true=>none|false=>match decide (0<=nd.np)with|true=>some (kQ x)|false=>some (jt x))=none:=h;cases q:decide (nd.np=-1)with
 |true=>exact of_decide_eq_true q
 |false=>rw[q]at h;cases w:decide (0<=nd.np)<;>rw[w]at h<;>cases h
structure HO(o:Option Str×Qd)(ps:List Str)(l:List (Str×V))(s:Qd):Prop where
 o:cM ps s=o
 g:nq ps s
 l1:ad l "self"=some (.p .self)
 l2:ad l "n2i"=some (.p .n2i)
set_option tactic.hygienic true in
theorem D7(hq:σ.q=some ⟨s.1.1,some s.1.2,a,s.2,none⟩)(hz:ps.length<=1000)(hg:nq ps s)(ho:cM ps s=o):bo (n+1) 22 (.p .self::ps.map fun p=>.f (.str p)) σ (match o.1 with
 |none=>.ok (.f .none) {σ with q:=some ⟨o.2.1.1,some o.2.1.2,a,o.2.2,none⟩}
 |some m=>.exc (.value m) {σ with q:=some ⟨o.2.1.1,some o.2.1.2,a,o.2.2,none⟩}):=by
 haveI hp:Nat.ble (ps.map F.str).length aw=true:=by rw[List.length_map];exact bA (Nat.le_refl _) hz
 refine' eC hq (dn:="done") rfl rfl xC (fun h1 h2=>bd.st h2 h1 ?l mT hp) ?s ?hB
 case l=>exact Nat.ble_eq_true_of_le (by rw[List.length_cons];exact Nat.le_add_left 1 _)
 case s=>
  refine List.all_eq_true.mpr fun v m=>?_;rcases List.mem_cons.mp m with rfl|m
  ·rfl
  ·obtain⟨p,_,rfl⟩:=List.mem_map.mp m;rfl
 case hB=>
  refine' bM (az (w:=.f .none) rfl (bB (fun u_=>rfl) (ae (.loc rfl rfl)) (i7 rfl rfl)) cw (kc (neg:=false))) (aD ?r1);refine' aC (aS (.loc rfl) rfl (bB (fun u_=>rfl) (ae (.loc rfl rfl)) (jZ rfl))) ?r2;refine' l8 (S:=Qd) (enc:=KK a σ.st) (l:=[("self",.p .self),("nodes",.f (.tup (ps.map F.str))),("n2i",.p .n2i)]) (s:=s) (fun u_ u_ u_=>rfl) (J:=HO o) (ae (.loc rfl rfl)) (fun u_ u_=>rfl) tC (.loc rfl) ⟨ho,hg,rfl,rfl⟩ ?h0 ?h1
  case h0=> intro l s j;refine aD ?_;cases(show(none,s)=o from j.o);exact tM rfl
  case h1=>
   intro p ps l s j;haveI n1:∀{l'':List (Str×V)},ad l'' "n2i"=ad l "n2i"->ad l'' "n2i"=some (.p .n2i):=fun h=>h.trans j.l2;haveI g:=j.g;cases hl:ad s.1.1 p with
  |none=> refine cu (az (w:=.f .none) rfl (pq (.loc rfl) (ba (fun u_=>rfl) rfl rfl (ae (.loc rfl ((aj rfl).trans j.l2))) (bL (mG rfl PySem.F.slot_dict_get PySem.F.type_dict_get) rfl (ai rfl (ae (.loc rfl aF)) an) (xP rfl hl).up))) cw (kH (neg:=false))) (oO (jg (.glob rfl rfl) rfl (tA (.loc rfl ((aj rfl).trans aF)) (by decide) g.1.r g.1.r1 g.1.a)) ?_);haveI ho:=j.o;unfold cM dM at ho;rw[hl]at ho;cases(show(some (mH p),s)=o from ho);exact iC rfl
  |some nd=>
    refine' bM (az (w:=.f .none) rfl (pq (.loc rfl) (ba (fun u_=>rfl) rfl rfl (ae (.loc rfl ((aj rfl).trans j.l2))) (bL (mG rfl PySem.F.slot_dict_get PySem.F.type_dict_get) rfl (ai rfl (ae (.loc rfl aF)) an) (yC rfl hl).up))) cw (kc (neg:=false))) (aD ?_);refine' aC (aS (.loc rfl) rfl (bB (fun u_=>rfl) (ae (.loc rfl aF)) (mj rfl hl))) ?_;haveI C1:∀τ,aQ .NotEq (.f (.int nd.np)) (.f (.int (-1))) τ ((nd.np==-1) != true):=fun τ=>bS (σ:=τ) (neg:=true) (iu (n:=6) (i:=nd.np) (j:=-1));rcases g.2.1 nd hl with hn|hn|hn
    ·rw[show((nd.np==-1) != true)=false from by rw[hn];rfl]at C1;haveI hm:dM s.1.1 p=none:=by unfold dM;rw[hl];dsimp only;rw[hn];rfl
     obtain⟨g1,g2,g3⟩:=g.2.2 hm;haveI ho:cM ps (gL s p)=o:=by haveI:=j.o;unfold cM at this;rw[hm]at this;exact this
     haveI hN:aT s.1.1 p=nd:=by unfold aT;rw[hl]
     refine' bM (az rfl (ae (.loc rfl aF)) (ae (.glob rfl rfl)) (C1 _)) (aD ?_);refine' aC (wU rfl (ae (.glob rfl rfl)) (ae (.loc rfl ((aj rfl).trans aF))) (oR rfl hl)) ?_;haveI hl2:ad (ag s.1.1 p {nd with np:=-2}) p=some {nd with np:=-2}:=aF;haveI hN2:aT (ag s.1.1 p {nd with np:=-2}) p={nd with np:=-2}:=by unfold aT;rw[hl2]
     rw[hN]at g1 g2;obtain⟨l',hD,H⟩:=Cs (st:=σ.st) (a:=a) (b:=s.2) (p:=p) (all:=nd.succ) (l:=ag (ag (ag l "node" (.f (.str p))) "nodeinfo" (.p (.nd p))) "stat" (.f (.int nd.np))) (s:=(ag s.1.1 p {nd with np:=-2},s.1.2)) ⟨(aj rfl).trans ((aj rfl).trans ((aj rfl).trans j.l2)),(aj rfl).trans ((aj rfl).trans ((aj rfl).trans j.l1)),fun y m=>ui (g1 y m),⟨by rw[hl2];rfl,by rw[hN2]⟩,g2⟩;refine aC (qm (bB (fun u_=>rfl) (ae (.loc rfl ((aj rfl).trans aF))) (ug rfl hl2)) (fun u_ u_=>rfl) (xu (.suc p _ _ rfl hl2 rfl)) (.loc rfl) H fun σ r hK=>?_) ?_
     ·obtain⟨l,s,y,ys,rfl,h,rfl⟩:=hK;exact Bt ((aj rfl).trans h.n2i) ((aj rfl).trans h.self) aF (h.nodes y (.head _)) (by haveI:=h.z;omega) rfl
     ·refine aC (oV (ae (.loc rfl hD.self)) (tJ rfl) aL nZ (Km rfl)) (aD ⟨l',gL s p,?_,ho,g3,hD.self,hD.n2i⟩);unfold gL;rw[hN]
    ·rw[show((nd.np==-1) != true)=true from by cases q:nd.np==-1 with|true=>haveI:=eq_of_beq q;omega|false=>rfl]at C1;refine cu (az rfl (ae (.loc rfl aF)) (ae (.glob rfl rfl)) (C1 _)) (cu (az rfl (ae (.loc rfl aF)) aL (decide_eq_true hn▸ur)) (oO (jg (.glob rfl rfl) rfl (tA (.loc rfl ((aj rfl).trans ((aj rfl).trans aF))) (by decide) g.1.r g.1.r1 g.1.b)) ?_));haveI ho:=j.o;unfold cM dM at ho;rw[hl]at ho;dsimp only at ho;rw[show decide (nd.np=-1)=false from decide_eq_false (by omega),show decide (0<=nd.np)=true from decide_eq_true hn]at ho;cases(show(some (kQ p),s)=o from ho);exact iC rfl
    ·rw[show((nd.np==-1) != true)=true from by rw[hn];rfl]at C1;haveI C2:∀τ,aQ .GtE (.f (.int nd.np)) (.f (.int 0)) τ false:=fun τ=>by haveI:=ur (σ:=τ) (i:=nd.np) (j:=0);rw[hn]at this ⊢;exact this
     haveI C3:∀τ,aQ .Eq (.f (.int nd.np)) (.f (.int (-2))) τ true:=fun τ=>by haveI:=bS (σ:=τ) (neg:=false) (iu (n:=6) (i:=nd.np) (j:=-2));rw[hn]at this ⊢;exact this
     refine cu (az rfl (ae (.loc rfl aF)) (ae (.glob rfl rfl)) (C1 _)) (bM (az rfl (ae (.loc rfl aF)) aL (C2 _)) (cu (az rfl (ae (.loc rfl aF)) (ae (.glob rfl rfl)) (C3 _)) (oO (jg (.glob rfl rfl) rfl (tA (.loc rfl ((aj rfl).trans ((aj rfl).trans aF))) (by decide) g.1.r g.1.r1 g.1.c)) ?_)));haveI ho:=j.o;unfold cM dM at ho;rw[hl]at ho;dsimp only at ho;rw[hn]at ho;cases(show(some (jt p),s)=o from ho);exact iC rfl
section
variable{e:Ev}{n:Nat}{σ σ₁ au bl cD:Sx}{x y o i t b:Expr}{lo hi:Option Expr}{v u w:V}{va vb:Option V}{pos p ps:Pos}{rs:aG V}
theorem cR(ho:SE e n o σ (.ok v σ₁))(h1:SO e n lo σ₁ (.ok va au))(h2:SO e n hi au (.ok vb bl))(hs:hH v va vb bl rs):SE e n (.Subscript o (.Slice lo hi none ps) pos) σ rs:=
 fun c i d Q p=>rg rfl (ho c i d _ fun d1 av l1 ra=>wpAny_Slice (h1 c i d1 _ fun d2 lv l2 rl=>h2 c i d2 _ fun d3 hv l3 rh=>wpAny_evalPart_none (hs c d3 av lv hv (VD.mono (Le.trans l2 l3) ra) (VO.mono l3 rl) rh _ (p.after (l1.trans (l2.trans l3))))))
theorem cc(hx:SE e n x σ (.ok v σ₁)):SO e n (some x) σ (.ok (some v) σ₁):=Bx hx
theorem tL(hs:iO x=true)(hx:SE e n x σ (.ok v σ₁))(ho:SE e n o σ₁ (.ok w au))(hi:SE e n i au (.ok u bl))(hk:jQ w u v bl (.ok () cD)):SS e n (.Assign [.Subscript o i p] x pos) σ (.ok .next cD):=fun c ii h d Q p=>
 wpAny_Assign_Subscript (hx c ii d _ fun d' a le r=>ho c ii d' _ fun am b bQ bY=>hi c ii am _ fun ay u' cC oF=>hk c ay b u' a _ (VD.mono cC bY) oF (VD.mono cC (VD.mono bQ r)) fun bH u_ gW u_=>fL (p.after (le.trans (bQ.trans (cC.trans gW))))) (pW hs)
theorem dY(he:∀env,isTrue x env (eval x env)=(do let v<-eval x env;standAt x.pos;holding [v] (truthy v)))(hx:SE e n x σ (.ok v σ₁))(ht:fX v σ₁ k):ST e n x σ (.ok k σ₁):=fun c i d Q p=>by rw[he];exact wpAny_bind (hx c i d _ fun d' a le ra=>wpAny_bind (wpAny_standAt (wpAny_holding (ht c d' a ra _ _ _ fun d'' z=>p d'' k (le.trans z) rfl))))
theorem Ao:ST e n (.Constant (.bool true) j pos) σ (.ok true σ):=dY (fun u_=>rfl) sK jH
end
noncomputable abbrev fk:=List (Str×Nat)
noncomputable def bj(rs:fk):List Str:=(rs.map (·.1)).reverse
noncomputable def eb:Nat->List Str->List (Str×F)
|_,[]=>[]
|k,x::r=>(x,.int (k:Int))::eb (k+1) r
noncomputable def bT(u:Str):List Str->Nat->Option Nat
|[],_=>none
|x::r,k=>match ah u x with
 |true=>some k
 |false=>bT u r (k+1)
noncomputable def kW(sc:Str->List Str):fk->Option (Str×fk)
|[]=>none
|(x,p)::r=>match aq (sc x) p with
 |some w=>some (w,(x,p+1)::r)
 |none=>kW sc r
noncomputable def dj(sc:Str->List Str):Nat->fk->List Str->Str->Option (List Str×Option (List Str))
|0,_,_,_=>none
|m+1,rs,sn,u=>match aO sn u with
 |true=>match bT u (bj rs) 0 with
  |some i=>some (sn,some ((bj rs).drop i++[u]))
  |none=>match kW sc rs with
   |none=>some (sn,none)
   |some (w,rs')=>dj sc m rs' sn w
 |false=>match kW sc ((u,0)::rs)with
  |none=>some (sn++[u],none)
  |some (w,rs')=>dj sc m rs' (sn++[u]) w
noncomputable def dh(sc:Str->List Str)(m:Nat):List Str->List Str->Option (Option (List Str))
|[],_=>some none
|u::us,sn=>match aO sn u with
 |true=>dh sc m us sn
 |false=>match dj sc m [] sn u with
  |none=>none
  |some (_,some ring)=>some (some ring)
  |some (sn',none)=>dh sc m us sn'
noncomputable def da(sc:Str->List Str)(m:Nat)(rs:fk)(sn:List Str):Option (List Str×Option (List Str)):=match kW sc rs with
|none=>some (sn,none)
|some (w,rs')=>dj sc m rs' sn w
theorem zQ(k:aO sn u=true)(h:bT u (bj rs) 0=some i):dj sc (m+1) rs sn u=some (sn,some ((bj rs).drop i++[u])):=by show(match aO sn u with|true=>(match bT u (bj rs) 0 with|some i=>_|none=>_)|false=>_)=_;rw[k,h]
theorem uj(k:aO sn u=true)(h:bT u (bj rs) 0=none):dj sc (m+1) rs sn u=da sc m rs sn:=by show(match aO sn u with|true=>(match bT u (bj rs) 0 with|some i=>_|none=>da sc m rs sn)|false=>_)=_;rw[k,h]
theorem tN(k:aO sn u=false):dj sc (m+1) rs sn u=da sc m ((u,0)::rs) (sn++[u]):=by show(match aO sn u with|true=>_|false=>da sc m ((u,0)::rs) (sn++[u]))=_;rw[k]
theorem wu:kW sc ((u,p)::rs)=match aq (sc u) p with
|some w=>some (w,(u,p+1)::rs)
|none=>kW sc rs:=rfl
theorem wD(h:aq (sc u) p=none):da sc m ((u,p)::rs) sn=da sc m rs sn:=by unfold da;rw[wu,h]
theorem oA(h:aq (sc u) p=some w):da sc m ((u,p)::rs) sn=dj sc m ((u,p+1)::rs) sn w:=by unfold da;rw[wu,h]
theorem qs:dh sc M (u::us) sn=match aO sn u with
|true=>dh sc M us sn
|false=>match dj sc M [] sn u with
 |none=>none
 |some (_,some r)=>some (some r)
 |some (sn',none)=>dh sc M us sn':=rfl
theorem yU(k:aO sn u=true):dh sc M (u::us) sn=dh sc M us sn:=by rw[qs,k]
theorem FN(k:aO sn u=false)(h:dj sc M [] sn u=none):dh sc M (u::us) sn=none:=by rw[qs,k,h]
theorem wp(k:aO sn u=false)(h:dj sc M [] sn u=some (sn',none)):dh sc M (u::us) sn=dh sc M us sn':=by rw[qs,k,h]
theorem wb(k:aO sn u=false)(h:dj sc M [] sn u=some (sn',some r)):dh sc M (u::us) sn=some (some r):=by rw[qs,k,h]
theorem yW:∀{S:List Str}{k:Nat},ad (eb k S) u=(bT u S k).map fun i=>F.int (i:Int):=by
 intro S
 induction S with
|nil=> intro _;exact rfl
|cons x r ih=>
  intro k;unfold eb ad bT;cases ah u x with
 |true=>rfl
 |false=>exact ih
theorem AR:∀{S:List Str}{k:Nat},(bT u S k).isSome=aO S u:=by
 intro S
 induction S with
|nil=> intro _;exact rfl
|cons x r ih=>
  intro k;unfold bT aO;cases ah u x with
 |true=>rfl
 |false=>exact ih
theorem BD:∀{S:List Str}{k:Nat},aO S u=false->ag (eb k S) u (.int ((k+S.length:Nat):Int))=eb k (S++[u]):=by
 intro S
 induction S with
|nil=> intro _ _;exact rfl
|cons x r ih=>
  intro k h;haveI h:(match ah u x with|true=>true|false=>aO r u)=false:=h;cases q:ah u x with
 |true=>rw[q]at h;cases h
 |false=> rw[q]at h;show ag ((x,F.int (k:Int))::eb (k+1) r) u _=(x,F.int (k:Int))::eb (k+1) (r++[u]);rw[gf];rw[q];haveI:=ih (k:=k+1) h;rw[Nat.add_right_comm]at this;exact congrArg _ this
theorem GN:∀{S:List Str}{k:Nat},aO S u=false->gq u (eb k (S++[u]))=eb k S:=by
 intro S
 induction S with
|nil=> intro k _;show(match ah u u with|true=>[]|false=>_)=_;rw[bU];rfl
|cons x r ih=>
  intro k h;haveI h:(match ah u x with|true=>true|false=>aO r u)=false:=h;cases q:ah u x with
 |true=>rw[q]at h;cases h
 |false=> rw[q]at h;show(match ah u x with|true=>_|false=>(x,F.int (k:Int))::gq u (eb (k+1) (r++[u])))=_;rw[q];exact congrArg _ (ih h)
theorem vk:∀{S:List Str}{k:Nat},(eb k S).length=S.length:=by
 intro S
 induction S with
|nil=> intro _;exact rfl
|cons _ _ ih=> intro _;exact congrArg (·+1) ih
set_option tactic.hygienic true in
noncomputable def ll(Mid:Sx->Prop)(C:aG Fl->Prop)(r:aG Fl):Prop:=match r with
|.ok .next σ=>Mid σ
|r=>C r
theorem EB.mono(h:EB e n body σ D)(f:∀r,D r->C r):EB e n body σ C:=⟨h.choose,h.choose_spec.1,f _ h.choose_spec.2⟩
theorem mn(h:∀D:aG Fl->Prop,(∀r,C r->D r)->EB e n body σ D):EB e n body σ C:=h C fun u_ x=>x
theorem sP(h:C (.ok .brk σ)):EB e n (.Break pos::rest) σ C:=gO DP h
theorem Go(h:C (.ok .cont σ)):EB e n (.Continue pos::rest) σ C:=gO Dp h
theorem oL(Mid:Sx->Prop)(ht:ST e n t σ (.ok k σ₁))(h:∀af,Mid af->EB e n rest af C)(h1:k=true->EB e n body σ₁ (ll Mid C))(h2:k=false->EB e n orelse σ₁ (ll Mid C)):EB e n (.If t body orelse pos::rest) σ C:=by
 haveI f:∀r,ll Mid C r->dK e n rest C r:=fun r j=>by
  cases r with
 |ok fl af=>cases fl<;>first|exact h af j|exact j
 |_=>exact j
 exact nX ht (fun q=>(h1 q).mono f) fun q=>(h2 q).mono f
noncomputable def rJ(ns:List (Str×aZ)):fk->Prop
|[]=>True
|(x,_)::r=>aO (bj r) x=false/\(ad ns x).isSome=true/\rJ ns r
theorem Ae(H:∀{rs:fk}{sn sn':List Str}{u:Str}{o:Option (List Str)},dj sc m rs sn u=some (sn',o)->sn'.length<=sn.length+m)(h:da sc m rs sn=some (sn',o)):sn'.length<=sn.length+m:=by
 unfold da at h;cases q:kW sc rs with
|none=>rw[q]at h;cases h;exact Nat.le_add_right _ _
|some w=>rw[q]at h;exact H h
theorem CP:∀{rs:fk}{sn sn':List Str}{u:Str}{o:Option (List Str)},dj sc m rs sn u=some (sn',o)->sn'.length<=sn.length+m:=by
 induction m with
|zero=>intro _ _ _ _ _ h;cases h
|succ m ih=>
  intro rs sn sn' u o h;cases q:aO sn u with
 |true=>cases q2:bT u (bj rs) 0 with
  |some i=>rw[zQ q q2]at h;cases h;exact Nat.le_add_right _ _
  |none=>rw[uj q q2]at h;exact Nat.le_succ_of_le (Ae ih h)
 |false=> rw[tN q]at h;haveI:=Ae ih h;rw[List.length_append,Nat.add_assoc,Nat.add_comm _ m]at this;exact this
noncomputable abbrev jB(q:bW)(st:Nat)(l:List (Str×V))(s:fk×List Str):Sx:=⟨l,some q,[.list ((bj s.1).map F.str),.iters s.1.reverse,.set s.2,.dict (eb 0 (bj s.1))],st⟩
structure kt(l:List (Str×V)):Prop where
 n2i:ad l "n2i"=some (.p .n2i)
 stack:ad l "stack"=some (.p (.loc 0))
 its:ad l "itstack"=some (.p (.loc 1))
 seen:ad l "seen"=some (.p (.loc 2))
 ix:ad l "node2stacki"=some (.p (.loc 3))
theorem kt.put(h:kt l):kt (ag l "node" v):=⟨(aj rfl).trans h.n2i,(aj rfl).trans h.stack,(aj rfl).trans h.its,(aj rfl).trans h.seen,(aj rfl).trans h.ix⟩
inductive wn(q:bW)(st:Nat)(sc:Str->List Str)(o:List Str×Option (List Str))(m:Nat)(σ:Sx):Prop
|mk (l:List (Str×V)) (rs:fk) (sn:List Str) (u:Str):σ=jB q st l (rs,sn)->kt l->ad l "node"=some (.f (.str u))->(ad q.n2i u).isSome=true->dj sc m rs sn u=some o->rJ q.n2i rs->(∀u,aO (bj rs) u=true->aO sn u=true)->m+rs.length<=900->m+sn.length<=900->wn q st sc o m σ
inductive vz(q:bW)(st:Nat)(sc:Str->List Str)(o:List Str×Option (List Str))(m:Nat)(l:List (Str×V))(σ:Sx):Prop
|mk (rs:fk) (sn:List Str):σ=jB q st l (rs,sn)->rJ q.n2i rs->(∀u,aO (bj rs) u=true->aO sn u=true)->m+rs.length<=900->m+sn.length<=900->da sc m rs sn=some o->vz q st sc o m l σ
inductive Ba(q:bW)(st:Nat)(sc:Str->List Str)(M:Nat)(res:Option (List Str))(xs:List F)(σ:Sx):Prop
|mk (us:List Str) (l:List (Str×V)) (sn:List Str):xs=us.map F.str->σ=jB q st l ([],sn)->kt l->dh sc M us sn=some res->(∀u∈us,(ad q.n2i u).isSome=true)->sn.length+us.length*M<=800->Ba q st sc M res xs σ
inductive wt(q:bW)(st:Nat)(sc:Str->List Str)(o:List Str×Option (List Str))(m:Nat)(l:List (Str×V))(sn:List Str)(j:Nat)(σ:Sx):Prop
|mk (rs:fk):σ=jB q st l (rs,sn)->j=rs.length->rJ q.n2i rs->(∀u,aO (bj rs) u=true->aO sn u=true)->m+rs.length<=900->da sc m rs sn=some o->wt q st sc o m l sn j σ
noncomputable abbrev Jq:List (Str×NameKind):=[("self",.local),("n2i",.local),("stack",.local),("itstack",.local),("seen",.local),("node2stacki",.local),("node",.local),("set",.globalImplicit),("iter",.globalImplicit),("len",.globalImplicit),("StopIteration",.globalImplicit)]
theorem CL:ci (fh "_find_cycle") ["self"] none Jq:=⟨by kernel_rfl,by kernel_rfl,by kernel_rfl⟩
noncomputable def jM:Option (List Str)->V
|none=>.f .none
|some r=>.f (.list (r.map F.str))
theorem Hc{mk:Str->F}(hq:σ.q=some q):iB q.n2i.length (fun x=>.f (mk x)) i σ=bw (q.n2i.map fun p=>mk p.1) i σ:=by unfold iB bw;rw[hq];dsimp only;rw[show Nat.beq q.n2i.length q.n2i.length=true from Nat.beq_refl _];dsimp only;rw[bC,bC,List.getElem?_map];cases q.n2i[i]?<;>rfl
theorem jp{i:Nat}:cut xs (some (i:Int)) none=xs.drop i:=by
 show(xs.take xs.length).drop (Nat.min i xs.length)=xs.drop i;rw[List.take_length];rcases Nat.le_total i xs.length with h|h
 ·rw[show Nat.min i xs.length=i from Nat.min_eq_left h]
 ·rw[show Nat.min i xs.length=xs.length from Nat.min_eq_right h,List.drop_length,List.drop_eq_nil_of_le h]
theorem wS:gZ (eb 0 S) u=(bT u S 0).isSome:=by unfold gZ;rw[yW];cases bT u S 0<;>rfl
theorem uA:(!(xs++[y]).isEmpty)=true:=by cases xs<;>rfl
theorem sU:(bj rs).length=rs.length:=by unfold bj;rw[List.length_reverse,List.length_map]
theorem lz(h:n<=k)(hk:k<=2000):Nat.ble n aw=true:=Nat.ble_eq_true_of_le (Nat.le_trans h (Nat.le_trans hk (by decide)))
set_option tactic.hygienic true in
theorem vX{res:Option (List Str)}(hq:σ.q=some ⟨ns,rd,a,b,none⟩)(hs:∀x y,(ad ns x).isSome=true->y∈(aT ns x).succ->(ad ns y).isSome=true)(hM:(ns.length+1)*M<=800)(hk:∀p∈ns,(ad ns p.1).isSome=true)(hr:dh (fun x=>(aT ns x).succ) M (ns.map (·.1)) []=some res):
  bo (n+1) 24 [.p .self] σ (.ok (jM res) {σ with q:=some ⟨ns,rd,a,b,none⟩}):=by
 generalize hqq:(⟨ns,rd,a,b,none⟩:bW)=q at hq ⊢;have eq1:q.n2i=ns:=by rw[<- hqq]
 subst eq1;clear hqq;generalize hsc:(fun x=>(aT q.n2i x).succ)=sc at hr;have hs':∀x y,(ad q.n2i x).isSome=true->y∈sc x->(ad q.n2i y).isSome=true:=by rw[<- hsc];exact hs
 refine' eC hq (dn:="_find_cycle") rfl rfl CL (fun h1 h2=>bd.pl h2 h1 rfl) rfl ?hB;refine' aC (aS (.loc rfl) rfl (bB (fun u_=>rfl) (ae (.loc rfl rfl)) (jZ rfl))) (aC (aS (.loc rfl) rfl mO) (aC (aS (.loc rfl) rfl Dx) (aC (aS (.loc rfl) rfl (bf (.glob rfl rfl) rfl an (cx (by decide +kernel) BB))) (aC (aS (.loc rfl) rfl wx) ?hC))));refine' AE (J:=Ba q σ.st sc M res) (xs:=q.n2i.map fun p=>F.str p.1) ?hnx (ae (.loc rfl rfl)) (fun u_ u_=>rfl) (GF rfl) (.loc rfl) ?j ?h0 ?h1
 case hnx=>rintro i xs' τ ⟨us,l,sn,_,rfl,_⟩;exact Hc (mk:=F.str) rfl
 case j=>exact⟨q.n2i.map (·.1),_,[],List.map_map.symm▸rfl,rfl,⟨rfl,rfl,rfl,rfl,rfl⟩,hr,fun u m=>by obtain⟨p,h,rfl⟩:=List.mem_map.mp m;exact hk p h,by rw[List.length_map];show 0+_<=800;rw[Nat.succ_mul]at hM;lia⟩
 case h0=>
  intro τ o_;obtain⟨us,l,sn,e,rfl,hl,hd,_⟩:=o_;cases us with
 |cons _ _=>cases e
 |nil=> cases(show some none=some res from hd);exact cN cw (bZ (.same _ rfl) rfl)
 case h1=>
  intro a xs τ o_;obtain⟨us,l,sn,e,rfl,hl,hd,hu,hz⟩:=o_;cases us with
 |nil=>cases e
 |cons u us=>
   cases(e);rw[List.length_cons,Nat.succ_mul]at hz;have hl':kt (ag l "node" (.f (.str u))):=hl.put;have C1:∀τ,aq τ.h 2=some (.set sn)->aQ .In (.f (.str u)) (.p (.loc 2)) τ (aO sn u):=fun τ h=>by have:=yk (u:=u) (neg:=false) h;rw[Bool.bne_false]at this;exact this
   refine' nX (az rfl (ae (.loc rfl aF)) (ae (.loc rfl hl'.seen)) (C1 _ rfl)) ?s1 ?s2
   case s1=> intro k;rw[yU k]at hd;exact Go ⟨us,_,sn,rfl,rfl,hl',hd,fun v m=>hu v (.tail _ m),by lia⟩
   case s2=>
    intro k;refine aD ?_;cases ho:dj sc M [] sn u with
   |none=>rw[FN k ho]at hd;cases(hd)
   |some o=>
     refine mn fun D hD=>?_;have hB:∀l sn',kt l->o=(sn',none)->D (.ok .next (jB q σ.st l ([],sn'))):=fun l sn' h e=>hD _ (by subst e;have hz':=CP ho;rw[wp k ho]at hd;exact⟨us,l,sn',rfl,rfl,h,hd,fun v m=>hu v (.tail _ m),by lia⟩)
     have hR:∀τ sn' ring,o=(sn',some ring)->τ.q=some q->τ.st=σ.st->D (.ok (.ret (.f (.list (ring.map F.str)))) τ):=fun τ sn' ring e hq2 hs2=>hD _ (by subst e;rw[wb k ho]at hd;cases hd;refine(show dC false σ (.ok (.ret (.f (.list (ring.map F.str)))) τ) _ from bZ (.same _ rfl) ?_);show({σ with q:=τ.q,st:=τ.st}:Sx)=_;rw[hq2,hs2])
     have hz2:M+sn.length<=900:=by lia
     have hu2:=hu u (.head _);clear hD hd C1 hk hM hr hs hz hu;refine' jP (J:=wn q σ.st sc o) M ⟨_,[],sn,u,rfl,hl',aF,hu2,ho,trivial,fun u_ h=>(by cases h),(by show M+0<=900;lia),hz2⟩ ?w;have hsc':∀x,sc x=(aT q.n2i x).succ:=fun x=>by rw[<- hsc]
     clear hz2 hu2 ho hl hl' hsc;intro m τ o_;obtain⟨l,rs,sn,u,rfl,hl,hu,hk,hd,hN,hsub,z1,z2⟩:=o_;cases m with
    |zero=>cases hd
    |succ m=>
     refine⟨true,_,Ao,?_⟩;have C1:∀τ,aq τ.h 2=some (.set sn)->aQ .In (.f (.str u)) (.p (.loc 2)) τ (aO sn u):=fun τ h=>by have:=yk (u:=u) (neg:=false) h;rw[Bool.bne_false]at this;exact this
     have C2:∀τ,aq τ.h 3=some (.dict (eb 0 (bj rs)))->aQ .In (.f (.str u)) (.p (.loc 3)) τ (bT u (bj rs) 0).isSome:=fun τ h=>by have:=xO (u:=u) (neg:=false) (iy.loc 3 h);rw[Bool.bne_false,wS]at this;exact this
     have zs:(bj rs).length<=1000:=by rw[sU];lia
     refine' oL (vz q σ.st sc o m l) (az rfl (ae (.loc rfl hu)) (ae (.loc rfl hl.seen)) (C1 _ rfl)) ?mid ?s1 ?s2
     case s1=>
      intro k;cases hi:bT u (bj rs) 0 with
     |some i=>
       rw[zQ k hi]at hd;rw[hi]at C2;cases hd;have L:ad (eb 0 (bj rs)) u=some (.int (i:Int)):=by rw[yW,hi];rfl
       refine cu (az rfl (ae (.loc rfl hu)) (ae (.loc rfl hl.ix)) (C2 _ rfl)) (cN (aR (cR (ae (.loc rfl hl.stack)) (cc (bh (ae (.loc rfl hl.ix)) (ae (.loc rfl hu)) (fM (.loc 3 rfl) L))) er (j8 rfl rfl (.p _ (.loc 0 rfl)) ?z1)) (bq (ai rfl (ae (.loc rfl hu)) an) rfl rfl) (jr .f .f ?z2)) ?r)
       case z1=>rw[List.length_map];exact lz zs (by decide)
       case z2=>rw[jp,List.length_drop,List.length_map];exact lz (k:=1001) (Nat.succ_le_succ (Nat.le_trans (Nat.sub_le _ _) zs)) (by decide)
       case r=> rw[jp,<-List.map_drop,show ∀ys:List Str,ys.map F.str++[F.str u]=(ys++[u]).map F.str from fun ys=>(List.map_append (l₂:=[u])).symm];exact hR _ _ _ rfl rfl rfl
     |none=> rw[uj k hi]at hd;rw[hi]at C2;exact bM (az rfl (ae (.loc rfl hu)) (ae (.loc rfl hl.ix)) (C2 _ rfl)) (aD (aD ⟨rs,sn,rfl,hN,hsub,by lia,by lia,hd⟩))
     case s2=>
      intro k;rw[tN k]at hd;have hx:=nV hk;have hS:aO (bj rs) u=false:=by cases h:aO (bj rs) u with|false=>rfl|true=>rw[hsub u h]at k;cases k
      refine aC (fu (ba (fun u_=>rfl) rfl rfl (ae (.loc rfl hl.seen)) (bL (BF rfl) rfl (ai rfl (ae (.loc rfl hu)) an) (EG rfl (Nat.ble_eq_true_of_le (show sn.length<=1000 by lia))).up)) rfl) ?_;refine aC (GA (i:=1) (x:=u) (its:=rs.reverse) (q:=q) (.loc rfl hl.its) rfl (.glob rfl rfl) (bB (fun u_=>rfl) (bh (ae (.loc rfl hl.n2i)) (ae (.loc rfl hu)) (uc rfl hx)) (ug rfl hx)) rfl hx (by rw[List.length_reverse];exact lz (k:=900) (by lia) (by decide)) rfl rfl) ?_;refine aC (tL rfl (bf (.glob rfl rfl) rfl (ai rfl (ae (.loc rfl hl.stack)) an) (cx (.head _) (kM (.p _ (.loc 0 rfl)) (by rw[List.length_map];exact lz zs (by decide))))) (ae (.loc rfl hl.ix)) (ae (.loc rfl hu)) (xy rfl (by rw[vk];exact lz zs (by decide)))) ?_;refine aC (fu (ba (fun u_=>rfl) rfl rfl (ae (.loc rfl hl.stack)) (bL (gG (.p _ (.loc 0 rfl)) PySem.F.slot_list_append PySem.F.type_list_append) rfl (ai rfl (ae (.loc rfl hu)) an) (jY (.loc 0 rfl) (.loc 0 _ rfl) (by rw[List.length_map];exact lz zs (by decide))).up)) rfl) (aD ⟨(u,0)::rs,sn++[u],?_,⟨hS,hk,hN⟩,fun v hv=>?_,by rw[List.length_cons];lia,by rw[List.length_append,List.length_singleton];lia,hd⟩)
      ·unfold jB;rw[show bj ((u,0)::rs)=bj rs++[u]from List.reverse_cons,List.map_append,<-BD hS,show((u,0)::rs).reverse=rs.reverse++[(u,0)]from List.reverse_cons,show sn++[u]=jm sn u from by unfold jm;rw[k],Nat.zero_add,<-List.length_map (f:=F.str)];rfl
      ·rw[show bj ((u,0)::rs)=bj rs++[u]from List.reverse_cons,nY]at hv;rw[nY];cases h:aO (bj rs) v with
      |true=>rw[hsub v h];rfl
      |false=>rw[h]at hv;rw[show ah v u=true from hv];exact Bool.or_true _
     case mid=>
      clear hd hN hsub z1 z2 C1 C2 zs hu hk;intro τ o_;obtain⟨rs,sn,rfl,hN,hsub,z1,z2,hd⟩:=o_;refine jP (J:=wt q σ.st sc o m l sn) rs.length ⟨rs,rfl,rfl,hN,hsub,z1,hd⟩ ?_;clear hN hsub z1 hd;intro j τ o_;obtain⟨rs,rfl,rfl,hN,hsub,z1,hd⟩:=o_;cases rs with
     |nil=> cases(show some (sn,none)=some o from hd);exact⟨false,_,dY (fun u_=>rfl) (ae (.loc rfl hl.stack)) (ki (xs:=[]) (.p _ (.loc 0 rfl)) rfl),sP (aD (hB l sn hl rfl))⟩
     |cons xp r=>
       obtain⟨x,p⟩:=xp;have eS:bj ((x,p)::r)=bj r++[x]:=List.reverse_cons;have h0:aq (jB q σ.st l ((x,p)::r,sn)).h 0=some (.list ((bj r).map F.str++[F.str x])):=by show some (AO.list ((bj ((x,p)::r)).map F.str))=_;rw[eS,List.map_append];rfl
       have h1:aq (jB q σ.st l ((x,p)::r,sn)).h 1=some (.iters (r.reverse++[(x,p)])):=by show some (AO.iters ((x,p)::r).reverse)=_;rw[List.reverse_cons]
       have hx:=nV hN.2.1;have z3:m+r.length<=899:=by rw[List.length_cons]at z1;lia
       have zr:r.length<=899:=Nat.le_trans (Nat.le_add_left _ _) z3;have zl:Nat.ble ((bj r).map F.str++[F.str x]).length aw=true:=by rw[List.length_append,List.length_map,sU];exact lz (k:=900) (by show _+1<=_;lia) (by decide)
       have zi:Nat.ble (r.reverse.length+1) aw=true:=by rw[List.length_reverse];exact lz (k:=900) (by lia) (by decide)
       refine⟨true,_,dY (fun u_=>rfl) (ae (.loc rfl hl.stack)) (show fX _ _ true from uA▸ki (.p _ (.loc 0 h0)) zl),?_⟩;cases hw:aq (sc x) p with
      |some w=> rw[oA hw]at hd;refine gO (Kq (i:=1) (its:=r.reverse) (x:=x) (p:=p) (.loc rfl hl.its) (gD aL) h1 zi rfl hx (by rw[<- hsc'];exact hw) (.loc rfl)) (aD ⟨m,Nat.lt_succ_self m,ag l "node" (.f (.str w)),(x,p+1)::r,sn,w,?_,hl.put,aF,hs' x w hN.2.1 (by rw[bC]at hw;exact List.mem_of_getElem? hw),hd,hN,hsub,z1,z2⟩);show(⟨_,_,[_,.iters (r.reverse++[(x,p+1)]),_,_],_⟩:Sx)=_;rw[<- List.reverse_cons];rfl
      |none=>
        rw[wD hw]at hd;refine aC (IZ (i:=1) (its:=r.reverse) (x:=x) (p:=p) (i₂:=3) (j:=0) (u:=x) (xs:=(bj r).map F.str) (.loc rfl hl.its) (gD aL) h1 zi rfl hx (by rw[<- hsc'];exact hw) (.glob rfl rfl) rfl (.loc rfl hl.ix) (.loc rfl hl.stack) (.loc rfl hl.its) rfl rfl h0 rfl rfl ?hu rfl rfl rfl zl ?z2) (aD ⟨r.length,Nat.lt_succ_self _,r,?_,rfl,hN.2.2,fun v hv=>hsub v (by rw[eS,nY,hv];rfl),Nat.le_succ_of_le z3,hd⟩)
        case hu=>rw[wS,AR,eS,nY,bU,Bool.or_true]
        case z2=>rw[vk,sU];exact lz (k:=900) (show r.length+1<=900 from Nat.succ_le_succ zr) (by decide)
        show(⟨_,_,[_,_,_,.dict (gq x (eb 0 (bj ((x,p)::r))))],_⟩:Sx)=_;rw[eS,GN hN.1]
theorem Bz(h:(ad e.names n=some .cell/\ad l n=some v)\/(ad e.names n=some .free/\ad e.free n=some v)):kh e l (n,.free)=some v:=by
 show(bif ad e.names n==some .cell then ad l n else ad e.free n)=some v;rcases h with⟨h1,h2⟩|⟨h1,h2⟩
 ·rw[h1];exact h2
 ·rw[h1];exact h2
theorem ia(h:(ad e.names n=some .cell/\ad l n=some v)\/(ad e.names n=some .free/\ad e.free n=some v))(q:ad ns n=some .free):ad (bG e l ns) n=some v:=by
 induction ns with
|nil=>cases q
|cons p r ih=>
  obtain⟨x,k⟩:=p;haveI q:(match ah n x with|true=>some k|false=>ad r n)=some .free:=q;show ad (match kh e l (x,k)with|some v=>(x,v)::bG e l r|none=>bG e l r) n=some v;cases w:ah n x with
 |true=> rw[w]at q;cases(show k=.free from Option.some.inj q);rw[<- bD.mp w,Bz h];show(match ah n n with|true=>_|false=>_)=_;rw[bU]
 |false=>
   rw[w]at q;cases kh e l (x,k)with
  |none=>exact ih q
  |some u=> show(match ah n x with|true=>_|false=>_)=_;rw[w];exact ih q
theorem cS(h:ad ns n=some .free)(h1:ad e.names n=some .cell)(h2:ad l n=some v):bt ⟨ns,bG e l ns⟩ n σ v:=.free h (ia (.inl ⟨h1,h2⟩) h)
theorem um(h:ad ns n=some .free)(h1:ad e.names n=some .free)(h2:ad e.free n=some v):bt ⟨ns,bG e l ns⟩ n σ v:=.free h (ia (.inr ⟨h1,h2⟩) h)
noncomputable abbrev fE(σ:Sx)(y:Str)(v:V)(acc:List F):Sx:=⟨[(y,v)],σ.q,σ.h++[.list acc],σ.st⟩
section
variable{α:Type}{e:Ev}{n:Nat}{σ σ₁ au:Sx}{elt it:Expr}{sc:Scope}{pos py px ps:Pos}{x y:Str}{ifs:List Expr}{v:V}{xs:List α}{item:α->V}{keep:α->Bool}{val:α->F}{nx:Nx}
theorem lC:bc (h++[a]) h.length b=h++[b]:=by
 induction h with
|nil=>rfl
|cons c h ih=>exact congrArg (c::·) ih
theorem fR:aq (h++[a]) h.length=some a:=by rw[bC,List.getElem?_append_right (Nat.le_refl _),Nat.sub_self];rfl
structure kl(e:Ev)(n:Nat)(elt:Expr)(sc:Scope)(y:Str)(ifs:List Expr)(σ:Sx)(xs:List α)(item:α->V)(keep:α->Bool)(val:α->F):Prop where
 t:∀a∈xs,∀acc,ly (kK sc e σ.l) n ifs (fE σ y (item a) acc) (keep a) (fE σ y (item a) acc)
 g:∀a∈xs,keep a=true->∀acc,SE (kK sc e σ.l) n elt (fE σ y (item a) acc) (.ok (.f (val a)) (fE σ y (item a) acc))
 z:xs.length<=1000
section
variable{T:Sx->Bool->Sx->Prop}{G:Sx->Sx->Prop}{m i:Nat}
theorem Dh(h:nx i σ=some none):SLoop nx y T G (m+1) i σ σ:=by rw[js];rw[h]
theorem Cg(h:nx i σ=some (some v))(hT:T {σ with l:=ag σ.l y v} false σ₁)(r:SLoop nx y T G m (i+1) σ₁ af):SLoop nx y T G (m+1) i σ af:=by rw[js];rw[h];exact⟨false,_,hT,r⟩
theorem KL(h:nx i σ=some (some v))(hT:T {σ with l:=ag σ.l y v} true σ₁)(hG:G σ₁ au)(r:SLoop nx y T G m (i+1) au af):SLoop nx y T G (m+1) i σ af:=by rw[js];rw[h];exact⟨true,_,hT,_,hG,r⟩
theorem JW(h:xs.drop i=a::ys):xs[i]?=some a/\xs.drop (i+1)=ys/\i < xs.length:=by
 haveI hlt:xs[i]?=some a:=by haveI:=congrArg (fun l=>l[0]?) h;rw[List.getElem?_drop]at this;exact this
 exact⟨hlt,by rw[<- List.drop_drop,h];rfl,(List.getElem?_eq_some_iff.mp hlt).1⟩
theorem GY(hl:l=[]\/∃w,l=[(y,w)]):ag l y v=[(y,v)]:=by
 rcases hl with rfl|⟨w,rfl⟩
 ·rfl
 ·show(match ah y y with|true=>[(y,v)]|false=>_)=_;rw[bU]
theorem Kr(hz:xs.length<=1000)(hnx:∀i l acc,nx i ⟨l,σ.q,σ.h++[AO.list acc],σ.st⟩=some (xs[i]?.map item))(hT:∀a∈xs,∀acc,T (fE σ y (item a) acc) (keep a) (fE σ y (item a) acc))(hG:∀a∈xs,keep a=true->∀acc:List F,acc.length<=1000->G (fE σ y (item a) acc) (fE σ y (item a) (acc++[val a])))(ys:List α):
  ∀(i:Nat)(acc:List F)(l:List (Str×V)),xs.drop i=ys->acc.length<=i->(l=[]\/∃w,l=[(y,w)])->∃l',SLoop nx y T G (ys.length+1) i ⟨l,σ.q,σ.h++[.list acc],σ.st⟩ ⟨l',σ.q,σ.h++[.list (acc++(ys.filter keep).map val)],σ.st⟩:=by
 induction ys with
|nil=>exact fun i acc l hd u_ u_=>⟨l,(List.append_nil acc).symm▸Dh ((hnx i l acc).trans (by rw[List.getElem?_eq_none_iff.mpr (List.drop_eq_nil_iff.mp hd)];rfl))⟩
|cons a ys ih=>
  intro i acc l hd hi hl;obtain⟨e1,e2,e3⟩:=JW hd;haveI hn:nx i ⟨l,σ.q,σ.h++[AO.list acc],σ.st⟩=some (some (item a)):=(hnx i l acc).trans (by rw[e1];rfl);haveI ha:=List.mem_of_getElem? e1;haveI ht:T ⟨ag l y (item a),σ.q,σ.h++[.list acc],σ.st⟩ (keep a) (fE σ y (item a) acc):=by rw[GY hl];exact hT a ha acc
  clear hd hl hnx hT e1;cases k:keep a with
 |false=> obtain⟨l',H⟩:=ih (i+1) acc [(y,item a)] e2 (Nat.le_succ_of_le hi) (.inr ⟨_,rfl⟩);rw[k]at ht;exact⟨l',(List.filter_cons_of_neg (p:=keep) (a:=a) (l:=ys) (by rw[k];exact Bool.false_ne_true)).symm▸Cg hn ht H⟩
 |true=> obtain⟨l',H⟩:=ih (i+1) (acc++[val a]) [(y,item a)] e2 (by rw[List.length_append];exact Nat.succ_le_succ hi) (.inr ⟨_,rfl⟩);rw[k]at ht;rw[List.append_assoc]at H;exact⟨l',(List.filter_cons_of_pos (p:=keep) (l:=ys) k).symm▸KL hn ht (hG a ha k acc (Nat.le_trans hi (Nat.le_trans (Nat.le_of_lt e3) hz))) H⟩
end
theorem qL(A:kl e n elt sc y ifs σ xs item keep val)(hnx:∀i l acc,nx i ⟨l,σ.q,σ.h++[AO.list acc],σ.st⟩=some (xs[i]?.map item))(hs:bX v σ nx):∃l',ox e n elt [⟨.Name y py,it,ifs,0⟩] sc pos y ifs v σ ⟨l',σ.q,σ.h++[.list ((xs.filter keep).map val)],σ.st⟩:=by
 obtain⟨l',H⟩:=Kr (y:=y) (T:=fun τ k cJ=>∃a acc,a∈xs/\τ=fE σ y (item a) acc/\cJ=τ/\k=keep a) (G:=fun τ cJ=>∃a acc,a∈xs/\keep a=true/\acc.length<=1000/\τ=fE σ y (item a) acc/\cJ=fE σ y (item a) (acc++[val a])) (keep:=keep) (val:=val) A.z hnx (fun a m acc=>⟨a,acc,m,rfl,rfl,rfl⟩) (fun a m k acc h=>⟨a,acc,m,k,h,rfl,rfl⟩) xs 0 [] [] rfl (Nat.le_refl _) (.inl rfl);refine⟨l',.mk nx _ _ _ hs (fun τ k cJ h=>?_) (fun τ cJ h=>?_) H⟩
 ·obtain⟨a,acc,ha,rfl,rfl,rfl⟩:=h;exact A.t a ha acc
 ·obtain⟨a,acc,ha,k,hz,rfl,rfl⟩:=h;haveI:=yJ (gens:=[⟨.Name y py,it,ifs,0⟩]) (sc:=sc) (pos:=pos) (dep:=0) (j:=σ.h.length) rfl (A.g a ha k acc) fR (bA hz (by decide));rw[show bc (fE σ y (item a) acc).h σ.h.length (.list (acc++[val a]))=σ.h++[.list (acc++[val a])]from lC]at this;exact this
theorem mM(hset:∀(env:Env)v,foldedSetIterable it env v=pure v)(S:eE sc e y)(hx:SE e n it σ (.ok v σ₁))(hs:bX v σ₁ nx)(hnx:∀i τ,τ.q=σ₁.q->nx i τ=some (xs[i]?.map item))(A:kl e n elt sc y ifs σ₁ xs item keep val)(hd:ew σ₁.h.length σ₁.h=true):
  SE e n (.ListComp elt [⟨.Name y py,it,ifs,0⟩] sc pos) σ (.ok (.f (.list ((xs.filter keep).map val))) σ₁):=
 pZ (rx:=.ok v σ₁) (f:=fun u_ u_=>.ok (.f (.list ((xs.filter keep).map val))) σ₁) hset S hx fun w τ q=>by cases(q);obtain⟨l',L⟩:=qL (py:=py) (it:=it) (pos:=pos) A (fun i u_ u_=>hnx i _ rfl) hs;exact .ok ⟨l',σ₁.q,σ₁.h++[AO.list ((xs.filter keep).map val)],σ₁.st⟩ σ₁.h _ L rfl rfl hd
theorem Ij(hset:∀(env:Env)v,foldedSetIterable it env v=pure v)(S:eE sc e y)(hx:SE e n it σ (.ok v σ₁))(hs:bX v σ₁ nx)(hnx:∀i l acc,nx i ⟨l,σ₁.q,σ₁.h++[AO.list acc],σ₁.st⟩=some (xs[i]?.map item))(A:kl e n elt sc y ifs σ₁ xs item keep val)(hd:ew σ₁.h.length σ₁.h=true){ys:List F}(he:(xs.filter keep).map val=ys):
  SE e n (.ListComp elt [⟨.Name y py,it,ifs,0⟩] sc pos) σ (.ok (.f (.list ys)) σ₁):=
 pZ (rx:=.ok v σ₁) (f:=fun u_ u_=>.ok (.f (.list ys)) σ₁) hset S hx fun w τ q=>by cases(q);subst he;obtain⟨l',L⟩:=qL (py:=py) (it:=it) (pos:=pos) A hnx hs;exact .ok ⟨l',σ₁.q,σ₁.h++[AO.list ((xs.filter keep).map val)],σ₁.st⟩ σ₁.h _ L rfl rfl hd
theorem uM(hset:∀(env:Env)v,foldedSetIterable it env v=pure v)(S:eE sc e y)(hx:SE e n it σ (.ok v σ₁))(hs:bX v σ₁ nx)(hnx:∀i τ,τ.q=σ₁.q->nx i τ=some (xs[i]?.map item))(A:kl e n elt sc y ifs σ₁ xs item keep val):
  SE e n (.ListComp elt [⟨.Name y py,it,ifs,0⟩] sc pos) σ (.ok (.p (.loc σ₁.h.length)) {σ₁ with h:=σ₁.h++[.list ((xs.filter keep).map val)]}):=
 (qL (py:=py) (it:=it) (pos:=pos) A (fun i u_ u_=>hnx i _ rfl) hs).elim fun l' L=>Ha hset S hx L
theorem KH(hy:bF e x)(hset:∀(env:Env)v,foldedSetIterable it env v=pure v)(S:eE sc e y)(hx:SE e n it σ (.ok v σ₁))(hs:bX v σ₁ nx)(hnx:∀i τ,τ.q=σ₁.q->nx i τ=some (xs[i]?.map item))(A:kl e n elt sc y ifs σ₁ xs item keep val)(hd:ew σ₁.h.length σ₁.h=true):
  SS e n (.Assign [.Name x px] (.ListComp elt [⟨.Name y py,it,ifs,0⟩] sc pos) ps) σ (.ok .next {σ₁ with l:=ag σ₁.l x (.f (.list ((xs.filter keep).map val)))}):=
 Ct (rx:=.ok v σ₁) (f:=fun u_ u_=>.ok (.f (.list ((xs.filter keep).map val))) σ₁) hy hset S hx fun w τ q=>by cases(q);obtain⟨l',L⟩:=qL (py:=py) (it:=it) (pos:=pos) A (fun i u_ u_=>hnx i _ rfl) hs;exact .ok ⟨l',σ₁.q,σ₁.h++[AO.list ((xs.filter keep).map val)],σ₁.st⟩ σ₁.h _ L rfl rfl hd
theorem fy(h:ys=xs.map f)(i:Nat)(τ:Sx):bw ys i τ=some (xs[i]?.map fun a=>V.f (f a)):=by subst h;unfold bw;rw[bC,List.getElem?_map];cases xs[i]?<;>rfl
end
theorem GJ(i:Nat)(τ:Sx)(hq:τ.q=some q):iB q.n2i.length mk i τ=some (q.n2i[i]?.map fun p=>mk p.1):=by unfold iB;rw[hq];dsimp only;rw[show Nat.beq q.n2i.length q.n2i.length=true from Nat.beq_refl _];dsimp only;rw[bC];cases q.n2i[i]?<;>rfl
noncomputable def gw(ns:List (Str×aZ)):List Str:=(ns.filter fun p=>decide (p.2.np=0)).map (·.1)
set_option tactic.hygienic true in
theorem D9(hq:σ.q=some ⟨ns,none,a,b,none⟩)(hs:∀x y,(ad ns x).isSome=true->y∈(aT ns x).succ->(ad ns y).isSome=true)(hM:(ns.length+1)*M<=800)(hk:∀p∈ns,ad ns p.1=some p.2)(hr:dh (fun x=>(aT ns x).succ) M (ns.map (·.1)) []=some res)(hz:ns.length<=800)(hz2:∀r,res=some r->r≠[]/\r.length<=1000):
  bo (n+2) 19 [.p .self] σ (match res with
  |none=>.ok (.f .none) {σ with q:=some ⟨ns,some (gw ns),a,b,none⟩}
  |some _=>.exc .cycle {σ with q:=some ⟨ns,some (gw ns),a,b,none⟩}):=by
 refine' eC hq (dn:="prepare") rfl rfl xT (fun h1 h2=>bd.pl h2 h1 rfl) rfl ?hB;refine' bM (az (w:=.f .none) rfl (bB (fun u_=>rfl) (ae (.loc rfl rfl)) (oD rfl rfl)) cw (kH (neg:=true))) (aD ?_);refine' aC (Cq (h:=[]) (r:=gw ns) (q:=⟨ns,none,a,b,none⟩) (fun u_=>rfl) (uM (xs:=ns) (item:=fun p=>.p (.nd p.1)) (keep:=fun p=>decide (p.2.np=0)) (val:=fun p=>.str p.1) (fun u_ u_=>rfl) (.of (by decide +kernel)) (ba (fun u_=>rfl) rfl rfl (bB (fun u_=>rfl) (ae (.loc rfl rfl)) (jZ rfl)) (bL (mG rfl PySem.F.slot_dict_values PySem.F.type_dict_values) rfl an (Kf rfl).up)) (Ci rfl) (fun i τ h=>GJ i τ h) ⟨?t,?g,?z⟩) (ae (.loc rfl rfl)) ?hh rfl rfl rfl rfl rfl rfl) ?_
 case hh=> show[AO.list _]=[AO.list _];unfold gw;rw[List.map_map];rfl
 case z=>exact Nat.le_trans hz (by decide)
 case t=>
  intro p hp acc;haveI C:∀τ,aQ .Eq (.f (.int p.2.np)) (.f (.int 0)) τ (decide (p.2.np=0)):=fun τ=>by have:=bS (σ:=τ) (neg:=false) (iu (n:=6) (i:=p.2.np) (j:=0));rw[Bool.bne_false]at this;exact this
  exact gT (az rfl (bB (fun u_=>rfl) (ae (.loc rfl rfl)) (mj rfl (hk p hp))) aL (C _))
 case g=> intro p hp _ acc;exact bB (fun u_=>rfl) (ae (.loc rfl rfl)) (E9 rfl (hk p hp))
 haveI hm:(("_find_cycle":Str),24)∈gP:=.tail _ (.tail _ (.tail _ (.tail _ (.tail _ (.tail _ (.head _))))));refine' aC (aS (.loc rfl) rfl (ba (fun u_=>rfl) rfl rfl (ae (.loc rfl rfl)) (dE rfl hm rfl an (vX rfl hs hM (fun p h=>by rw[hk p h];rfl) hr)))) ?_;cases res with
|none=>exact bM (dY (fun u_=>rfl) (ae (.loc rfl rfl)) yn) (aD (aD (tM rfl)))
|some r=>
  obtain⟨h1,h2⟩:=hz2 r rfl;haveI T:∀τ,fX (.f (.list (r.map F.str))) τ true:=fun τ=>by have:=ki (σ:=τ) (xs:=r.map F.str) .f (by rw[List.length_map];exact bA h2 (by decide));rw[show(!(r.map F.str).isEmpty)=true from by cases r with|nil=>exact absurd rfl h1|cons _ _=>rfl]at this;exact this
  exact cu (dY (fun u_=>rfl) (ae (.loc rfl rfl)) (T _)) (oO (GR (.glob rfl rfl) rfl rfl (KI aJ) (ae (.loc rfl rfl))) (iC rfl))
theorem HC.table(h:HC c g s)(e:g.at_ (.tab k)=some a)(hs:∀x o,x≠a->s.heap.get? x=some o->s'.heap.get? x=some o)(hn:s'.heap.get? a=some o)(ha:a∈c.b.tabA)(hold:OldK c.b.B s'.heap)(ho:s'.os=s.os)(hg:s'.gens=s.gens)(ht:s.toks<=s'.toks):HC c (g.set (.tab k) (some a) o) s':=by
 have aa:∀T' x,(g.set (.tab k) (some a) o).at_ T'=some x->g.at_ T'=some x:=fun T' x q=>by rw[Gh.set_at e]at q;exact q
 haveI nz:∀x o',g.z.f x=some o'->x≠a:=fun x o' q z=>by rw[z,h.nz _ _ e]at q;cases q
 refine⟨fun x o' q=>hs x o' (nz x o' q) (h.zf x o' q),fun T' x q=>?_,fun T₁ T₂ x dk dm=>h.inj _ _ x (aa _ _ dk) (aa _ _ dm),fun T' x q=>h.nz _ _ (aa _ _ q),fun x o' q=>⟨(h.xz x o' q).1,fun T' z=>(h.xz x o' q).2 T' (aa _ _ z)⟩,
  fun x o' q=>let ⟨sl,q1,r⟩:=h.xs x o' q;⟨sl,hs x _ (fun z=>(h.xz x o' q).2 _ (z▸e)) q1,r⟩,h.base,fun T' x q=>h.tabs T' x (aa _ _ q),hold,ho.trans h.os,hg▸h.gens,Nat.lt_of_lt_of_le h.tk ht⟩
 have q':=aa _ _ q;by_cases z:T'=.tab k
 ·rw[z,e]at q';cases q';rw[z,Gh.ob_same];exact hn
 ·rw[Gh.ob_ne z];exact hs x _ (fun w=>z (h.inj _ _ _ q' (w▸e))) (h.at_ _ _ q')
theorem aW.tabG(r:aW c σ g)(s:g.Le g')(e:∀T,T≠.tab k->g'.at_ T=g.at_ T/\g'.ob T=g.ob T)(z:g'.z.st=g.z.st)(hk:c.b.tabs[k]?=some p)(h1:g'.at_ (.tab k)=some p.2)(h2:kA g'.z (g'.ob (.tab k)) p):aW c σ g':=
 ⟨r.fr.mono s fun T t=>e T fun q=>by rw[q]at t;exact t,fun j=>OR.eq s.z (fun p a u_=>s.p p a) (fun T t=>e T fun q=>by rw[q]at t;exact t) (r.loc j),eH.eq s.z (fun T t=>e T fun q=>by rw[q]at t;exact t) r.srt,fun k' p' h=>by
  by_cases q:k'=k
  ·subst q;rw[hk]at h;cases h;exact⟨h1,h2⟩
  ·have q':aE.tab k'≠.tab k:=fun z=>q (by cases(z);rfl);exact⟨(e _ q').1.trans (r.tab k' p' h).1,(e _ q').2▸(r.tab k' p' h).2.mono s.z⟩,fun k h=>(congrFun z k).trans (r.st k h)⟩
set_option tactic.hygienic true in
theorem Ik(l:List Value)(h:TriplesOk l)(hv:codeAmong q (l++[rawInt a,rawInt c,x])=some v):codeAmong q l=some v\/v=x:=by
 fun_induction TriplesOk l with
|case1=>
  simp only[List.nil_append,rawInt,codeAmong]at hv
  split at hv
  ·cases hv;exact .inr rfl
  ·cases hv
|case2 a' t b' u y rest ih=>
  simp only[List.cons_append,codeAmong]at hv ⊢
  split at hv
  ·rename_i hc;rw[if_pos hc];exact .inl hv
  ·rename_i hc;rw[if_neg hc];exact ih h hv
|case3 l h1 h2=>exact h.elim
theorem zI(d:Dy c σ)(hm:ad c.e.free "<lambda>"=none)(qn:Str)
  (hfound:∀{p:Addr×Addr}{ps:Array Value}{v:Value}{Q:Value->Shared->Prop},c.env.code=.ref p.1->d.s.heap.IsCode p.1 p.2 ps->codeAmong pos ps.toList=some v->Q v d.s->Wp c T Q d.s)
  (hmade:∀{p:Addr×Addr}{ps:Array Value}{Q:Value->Shared->Prop},c.env.code=.ref p.1->d.s.heap.IsCode p.1 p.2 ps->d.s.heap.TableAt p.1 p.2 ps->codeAmong pos ps.toList=none ->
   (∀c' h' tk,Heap.ExtBut p.2 d.s.heap h'->d.s.heap.objs.size<=c'->h'.IsCode p.1 p.2 (ps++#[rawInt pos.line,rawInt pos.col,.ref c'])->h'.CodeRec (.ref c') qn->h'.TableAt p.1 p.2 (ps++#[rawInt pos.line,rawInt pos.col,.ref c'])->Q (.ref c') {d.s with heap:=h',toks:=tk})->Wp c T Q d.s)
 (hQ:∀(d':Dy c σ)v,Le d d'->hZ d'.g.z v->Q v d'.s):Wp c T Q d.s:=by
 obtain⟨p,hp,hcode⟩:=c.k.code hm;obtain⟨k,hk⟩:=List.mem_iff_getElem?.mp hp;obtain⟨ta,tr⟩:=d.r.tab k p hk;cases tr with|mk ps e1 e2 e3=>
 obtain⟨i1,i2⟩:=e2 d.s.heap d.h.zf (e1▸d.h.at_ _ _ ta);cases hf:codeAmong pos ps.toList with
|some v=>exact hfound hcode i1 hf (hQ d v (Le.refl d) (e3 pos v hf))
|none=>
  refine wpAny_mono (wpAny_toks_of (n:=d.s.toks) (Nat.le_refl _) (hmade (Q:=fun v s'=>∃c' h' tk,v=.ref c'/\s'={d.s with heap:=h',toks:=tk}/\Heap.ExtBut p.2 d.s.heap h'/\d.s.heap.objs.size<=c'/\h'.IsCode p.1 p.2 (ps++#[rawInt pos.line,rawInt pos.col,.ref c'])/\h'.CodeRec (.ref c') qn /\
   h'.TableAt p.1 p.2 (ps++#[rawInt pos.line,rawInt pos.col,.ref c'])) hcode i1 i2 hf fun c' h' tk q1 q2 q3 q4 q5=>⟨c',h',tk,rfl,rfl,q1,q2,q3,q4,q5⟩)) (fun v s' hv=>?_) fun u_ u_ h=>h.2
  obtain⟨ht,c',h',tk,rfl,rfl,q1,q2,q3,q4,q5⟩:=hv;have mP:p.2∈c.b.tabA:=List.mem_map.mpr ⟨p,hp,rfl⟩;obtain⟨vP,hvP⟩:=c.ok.tabs _ mP;obtain⟨pb,tb⟩:=c.ok.tabAt p hp;haveI hst:p.2≠cStatics:=fun z=>by obtain⟨_,hn,_⟩:=d.h.limit;obtain⟨ob,es,ep,ho',hd,_⟩:=hn;rw[<- z,i2.2]at ho';cases ho';cases hd
  haveI H:=d.h.table (s':={d.s with heap:=h',toks:=tk}) ta (fun x o n h=>q1 x o n h) q5.2 mP (d.h.old.step_table tb i2 q5 q1 hst) rfl rfl ht;have fr:=d.h.fresh (Heap.get?_none_of_le q2);have hcP:p.2≠c':=fun z=>fr.2.1 _ (z▸ta);have hS:∀x,x=c'->(d.g.set (.tab k) (some p.2) {cls:=.none,data:=.fields (ps++#[rawInt pos.line,rawInt pos.col,.ref c'])}).z.f x=none/\(∀T,(d.g.set (.tab k) (some p.2) {cls:=.none,data:=.fields (ps++#[rawInt pos.line,rawInt pos.col,.ref c'])}).at_ T≠some x)/\c.X x=none:=fun x z=>
   ⟨z▸fr.1,fun T q=>fr.2.1 T (by rw[Gh.set_at ta]at q;exact z▸q),z▸fr.2.2⟩
  have H2:=H.adopt (S:=fun x=>x=c') hS;haveI le1:=Gh.set_le (o:={cls:=.none,data:=.fields (ps++#[rawInt pos.line,rawInt pos.col,.ref c'])}) ta (fun z=>by cases z);haveI le2:=qj (S:=fun x=>x=c') (h:=h') fun x q=>(hS x q).1;have le:=le1.trans le2;obtain⟨aU,mq,Lg,Lh,e,g2,r2,r3⟩:=q4;cases e;have cz:hZ ((d.g.set (.tab k) (some p.2) {cls:=.none,data:=.fields (ps++#[rawInt pos.line,rawInt pos.col,.ref c'])}).adopt (fun x=>x=c') h').z (.ref c'):=.mk c' mq Lg qn Lh rfl ((if_pos rfl).trans g2) r2 r3;obtain⟨o1,vs1,file,tf,flags,tg,inF,text,tt,op,x1,x2,x3,x4,x5,x6,x7,x8,x9,x10,x11⟩:=q3;obtain⟨ob,hob⟩:=c.ok.codes p hp;haveI np:p.1∉c.b.tabA:=fun m=>by obtain⟨vs,hvs⟩:=c.ok.tabs _ m;obtain⟨o0_,_⟩:=tb;obtain⟨o,vs',y1,y2,_⟩:=o0_;rw[hvs]at y1;cases y1;cases y2
  have zp:((d.g.set (.tab k) (some p.2) {cls:=.none,data:=.fields (ps++#[rawInt pos.line,rawInt pos.col,.ref c'])}).adopt (fun x=>x=c') h').z.f p.1=some o1:=by have:=H2.base p.1 ob hob np;haveI w:=H2.zf _ _ this;rw[show h'.get? p.1=some ob from w]at x1;rw[this];exact x1
  obtain⟨o0_,y5⟩:=q5;obtain⟨o3,vs3,y1,y2,y3,y4⟩:=o0_;haveI e31:o3=o1:=Option.some.inj (y1.symm.trans x1);subst e31;rw[y5]at x8;cases x8;refine hQ ⟨_,_,H2,d.r.tabG le (fun T t=>?_) rfl hk (Gh.at_same (o:={cls:=.none,data:=.fields (ps++#[rawInt pos.line,rawInt pos.col,.ref c'])})) (.mk _ (Gh.ob_same (a:=some p.2)) (fun h k1 k2=>have k2:h.get? p.2=some {cls:=.none,data:=.fields (ps++#[rawInt pos.line,rawInt pos.col,.ref c'])}:=k2.trans (congrArg some (Gh.ob_same (a:=some p.2)));⟨⟨o3,vs1,file,tf,flags,tg,inF,text,tt,_,k1 _ _ zp,x2,x3,x4,x5,x6,x7,k2,rfl,x10,x11⟩,⟨o3,vs3,k1 _ _ zp,y2,y3,y4⟩,k2⟩) fun pos' v hv=>?_)⟩ _ le cz
  ·exact Gh.set_out t
  ·haveI hl:(ps++#[rawInt pos.line,rawInt pos.col,Value.ref c']).toList=ps.toList++[rawInt pos.line,rawInt pos.col,.ref c']:=by simp
   have htr:TriplesOk ps.toList:=by obtain⟨_,_,_,_,_,_,_,_,_,_,_,_,_,_,_,_,_,_,_,htr,_⟩:=i1;exact htr
   rw[hl]at hv;rcases Ik _ htr hv with hv|rfl
   ·exact(e3 pos' v hv).mono le.z
   ·exact cz
inductive mc(z:Z)(env:Env)(ar:Arguments)(body:Expr)(sc:Scope)(l:Addr):Prop
|mk (o:Obj) (fd:FuncData):z.f l=some o->o.cls=.type "function"->o.data=.func fd->fd.params=ar->fd.body=.expr body->fd.scope=sc->fd.globals=mainGlobals->fd.builtins=builtinsNs->fd.closure=cY env sc.names []->fd.defaults=.none->hZ z fd.code->mc z env ar body sc l
theorem hZ.at{h:Heap}(hz:∀a o,z.f a=some o->h.get? a=some o)(x:hZ z v):∃q,h.CodeRec v q:=by cases x with|mk a o vs q t h1 h2 h3 h4=>exact⟨q,a,o,vs,t,h1,hz _ _ h2,h3,h4⟩
theorem Dy.push_le(d:Dy c σ):Le d (d.push o ho):=Gh.fz_le (d.h.fresh (Heap.get?_none_of_le (Nat.le_refl _))).1
theorem vE{c P:Addr}{make:CodeContext->Sem Value}{v:Value}{Q:Value->Shared->Prop}(hc:env.code=.ref c)(hok:s.heap.IsCode c P ps)(hf:codeAmong pos ps.toList=some v)(h:Q v s):
  wpAny M A (codeAt env pos make) Q E s:=by
 obtain⟨o,vs,file,tf,flags,tg,inF,text,tt,op,ho,hd,h11,h2,h7,h9,h10,hop,hpd,htr,hne⟩:=id hok;unfold codeAt;rw[hc,if_neg (show ¬((Value.ref c==Value.none)=true)from Bool.false_ne_true)];refine wpAny_bind (wpAny_fieldsOf ho hd ?_);rw[h11];refine wpAny_bind (wpAny_fieldsOf hop hpd ?_);rw[hf];exact wpAny_pure h
theorem vR(d:Dy c σ)(hm:ad c.e.free "<lambda>"=none)(hQ:∀(d':Dy c σ)l,Le d d'->mc d'.g.z c.env ar body sc l->Q (.ref l) d'.s):Wp c (do
   let fd:FuncData:={name:="<lambda>",qualname:=c.env.qual++"<lambda>",params:=ar,body:=.expr body,scope:=sc,globals:=c.env.globals,closure:=cY c.env sc.names [],closureTuple:=ct,code:=<- functionCode c.env pos pos.line "<lambda>" (c.env.qual++"<lambda>") ar sc (.expr body),builtins:=<- builtinsFor c.env.globals c.env.builtins,defaults:=.none,kwdefaults:=.none,annotations:=none,pyModule:=(<- nsGet c.env.globals "__name__").getD .none,doc:=<- (pure .none:Sem Value)}
   newObj (.type "function") (.func fd)) Q d.s:=by
 refine wpAny_bind (zI (pos:=pos) d hm (c.env.qual++"<lambda>") (fun hc h1 hf h=>vE hc h1 hf h) (fun hc h1 h2 hf h=>wpAny_functionCodeX hc h1 h2 hf fun c' h' tk q1 q2 q3 q4 q5 q6 u_=>h c' h' tk q1 q2 q4 q5 q6) fun am v bQ cz=>?_);obtain⟨mg,bm,ob,B⟩:=c.ok.bmod;haveI hg:am.s.heap.Ns c.env.globals mg:=by rw[c.k.glo];exact am.h.bns B.ns
 haveI hbm:bm∉c.b.tabA:=fun m=>by obtain⟨vs,ho⟩:=c.ok.tabs bm m;haveI h1:=B.cls;haveI h2:=B.obj;rw[ho]at h2;cases h2;cases h1
 refine wpAny_bind (wpAny_builtinsFor hg B.name B.ne (am.h.b B.obj hbm) B.cls B.dict B.data (wpAny_bind (wpAny_nsGet hg (wpAny_bind (wpAny_pure (wpAny_newObj_type ?_ (by size_fits)))))));exact hQ (am.push _ rfl) _ (bQ.trans am.push_le) (.mk _ _ Z.add_same rfl rfl rfl rfl rfl c.k.glo rfl rfl rfl (cz.mono (Gh.Le.z am.push_le)))
theorem zG(d:Dy c σ)(i:c.e=e)(hd:ar.defaults=[]/\ar.kwonlyargs=[]/\ar.kw_defaults=[])(hc:ff e sc.names=true)
  (hQ:∀(d':Dy c σ)l,Le d d'->mc d'.g.z c.env ar body sc l->Q (.ref l) d'.s):Wp c (eval (.Lambda ar body sc pos) c.env) Q d.s:=by
 obtain⟨d1,d2,d3⟩:=hd;haveI hm:ad c.e.free "<lambda>"=none:=by subst i;exact ux hc
 haveI hdef:defaultsOf ar c.env=([],[]):=by obtain⟨_,_,_,_,kwd,_,dd⟩:=ar;cases d1;cases d3;rfl
 rw[arm_eval_Lambda,hdef];refine wpAny_bind (m:=evalAll []) (wpAny_pure (wpAny_bind (m:=holding [] (evalAllOpt [])) (wpAny_holding (wpAny_pure ?_))));rw[makeFunction_eq,d2];refine wpAny_bind (wpAny_pure (wpAny_bind (wpAny_pure (wpAny_bind (wpAny_pure ?_)))));unfold makeTail;rw[rE (pj d i hc)];refine wpAny_bind (wpAny_pure ?_);cases hce:(cY c.env sc.names []).isEmpty with
|true=> rw[if_pos rfl];exact wpAny_bind (wpAny_pure (vR d hm hQ))
|false=> rw[if_neg (by simp)];exact wpAny_bind (wpAny_newTextTuple (vR (d.push _ rfl) hm fun d' l le=>hQ d' l (Le.trans d.push_le le)))
theorem Ir(hd:ar.defaults=[]/\ar.kwonlyargs=[]/\ar.kw_defaults=[])(hc:ff e sc.names=true):SE e n (.Lambda ar body sc pos) σ (.ok .lam σ):=fun c i d Q p=>
 zG d i.e hd hc fun d' l le x=>by cases x with|mk o fd h1 h2 _ _ _ _ _ _ _ _ _=>exact p d' _ le (.mk l o rfl h1 h2)
noncomputable def jX(C:Addr):aE->Option Addr
|.L=>some C
|_=>none
structure mK(sc:Scope):Prop where
 k:sc.kind=.function
 ok:fq sc.names
 nc:∀n,ad sc.names n=some .cell->False
 co:sc.isCoroutine=false
 ge:sc.isGenerator=false
theorem FH(nc:∀n,ad ns n=some .cell->False)(nd:(ns.map (·.1)).Nodup):ad (cellsFrom k ns []) n=none:=Af (acc:=[]) nd fun h=>nc n h
theorem G8{func:Option Addr}{code:Value}{builtins:Addr}{Q:Env->Shared->Prop}
  (hQ:∀env' s',env'=newEnv sc s.heap.objs.size globals (cellsFrom (s.heap.objs.size+1) sc.names cl) qual func code none builtins->InCallC s env'.locals (fun u_=>none) (cellsFrom (s.heap.objs.size+1) sc.names []) (fun u_=>none) s'->s.toks<=s'.toks->Q env' s') :
  wpAny M A (newFunctionEnv sc globals cl [] qual func code none builtins) Q E s:=by
 simp only[newFunctionEnv,Option.isSome_none,Bool.false_eq_true,if_false];refine wpAny_bind (wpAny_alloc (wpAny_bind (wpAny_layCells _ (fun name kind cells=>by cases hkc:kind==NameKind.cell<;>simp[hkc]) _ _ _ _ (wpAny_bind ?_))));rw[List.forIn_nil];refine wpAny_pure (wpAny_pure ?_);haveI okc:=cellsFrom_ok sc.names (s.heap.push {cls:=.type "frame",data:=.dict #[]}) (s.heap.objs.size+1) [] ⟨fun u_ u_ hm=>(nomatch hm),List.Pairwise.nil⟩ (by rw[Heap.size_push];exact Nat.le_refl _);rw[Heap.size_push]at okc;haveI esz:({s with heap:=s.heap.push {cls:=.type "frame",data:=.dict #[]}}:Shared).heap.objs.size=s.heap.objs.size+1:=Heap.size_push ..;rw[esz];exact hQ _ _ rfl ⟨⟨⟨_,_,rfl⟩,(Heap.Ns.new s.heap (.type "frame")).keeps (pushCells_keeps _ _),fun b o e=>pushCells_keeps _ _ b o (Heap.get?_push_of_some _ e),Nat.le_refl _⟩,
   fun n c hc=>(okc.empty n c (mem_of_lookup hc)).1,okc.apart,fun n c hm=>(okc.empty n c hm).2⟩ (Nat.le_refl _)
theorem Dy.lamIn(d:Dy c σ){code:Value}(E:Value->Shared->Prop)(hn:n+1<=c.n)(S:mK sc)(hfl:ad fl "<lambda>"=none->False)
  (hfree:∀n v,ad sc.names n=some .free->ad fl n=some v->∃a o val,ad cl n=some a/\c.X a=some o/\o.data=.cell (some val)/\VV c.b d.g v val/\seen false v=true)
  (he:env=newEnv sc d.s.heap.objs.size mainGlobals (cellsFrom (d.s.heap.objs.size+1) sc.names cl) qual func code none builtinsNs) (ht:d.s.toks<=ap.toks) (x:InCallC d.s env.locals (fun u_=>none) (cellsFrom (d.s.heap.objs.size+1) sc.names []) (fun u_=>none) ap) :
  ∃(k:ca c.b (c.A.deeper env) env ⟨sc.names,fl⟩ (c.xs d.g false) (env.locals::c.fs) n)(ak:Dy (c.sub (c.A.deeper env) env ⟨sc.names,fl⟩ E (c.xs d.g false) (env.locals::c.fs) n k) (σ.enter false [])),ak.s=ap/\ak.g=d.g.enter false (jX env.locals) ap.heap/\d.s.heap.get? env.locals=none:=by
 haveI ks:=fq.kinds (env:=env) S.ok (by rw[he];rfl);haveI hL:env.locals=d.s.heap.objs.size:=by rw[he];rfl
 haveI ec:∀n,env.cells.lookup n=ad (cellsFrom (d.s.heap.objs.size+1) sc.names []++cl) n:=fun n=>by rw[i8,he];exact congrArg (ad · n) (wq _ _ _)
 have k:ca c.b (c.A.deeper env) env ⟨sc.names,fl⟩ (c.xs d.g false) (env.locals::c.fs) n:=ca.deeper d.h d.r.fr hn (by rw[he];rfl) (by rw[he];exact S.k) (by rw[he];rfl) (by rw[he];rfl) ks fun h=>(hfl h).elim;obtain⟨h',tk,hs⟩:=x.toInCall.same;obtain⟨o,es,ep,ho,hd,hr1,hr2⟩:=x.toInCall.ns;have nL:d.s.heap.get? env.locals=none:=by rw[hL];exact Heap.get?_none_of_le (Nat.le_refl _)
 have fresh:∀T a,jX env.locals T=some a->d.s.heap.get? a=none/\∃o,ap.heap.get? a=some o:=fun T a q=>by cases T<;>cases q;exact⟨nL,o,ho⟩
 haveI inj:∀T T' a,jX env.locals T=some a->jX env.locals T'=some a->T=T':=fun T T' a q q'=>by cases T<;>cases q;cases T'<;>cases q';rfl
 haveI nt:∀T a,jX env.locals T=some a->a∉c.b.tabA:=fun T a q m=>by obtain⟨k,z⟩:=d.r.tb a m;have:=(fresh T a q).1;rw[d.h.at_ _ _ z]at this;cases this
 haveI H:=HC.enter (k:=k) (E:=E) d.h x.toInCall.keep fresh inj (fun a m=>.tail _ m) (by rw[hs]) (by rw[hs]) ht nt;refine⟨k,⟨_,ap,H,aW.enter d.r (fun i T t=>?_) ⟨if_neg id,⟨_,⟨es,ep,?_,hr1,hr2⟩,fun n v h1 h2=>by cases h2⟩,fun n h1=>(S.nc n h1).elim,fun n v h1 h2=>?_⟩⟩,rfl,rfl,nL⟩
 ·cases T with
 |L=>exact t.elim
 |_=>rfl
 ·exact(congrArg Obj.data ((if_neg id).trans (dR ho))).trans hd
 ·obtain⟨a,o,val,e1,e2,e3,e4,e5⟩:=hfree n v h1 h2;exact⟨a,o,val,(ec n).trans ((qN (FH S.nc S.ok.nd)).trans e1),iD d.h e2,e3,VV.enter e5 e4⟩
theorem zW:isSubtype (.type "ValueError") (.type "BaseException")=pure true:=by rw[isSubtype_type];kernel_rfl
theorem xx:isSubtype (.type ((Manifest.find? "ValueError").elim "type" fun x=>x.metatype)) (.type "tuple")=pure false:=by rw[isSubtype_type];kernel_rfl
theorem Ic:isSubtype (.type "ValueError") (.type "ValueError")=pure true:=by rw[isSubtype_type];kernel_rfl
section
variable{c:Fr}{σ:Sx}{fr:Option Addr}
theorem bI.at{d:Dy c σ}(ex:bI c.b fr d.g x a):∃o,d.s.heap.get? a=some o/\o.cls=jG c.b x:=by cases ex with|mk vs e1 e2=>exact⟨_,d.h.at_ _ _ e1,e2⟩
theorem Hq(d:Dy c σ)(ex:bI c.b fr d.g x a)(hx:x≠.stop)(h:Q true d.s):wpAny M A (excMatches (.ref a) (.type "ValueError")) Q E d.s:=by
 obtain⟨o,ho,hc⟩:=ex.at;cases x with
|value t=>exact wpAny_excMatches_type (X:="ValueError") ⟨o,ho,hc⟩ zW xx Ic h
|cycle=> obtain⟨nm,q,N,bs,bm,hd,sn,sub,ab,col,dd,k0,k1,k2,k3,k5,newId,initId,mN,hC,hT,hN,hni,F⟩:=c.ok.cyc;haveI hC:=d.h.b hC hT;revert h ho hC;generalize d.s=s;obtain⟨hh,gg,d,t,os⟩:=s;intro h ho hC;refine wpAny_excMatches_sub_type (T:="ValueError") hC ho hc zW xx ?_;rw[F.hasB];exact h
|stop=>exact absurd rfl hx
noncomputable def rU:X->Bool
|.cycle=>true
|_=>false
theorem B0(d:Dy c σ)(ex:bI c.b fr d.g x a)(hx:x≠.stop){Q:Value->Shared->Prop}(h:∀tk,d.s.toks<=tk->Q (.bool (rU x)) {d.s with toks:=tk}):Wp c (call (.builtin "isinstance") [.ref a,.ref (c.b.fa 17)]) Q d.s:=by
 obtain⟨o,ho,hc⟩:=ex.at;cases x with
|value t=>
  refine wpAny_mono (wpAny_toks_of (n:=d.s.toks) (Nat.le_refl _) (kia_one (b:=false) (Q:=fun v s'=>∃tk,v=.bool false/\s'={d.s with toks:=tk}) Jo d.h.K ⟨o,ho,hc⟩ ?_ (by intro z;cases z) fun tk=>⟨tk,rfl,rfl⟩)) (fun v s' hv=>?_) fun u_ u_ z=>z.2
  ·unfold kitOne;rw[if_neg (by simp)];exact c.ok.cycNot
  ·obtain⟨ht,tk,rfl,rfl⟩:=hv;exact h tk ht
|cycle=> refine call_isinstance_of ?_;unfold Builtin.«isinstance.nested»;refine wpAny_bind (m:=typeOf (.ref a)) (wpAny_bind (wpAny_loadPart ho (wpAny_pure ?_)));rw[show o.cls=Value.ref (c.b.fa 17)from hc,if_pos (by simp)];exact wpAny_bind (wpAny_rule (wpAny_pure (h d.s.toks (Nat.le_refl _))))
|stop=>exact absurd rfl hx
theorem Jv(d:Dy c σ)(hu:c.A.units+2 < cLine)(ex:bI c.b fr d.g (.value t) a)(h:∀tk,Q (.str t tk) d.s):Wp c (call (.type "str") [.ref a]) Q d.s:=by
 cases ex with|mk vs e1 e2 e3 e4 e5=>
 obtain⟨T,n,tk,h0,hT⟩:=e4 t rfl;haveI ho:=d.h.at_ _ _ e1;haveI hT:=d.h.zf _ _ hT;revert h ho hT;generalize d.s=s;obtain⟨hh,gg,dd,tt,os⟩:=s;intro h ho hT;exact P.str_of_exc_one PySem.F.excStr_ValueError hu ⟨_,vs,ho,e2,e3,h0⟩ ⟨_,n,hT,rfl,rfl⟩ (h tk)
noncomputable def Dy.forget(d:Dy c σ):Dy c {σ with l:=[]}:=
 ⟨d.g,d.s,d.h,⟨⟨d.r.fr.L,d.r.fr.ns.imp fun u_ h=>⟨h.1,fun u_ u_ u_ q=>by cases q⟩,fun n h=>(d.r.fr.cell n h).imp fun u_ h=>h.imp fun u_ h=>⟨h.1,h.2.1,h.2.2.1,fun u_ q=>by cases q⟩,d.r.fr.free⟩,d.r.loc,d.r.srt,d.r.tab,d.r.st⟩⟩
theorem db.setL(F:db c [] g)(s:g.Le (g.set .L (some c.env.locals) o))(hn:oN o m):db c [] (g.set .L (some c.env.locals) o):=
 ⟨(Gh.set_at F.L).trans F.L,⟨m,by rw[Gh.ob_same];exact hn,fun n v u_ q=>by cases q⟩,fun n q=>(F.cell n q).imp fun a h=>h.imp fun cv h=>⟨h.1,(Gh.set_at F.L).trans h.2.1,(congrArg Obj.data (Gh.ob_ne (by simp))).trans h.2.2.1,fun u z=>by cases z⟩,
  fun n v q hv=>(F.free n v q hv).imp fun a h=>h.imp fun o h=>h.imp fun u h=>⟨h.1,h.2.1,h.2.2.1,VV.mono s h.2.2.2⟩⟩
theorem bI.setL(ex:bI b fr g y a):bI b fr (g.set .L L o) y a:=by
 haveI k:=fun(T:aE)(z:T≠.L)=>Gh.set_out (g:=g) (a:=L) (o:=o) z;cases ex with|mk vs e1 e2 e3 e4 e5=>
 haveI k0:=k (.exc 0) fun z=>by cases z
 haveI k1:=k (.exc 1) fun z=>by cases z
 exact .mk vs (k0.1.trans e1) ((congrArg Obj.cls k0.2).trans e2) ((congrArg Obj.data k0.2).trans e3) e4 (e5.imp (fun h=>⟨h.1,k1.1.trans h.2⟩) fun h=>h.imp fun T h=>h.imp fun ts h=>h.imp fun fl h=>⟨h.1,k1.1.trans h.2.1,(congrArg Obj.data k1.2).trans h.2.2.1,h.2.2.2⟩)
theorem Dy.nsSet(d:Dy c {σ with l:=[]})(hs:Heap.SameBut c.env.locals d.s.heap h')(hn:h'.Ns c.env.locals m)(ht:d.s.toks<=t):∃d':Dy c {σ with l:=[]},d'.s={d.s with heap:=h',toks:=t}/\Le d d'/\(∀fr y b,bI c.b fr d.g y b->bI c.b fr d'.g y b):=by obtain⟨o,es,ep,ho,q1,q2,q3⟩:=hn;haveI F:=d.r.fr;haveI s:=Gh.set_le (o:=o) F.L;exact⟨⟨_,_,d.hset F.L (fun u_ q=>by cases q) hs ho ht,d.r.frmG s (fun T t=>Gh.set_out fun q=>t (q▸trivial)) rfl (F.setL s ⟨es,ep,q1,q2,q3⟩)⟩,rfl,s,fun u_ u_ u_ ex=>ex.setL⟩
end
noncomputable def tz:X->Str
|.value m=>m
|_=>"ring"
noncomputable abbrev ou:List (Str×NameKind):=[("deed",.local),("error",.local),("ValueError",.globalImplicit),("isinstance",.globalImplicit),("CycleError",.globalImplicit),("str",.globalImplicit)]
theorem Ef(hb:e≠byPass)
  (h:∀vf il,wpAny (model prog w) (A.mark (some e)) (eval t env) (fun cv ap=>wpAny (model prog w) (A.mark (some e)) (excMatches e cv) (fun b s₂=>b=true/\∀Bl Bm oH,wpAny (model prog w) (A.mark (some e)) (setFlight e none) (fun u_ cj=>wpAny (model prog w) (A.mark (some e)) (storeName env n e) (fun u_ ip=>
   wpAny (model prog w) (A.mark (some e)) (execs (Li::body) env) (fun f jc=>∀E',wpAny (model prog w) A (do bindName env n .none;unbindBehindTheSuite env n pos) (fun u_ Lj=>Q f Lj) E' jc) oH ip) Bm cj) Bl s₂) il ap) vf s):wpAny (model prog w) A (handleBy e env [.ExceptHandler (some t) (some n) (Li::body) pos]) Q E s:=by
 refine wpAny_handleBy_cons (codeAny_handlers_test (wpAny_mono (h _ _) (fun cv ap bk=>wpAny_mono bk (fun b s₂ aY=>?_) fun u_ u_ x=>x) fun u_ u_ x=>x)) hb;obtain⟨rfl,aY⟩:=aY;rw[if_pos rfl];exact codeAny_handlers_suite_as (wpAny_mono (aY _ _ _) (fun u_ cj cI=>wpAny_mono cI (fun u_ ip ja=>wpAny_mono ja (fun f jc fA=>fA _) fun u_ u_ x=>x) fun u_ u_ x=>x) fun u_ u_ x=>x)
section
variable{c:Fr}{σ:Sx}{x:X}{a:Addr}
theorem Hm(i:c.e=⟨ou,[]⟩)(hu:c.A.units+2 < cLine)(d:Dy c {σ with l:=[]})(ex:bI c.b c.env.frame d.g x a)(hx:x≠.stop)(hn:d.s.heap.Ns c.env.locals m)(hm:m "error"=some (.ref a))(hk:c.env.kindOf "error"=some .local)
  (hQ:∀(d':Dy c {σ with l:=[]})tk,Le d d'->d'.s.heap=d.s.heap->Q (.ret (.str (tz x) tk)) d'.s):Wp c (execs [.Return (some (.IfExp (.Call (.Name "isinstance" p1) [.Name "error" p2,.Name "CycleError" p3] [] p4) (.Constant (.str "ring") k p5) (.Call (.Name "str" p6) [.Name "error" p7] [] p8) p9)) p10] c.env) Q d.s:=by
 have rdE:∀{tk:Nat}{pp:Pos}{Q':Value->Shared->Prop},Q' (.ref a) {d.s with toks:=tk}->Wp c (eval (.Name "error" pp) c.env) Q' {d.s with toks:=tk}:=fun hq=>wpAny_Name (wpAny_loadName_local c.k.fn hk hn hm hq) (by decide);refine wpAny_execs_cons (wpAny_Return_some (wpAny_IfExp (wpAny_isTrue_value (wpAny_Call_ofName (ei (v:=.f (.bi "isinstance")) (.glob rfl rfl) i d fun vi ri=>?_)) ?_)))
 ·cases Option.some.inj ((show c.b.blt "isinstance"=some vi from ri).symm.trans (c.ok.blts ("isinstance",.builtin "isinstance") (by decide +kernel)));rw[gb rfl,gb rfl];refine fQ (Calls.evalArgs_plain (Calls.spliced_cons (rdE (tk:=d.s.toks) (Calls.spliced_cons (ei (v:=.f (.fn 17)) (.glob rfl rfl) i d fun vc rc=>?_)))));cases(show vc=.ref (c.b.fa 17)from rc);refine Calls.spliced_nil ⟨fV,B0 d ex hx fun tk htk=>wpAny_truthy_bool ?_⟩;cases x with
 |value t=> rw[show rU (.value t)=false from rfl,if_neg Bool.false_ne_true];refine wpAny_Call_ofName (ei (v:=.f (.bi "str")) (.glob rfl rfl) i (d.tok tk htk) fun vs rs=>?_);cases Option.some.inj ((show c.b.blt "str"=some vs from rs).symm.trans (c.ok.blts ("str",.type "str") (by decide +kernel)));rw[gb rfl];exact fQ (Calls.evalArgs_plain (Calls.spliced_cons (rdE (Calls.spliced_nil ⟨kI,Jv (d.tok tk htk) hu ex fun tk'=>hQ (d.tok tk htk) tk' (Gh.Le.refl _) rfl⟩))))
 |cycle=> rw[show rU .cycle=true from rfl,if_pos rfl];exact wpAny_Constant_str (hQ (d.tok (tk+1) (Nat.le_succ_of_le htk)) _ (Gh.Le.refl _) rfl)
 |stop=>exact absurd rfl hx
 ·rfl
theorem Gn(i:c.e=⟨ou,[]⟩)(here:fU c)(hu:c.A.units+2 < cLine)(d:Dy c {σ with l:=[]})(ex:bI c.b c.env.frame d.g x a)(hx:x≠.stop)
  (hQ:∀(d':Dy c {σ with l:=[]})tk,Le d d'->Q (.ret (.str (tz x) tk)) d'.s):l7 c [.ExceptHandler (some (.Name "ValueError" pv)) (some "error")
   [.Return (some (.IfExp (.Call (.Name "isinstance" p1) [.Name "error" p2,.Name "CycleError" p3] [] p4) (.Constant (.str "ring") k p5) (.Call (.Name "str" p6) [.Name "error" p7] [] p8) p9)) p10] ph] Q (.ref a) d.s:=by
 refine d.note ex here fun ak dy uT Lk=>ak.flight uT Lk fun am l₂ Bn uV=>?_;refine Ef (by intro q;cases q) fun vf il=>ei (c:=c.mark (some (.ref a)) vf) (v:=.f (.bi "ValueError")) (.glob rfl rfl) i (am.mark _ _) fun xv rx=>?_;cases Option.some.inj ((show c.b.blt "ValueError"=some xv from rx).symm.trans (c.ok.blts ("ValueError",.type "ValueError") (by decide +kernel)));refine Hq am Bn hx ⟨rfl,fun Bl Bm oH=>am.flight Bn uV fun ay dz oG Lz=>?_⟩;obtain⟨m,r1,r2⟩:=ay.r.fr.ns;have hk:c.env.kindOf "error"=some .local:=c.k.kinds "error" .local (by rw[i];rfl);have hsc:(c.env.scope.kind==.class||(c.env.scope.kind==.module&&c.env.locals != c.env.globals))=false:=by rw[c.k.fn];rfl
 refine wpAny_storeName_local hk (ay.h.ns ay.r.fr.L r1) (fun h' hn hs=>?_) hsc;obtain⟨bH,e4,jb,x4⟩:=ay.nsSet hs hn (Nat.le_succ _);rw[<- e4];refine Hm (c:=c.mark (some (.ref a)) oH) i hu (bH.mark _ _) (x4 _ _ _ oG) hx (by rw[show(bH.mark (some (.ref a)) oH).s=bH.s from rfl,e4];exact hn) (if_pos rfl) hk fun cf tk u0 fA E'=>?_;refine wpAny_nameGoes hk (m:=fun x=>if x="error" then some (.ref a)else m x) (by rw[fA,show(bH.mark (some (.ref a)) oH).s=bH.s from rfl,e4];exact hn) hsc fun h6 m6 hn6 hs6=>?_;obtain⟨vd,e7,ve,x7⟩:=(Dy.unmark cf).nsSet hs6 hn6 (Nat.le_succ _);exact e7▸hQ vd tk (Gh.Le.trans dy (Gh.Le.trans l₂ (Gh.Le.trans dz (Gh.Le.trans jb (Gh.Le.trans u0 ve)))))
end
theorem Js(hroom:A.depth < recursionLimit)(ho:s.heap.get? a=some o)
  (hd':o.data=.func fd) (hco:fd.scope.isCoroutine=false) (hgen:fd.scope.isGenerator=false) (hbody:fd.body=.expr body) (hcd:s.heap.CodeRec fd.code q)
  (h:wpAny (model prog w) A.in1 (bindArgs fd args) (fun binds ap=>
   wpAny (model prog w) A.in1 (newFunctionEnv fd.scope fd.globals fd.closure binds (q++".<locals>.") (some a) fd.code none fd.builtins)
    (fun env s₂=>s₂.heap.NoLimit/\codeAny (model prog w) A (.expr body env) R s₂) (fun e s'=>R (.error e) s') ap) (fun e s'=>R (.error e) s') s) :
  codeAny (model prog w) A (.call (.ref a) args) R s:=by
 refine codeAny_of_tree ?_;show wpAny _ A.in1 (callAny (.ref a) args) _ _ s;unfold callAny;refine wpAny_bind (wpAny_load ho ?_);obtain⟨c,oc,vs,tq,hc,hoc,hdc,hq⟩:=hcd;rw[hd'];show wpAny _ _ (callFunction a fd args) _ _ _;unfold callFunction;rw[hco,hgen,hbody,hc];rw[hc]at h;refine wpAny_bind (m:=field (.ref c) 1) (wpAny_field hoc hdc hq (wpAny_bind (wpAny_pure ?_)));exact wpAny_bind (wpAny_mono h (fun binds ap bk=>wpAny_bind (wpAny_mono bk (fun env s₂ aY=>wpAny_bind (wpAny_enterFrame aY.1 hroom
  (wpAny_pure (And.intro rfl aY.2)))) fun u_ u_ h'=>h')) fun u_ u_ h'=>h')
theorem vj(hx:bx x=false)
  (h:wpAny M A (eval x env) (fun v ap=>fo M ap.heap f/\wpAny M A (call f (first++[v])) Q E ap) E s):wpAny M A (callWith pos f first (backTo pos (starEach [x] env)) []) Q E s:=by
 rw[gb hx];exact fQ (Calls.evalArgs_plain (Calls.spliced_cons (wpAny_mono h (fun v ap bk=>Calls.spliced_nil bk) fun u_ u_ x=>x)))
theorem Fj(h:fo M s.heap f/\wpAny M A (call f first) Q E s):wpAny M A (callWith pos f first (backTo pos (starEach [] env)) []) Q E s:=
 fQ (args:=[]) (PySem.evalArgs_none (by simpa using h))
theorem CJ(hx:bx x=false)(h:wpAny M A (eval x env) (fun v ap=>Q (.ref ap.heap.objs.size) {ap with heap:=ap.heap.push {cls:=.type "list",data:=.seq [v].toArray}}) E s):wpAny M A (eval (.List [x] pos) env) Q E s:=by refine wpAny_List ?_;rw[gb hx];exact Calls.spliced_cons (wpAny_mono h (fun v ap bk=>Calls.spliced_nil ⟨by show 1<=sizeLine;decide +kernel,bk⟩) fun u_ u_ x=>x)
theorem nJ:ci (bp "_law_words") ["deed"] none ou:=⟨by kernel_rfl,by kernel_rfl,by kernel_rfl⟩
inductive lq(σ:Sx):aG V->F->Prop
|ok (y:F):lq σ (.ok (.f y) σ) (.list [y])
|exc (x:X):x≠.stop->lq σ (.exc x σ) (.str (tz x))
noncomputable abbrev ow:Arguments:=⟨[],[],none,[],[],none,[]⟩
theorem Jz(aU:Fr)(hh:aU.A.handled=none)(hn:n+1<=aU.n)(d:Dy aU τ)(L:mc d.g.z env ow body sc l)(S:mK sc)(hfl:ad fl "<lambda>"=none->False)
  (hfree:∀n v,ad sc.names n=some .free->ad fl n=some v->∃a o val,ad (cY env sc.names []) n=some a/\aU.X a=some o/\o.data=.cell (some val)/\VV aU.b d.g v val/\seen false v=true) (hB:SE ⟨sc.names,fl⟩ n body ⟨[],τ.q,[],τ.st⟩ rb)
  (p:match(generalizing:=false) rb with
  |.ok v cO=>seen false v=true/\∀(d':Dy aU (τ.leave false cO))val,Le d d'->VD d' v val->Q val d'.s
  |.exc x cO=>∀(d':Dy aU (τ.leave false cO))a,Le d d'->bI aU.b aU.env.frame d'.g x a->aU.E (.ref a) d'.s
  |.bad=>False):fo aU.b.M d.s.heap (.ref l)/\Wp aU (call (.ref l) []) Q d.s:=by
 cases L with|mk o fd h1 h2 h3 h4 h5 h6 h7 h8 h9 h10 h11=>
 have ho:=d.h.zf _ _ h1;obtain⟨q,cr⟩:=h11.at d.h.zf;refine⟨qz ho h3,wpAny_call (Js (q:=q) (by have:=aU.k.depth;omega) ho h3 (by rw[h6];exact S.co) (by rw[h6];exact S.ge) h5 cr ?_)⟩;rw[nQ (va:=none) (args:=[]) (vals:=[]) rfl (by rw[h4]) h10 .nil (Nat.le_refl _) fun u_=>rfl,h6,h7,h8,h9];refine wpAny_pure (G8 fun iq jc he hx ht=>?_);obtain⟨Bo,ay,e1,e2,e3⟩:=d.lamIn (n:=n) (fun e' s'=>wpAny aU.b.M (aU.A.deeper iq) (leaving iq e') (fun u_ s''=>RR Q aU.E (.error e') s'') (fun e'' s''=>RR Q aU.E (.error e'') s'') s') hn S hfl hfree he ht hx;have hs:∀a∈iq.locals::aU.fs,a∈aU.fs\/d.s.heap.get? a=none:=fun a m=>(List.mem_cons.mp m).elim (fun z=>.inr (z▸e3)) .inl;haveI here:fU (aU.sub (aU.A.deeper iq) iq ⟨sc.names,fl⟩ (fun e' s'=>wpAny aU.b.M (aU.A.deeper iq) (leaving iq e') (fun u_ s''=>RR Q aU.E (.error e') s'') (fun e'' s''=>RR Q aU.E (.error e'') s'') s') (aU.xs d.g false) (iq.locals::aU.fs) n Bo):=by obtain⟨fenv,outer,f1,_⟩:=aU.k.frames;exact⟨fenv::outer,congrArg (Option.map _) f1⟩
 subst e1;refine⟨ay.h.limit,codeAny_mono (R:=RR Q aU.E) (kla_codeExpr (hB (aU.sub _ _ _ _ _ _ _ Bo) ⟨rfl,Nat.le_refl _,hh⟩ ay _ ?_)) fun r s' h=>?_⟩
 ·cases rb with
 |bad=>exact p.elim
 |ok v cO=> intro bH val le4 rv;obtain⟨d',g1,g2,g3⟩:=d.handed bH hs (fa:=jX iq.locals) (h:=ay.s.heap) (by rw[<- e2];exact le4) (.same v p.1) rv;exact g1▸p.2 d' val g2 g3
 |exc x cO=> refine⟨hh,fun bH a le4 ex=>Dy.leaving bH (fr':=aU.env.frame) ex here fun cf le5 ex5=>?_⟩;obtain⟨d',g1,g2,g3⟩:=d.left cf hs (fa:=jX iq.locals) (h:=ay.s.heap) (by rw[<- e2];exact le4.trans le5);exact g1▸p d' a g2 (by rw[g3];exact ex5.leave)
 ·cases r with
 |error e=>exact h
 |ok f=>cases f<;>exact h
theorem G0(aU:Fr)(i₂:aU.e=⟨ou,[]⟩)(hh:aU.A.handled=none)(hn:n+1<=aU.n)(here:fU aU)(d:Dy aU ⟨tl,tq,[],ts⟩)(L:mc d.g.z env ow body sc l)(S:mK sc)(hfl:ad fl "<lambda>"=none->False)
  (hfree:∀n v,ad sc.names n=some .free->ad fl n=some v->∃a o val,ad (cY env sc.names []) n=some a/\aU.X a=some o/\o.data=.cell (some val)/\VV aU.b d.g v val/\seen false v=true) (hB:SE ⟨sc.names,fl⟩ n body ⟨[],tq,[],ts⟩ rb) (hr:lq cO rb y)
 (hns:d.s.heap.Ns aU.env.locals m) (hm:m "deed"=some (.ref l)) (p:aB d e6 (.ok (.ret (.f y)) ⟨[],cO.q,[],cO.st⟩) Q):Wp aU (execs (bp "_law_words").body aU.env) Q d.s:=by
 haveI hk:aU.env.kindOf "deed"=some .local:=aU.k.kinds "deed" .local (by rw[i₂];rfl);refine wpAny_execs_cons (uB ?_);generalize hE:l7 aU _ _=E';refine wpAny_execs_cons (wpAny_Return_some (CJ rfl (wpAny_Call_ofName (wpAny_Name (wpAny_loadName_local aU.k.fn hk hns hm (Fj ?_)) (by decide)))));refine Jz (aU.out E') hh hn (d.out E') L S hfl hfree hB ?_;cases hr with
|ok y=> refine⟨rfl,fun ay val le rv=>?_⟩;haveI lp:=Dy.push_le ay.back.forget (o:={cls:=.type "list",data:=.seq [val].toArray}) (ho:=rfl);exact p (ay.back.forget.push _ rfl) (.ret _) (Gh.Le.trans le lp) ⟨_,rfl,[val],⟨_,0,rfl,Z.add_same⟩,val,[],rfl,FR.mono (Gh.Le.z lp) rv,rfl⟩
|exc x hx=> intro ay a le ex;subst hE;exact Gn i₂ here (by haveI:=aU.k.units;omega) ay.back.forget ex hx fun bH tk gW=>p bH (.ret _) (Gh.Le.trans le gW) ⟨_,rfl,rfl⟩
theorem JZ(hv:bt e "_law_words" σ (.f (.fn 8)))(har:ar=ow)(S:mK sc)(hc:ff e sc.names=true)(hnl:ad sc.names "<lambda>"=none)(hs:∀n v,ad sc.names n=some .free->ad (bG e σ.l sc.names) n=some v->seen false v=true)
  (hB:SE ⟨sc.names,("<lambda>",.f .none)::bG e σ.l sc.names⟩ n body ⟨[],σ.q,[],σ.st⟩ rb) (hr:lq cO rb y):SE e (n+2) (.Call (.Name "_law_words" np) [.Lambda ar body sc lp] [] pos) σ (.ok (.f y) ⟨σ.l,cO.q,σ.h,cO.st⟩):=fun c i d Q p=>by
 subst har;refine wpAny_Call_ofName (ei hv i.e d fun fv rv=>?_);cases(show fv=.ref (c.b.fa 8)from rv);refine vj rfl (zG d i.e ⟨rfl,rfl,rfl⟩ hc fun ak l jd L=>⟨?_,wpAny_call (codeAny_mono (R:=RR Q c.E) (yp (vs:=[.lam]) (r:=.ok (.ret (.f y)) ⟨[],cO.q,[],cO.st⟩) (bZ (.same _ rfl) rfl) (nm:="_law_words") rfl rfl (bd.pl nJ.va nJ.args rfl) rfl c i.h i.n ak [.ref l] Q ⟨_,_,rfl,(by cases L with|mk o fd h1 h2=>exact .mk l o rfl h1 h2),rfl⟩ (p.after jd) fun jf aP il bs im am bQ g₂ hbs hsc hns here oE jT=>?_) fun r s' h=>?_)⟩)
 ·cases c.ok.fn 8 "_law_words" _ rfl (by decide) (by decide) (by decide)with|mk o fd a oc cvs ct ho hnt hdata=>exact qz (ak.h.b ho hnt) hdata
 ·have z2:am.g.z=jf.g.z:=by rw[g₂];rfl
  haveI L2:mc am.g.z c.env ow body sc l:=by rw[z2];cases L with|mk o fd h1 h2 h3 h4 h5 h6 h7 h8 h9 h10 h11=>exact .mk o fd ((Gh.Le.z bQ).f _ _ h1) h2 h3 h4 h5 h6 h7 h8 h9 h10 (h11.mono (Gh.Le.z bQ))
  generalize li:c.sub (c.A.deeper aP) aP ⟨(bp "_law_words").scope.names,[]⟩ il (c.xs jf.g false) (aP.locals::c.fs) (n+1) im=aU at am here jT;have i₂:aU.e=⟨ou,[]⟩:=by rw[<- li];exact congrArg (fun x=>Ev.mk x []) nJ.names
  have jS:aU.env=aP:=by rw[<- li]
  haveI Ll:aU.b=c.b:=by rw[<- li]
  haveI hX:∀a o,c.X a=some o->aU.X a=some o:=fun a o h=>by rw[<- li];exact iD jf.h h
  haveI hY:∀T a,¬T.keep false->jf.g.at_ T=some a->aU.X a=some (jf.g.ob T):=fun T a k h=>by rw[<- li];exact kS jf.h k h
  haveI hkk:aP.kindOf "deed"=some .local:=by rw[<- jS];exact aU.k.kinds "deed" .local (by rw[i₂];rfl)
  haveI hb:bs=[((Str.ofString "deed",Value.ref l):Str×Value)]:=(hbs (by cases h:(bp "_law_words").params.vararg with|none=>rfl|some b=>have:=nJ.va;rw[h]at this;cases this)).trans (by rw[nJ.args];rfl);rw[<- jS];refine G0 aU i₂ (by rw[<- li];exact i.h) (by rw[<- li];exact Nat.le_refl _) here am L2 S (fl:=("<lambda>",.f .none)::bG e σ.l sc.names) (fun h=>by cases(show some (V.f .none)=none from h)) (fun nn v q1 q2=>?_) hB hr (jS▸hns) ?_ jT
  ·haveI hne:ah nn "<lambda>"=false:=gQ fun z=>by rw[z,hnl]at q1;cases q1
   have q2:(match ah nn "<lambda>" with|true=>some (V.f .none)|false=>ad (bG e σ.l sc.names) nn)=some v:=q2;rw[hne]at q2;have okv:seen false v=true:=hs nn v q1 q2;have hl:=uq (env:=c.env) (acc:=[]) S.ok.nd q1;have VVe:∀{val},VV c.b jf.g v val->VV aU.b am.g v val:=fun r=>by rw[Ll,g₂];exact VV.enter okv r
   haveI ie:=i.e;subst ie;cases uD q2 with
  |cell z1 z2=> obtain⟨a,cv,e1,e2,e3,e4⟩:=jf.r.fr.cell nn z1;obtain⟨val,rfl,r⟩:=e4 v z2;rw[e1]at hl;exact⟨a,_,val,hl,hY _ _ id e2,e3,VVe r,okv⟩
  |free z1 z2=> haveI z0:=zV hc q1 z1;obtain⟨a,o,val,e1,e2,e3,r⟩:=jf.r.fr.free nn v z0 z2;rw[e1]at hl;exact⟨a,o,val,hl,hX _ _ e2,e3,VVe r,okv⟩
  ·rw[hb,jS];simp[bindL,hkk]
 ·cases r with
 |error e=>exact h
 |ok f=>cases f<;>exact h
end
section
open PySem PySem.W PyProof.Rows PySem.SeqAt PySem.Builtin.Str
noncomputable abbrev tx(ks:List Nat):Str:=⟨ks.toArray⟩
noncomputable abbrev sg(k:Nat):Str:=⟨#[k]⟩
noncomputable abbrev aH(xs:List Str):F:=.list (xs.map F.str)
noncomputable def tk:List Nat->Option Nat->List Nat->Bool
|[],none,_=>true
|[],some k,ks=>ks.getLast?==some k
|r::rs,l,ks=>match ks.dropWhile (· != r)with
 |[]=>false
 |_::t=>tk rs l t
noncomputable def ey:Option Nat->Str
|none=>tx []
|some k=>sg k
noncomputable def dT(rs:List Nat)(l:Option Nat):List Str:=rs.map sg++[ey l]
section
variable{ks:List Nat}{k r:Nat}
theorem vQ:(!(occurrences (tx ks) (sg r) 0 (tx ks).length 1).isEmpty)=decide (r∈ks):=StrLaws.found_one (tx ks) r
theorem Fi(h:ks.dropWhile (· != r)=a::t):∃i rest,occurrences (tx ks) (sg r) 0 (tx ks).length 1=i::rest/\ks.drop (i+1)=t:=by
 rcases StrLaws.occ_head (tx ks) (sg r) 1 (Nat.le_refl 1)with⟨_,hn⟩|⟨i,rest,h0,hi,hn⟩
 ·have:r∉ks:=fun hm=>by obtain⟨j,hj⟩:=List.getElem?_of_mem hm;exact hn j ((StrLaws.subAt_one (tx ks) r j).mpr hj)
  rw[dropWhile_none this]at h;cases(h)
 ·have hm:ks[i]?=some r:=(StrLaws.subAt_one (tx ks) r i).mp hi;have:=dropWhile_at hm fun k hk e=>hn k hk ((StrLaws.subAt_one (tx ks) r k).mpr e);rw[this]at h;cases(h);exact⟨i,rest,h0,rfl⟩
theorem pY:ks.dropWhile (· != r)=[]↔r∉ks:=by
 constructor
 ·intro h hm
  induction ks with
 |nil=>cases hm
 |cons a l ih=>
   by_cases q:a=r
   ·subst q;rw[List.dropWhile_cons_of_neg (by simp)]at h;cases h
   ·rw[List.dropWhile_cons_of_pos (by simp[q])]at h;exact ih h ((List.mem_cons.mp hm).resolve_left fun z=>q z.symm)
 ·exact dropWhile_none
theorem HR:Txt.endswith (tx ks) (tx [])=true:=by unfold Txt.endswith subAt;simp[Str.length]
theorem Kh:Txt.endswith (tx ks) (sg k)=(ks.getLast?==some k):=by
 unfold Txt.endswith;rw[show(sg k).length=1 from rfl,show(tx ks).length=ks.length from List.size_toArray ..];rcases List.eq_nil_or_concat ks with rfl|⟨l,a,rfl⟩
 ·rfl
 ·rw[List.concat_eq_append,List.getLast?_append,List.length_append];rw[show decide (0+1<=l.length+[a].length)=true from decide_eq_true (by simp),Bool.true_and];show subAt (tx (l++[a])) (sg k) (l.length+1-1)=(some a==some k);rw[Nat.add_sub_cancel];have h:=StrLaws.subAt_one (tx (l++[a])) k l.length;have hx:(tx (l++[a])).cps.toList[l.length]?=some a:=by show(l++[a])[l.length]?=_;simp
  rw[hx]at h;cases q:subAt (tx (l++[a])) (sg k) l.length with
 |true=>rw[q]at h;have:=h.mp ⟨by simp[Str.length],rfl⟩;rw[this];simp
 |false=>
   rw[q]at h;cases w:(some a==some k)with
  |false=>rfl
  |true=>exact absurd (h.mpr (eq_of_beq w)).2 Bool.false_ne_true
theorem FI:Txt.endswith (tx ks) (ey l)=tk [] l ks:=by
 cases l with
|none=>exact HR
|some k=>exact Kh
theorem IE{i:Nat}:dH (tx ks) (some (i:Int)) none=tx (ks.drop i):=by unfold dH;rw[jp]
end
noncomputable abbrev Iw:List (Str×NameKind):=[("runs",.local),("word",.local),("run",.local),("len",.globalImplicit)]
theorem GX:ci (bp "_law_takes") ["runs","word"] none Iw:=⟨by kernel_rfl,by kernel_rfl,by kernel_rfl⟩
structure Bu(all:F)(o:Bool)(last:Option Nat)(ps:List Str)(l:List (Str×V))(ks:List Nat):Prop where
 w:ad l "word"=some (.f (.str (tx ks)))
 r:ad l "runs"=some (.f all)
 z:ks.length<=1000
 o:∃rs:List Nat,ps=rs.map sg/\tk rs last ks=o
section
variable{n:Nat}{σ:Sx}{rs ks:List Nat}{last:Option Nat}
theorem JG(b:Option Int)(h:b=some (-1)):cut (xs++[a]) none b=xs:=by subst h;show((xs++[a]).take ((xs++[a]).length-(0+1))).drop 0=xs;rw[List.length_append];show((xs++[a]).take (xs.length+1-1))=xs;rw[Nat.add_sub_cancel,List.take_left'];rfl
theorem DR(hv:bV σ (xs++[x]) v)(hz:Nat.ble (xs++[x]).length aw=true):hH v none (some (.f (.int (-1)))) σ (.ok (.f (.list xs)) σ):=by haveI:=j8 (a:=none) (b:=some (.f (.int (-1)))) rfl rfl hv hz;rw[JG _ rfl]at this;exact this
theorem Eo(h:k+1<=n)(hk:k<=100):place n (Int.negSucc k)=some (n-(k+1)):=by unfold place;dsimp only;rw[Nat.ble_eq_true_of_le h,Nat.ble_eq_true_of_le (Nat.le_trans hk (by decide):k<=aw)]
theorem tD(hv:bV σ (xs++[x]) v):fB v (.f (.int (-1))) σ (.ok (.f x) σ):=by
 refine iF (j:=xs.length) hv ?_ ?_
 ·rw[List.length_append];exact Eo (k:=0) (Nat.le_add_left 1 _) (by decide)
 ·rw[bC,List.getElem?_append_right (Nat.le_refl _),Nat.sub_self];rfl
set_option tactic.hygienic true in
theorem oS(hz:ks.length<=1000)(hr:rs.length<=900):bo (n+1) 5 [.f (aH (dT rs last)),.f (.str (tx ks))] σ (.ok (.f (.bool (tk rs last ks))) σ):=by
 have hzr:Nat.ble (((dT rs last)).map F.str).length aw=true:=by unfold dT;rw[List.length_map,List.length_append,List.length_map];exact lz (k:=901) (Nat.succ_le_succ hr) (by decide)
 have eR:(dT rs last).map F.str=(rs.map sg).map F.str++[F.str (ey last)]:=by unfold dT;rw[List.map_append];rfl
 have hR:∀{τ:Sx},bV τ ((rs.map sg).map F.str++[F.str (ey last)]) (.f (aH (dT rs last))):=eR▸.f;refine' eC (σ:=σ) rfl (dn:="_law_takes") rfl rfl GX (fun h1 h2=>bd.pl h2 h1 rfl) rfl ?hB;refine' l8 (S:=List Nat) (enc:=fun l u_=>⟨l,σ.q,[],σ.st⟩) (l:=[("runs",.f (aH (dT rs last))),("word",.f (.str (tx ks)))]) (s:=ks) (fun u_ u_ u_=>rfl) (ps:=rs.map sg) (J:=Bu (aH (dT rs last)) (tk rs last ks) last) ?hx (fun u_ u_=>rfl) dc (.loc rfl) ⟨rfl,rfl,hz,rs,rfl,rfl⟩ ?h0 ?h1
 case hx=>exact cR (ae (.loc rfl rfl)) er (cc (gD aL)) (DR hR (eR▸hzr))
 case h0=>
  intro l ks j;obtain⟨rs',e,o⟩:=j.o;cases rs' with
 |cons _ _=>cases(e)
 |nil=> rw[<- o,<-FI];exact cN (ba (fun u_=>rfl) rfl rfl (ae (.loc rfl j.w)) (bL GG rfl (ai rfl (bh (ae (.loc rfl j.r)) (gD aL) (tD hR)) an) J3.up)) (bZ (.same _ rfl) rfl)
 case h1=>
  intro p ps l ks j;obtain⟨rs',e,o⟩:=j.o;cases rs' with
 |nil=>cases(e)
 |cons r rs'=>
   cases(e);have nw:ad (ag l "run" (.f (.str (sg r)))) "word"=some (.f (.str (tx ks))):=(aj rfl).trans j.w;have C:∀τ,aQ .NotIn (.f (.str (sg r))) (.f (.str (tx ks))) τ (decide (r∈ks) != true):=fun τ=>by have:=AA (σ:=τ) (neg:=true) (t:=tx ks) (u:=sg r);rw[vQ]at this;exact this
   have o:(match ks.dropWhile (· != r)with|[]=>false|_::t=>tk rs' last t)=tk rs last _:=o;cases hd:ks.dropWhile (· != r)with
  |nil=> rw[hd]at o;rw[decide_eq_false (pY.mp hd)]at C;rw[<- o];exact cu (az rfl (ae (.loc rfl aF)) (ae (.loc rfl nw)) (C _)) (cN sK (bZ (.same _ rfl) rfl))
  |cons a t=>
    rw[hd]at o;have hm:r∈ks:=Classical.byContradiction fun h=>by rw[pY.mpr h]at hd;cases(hd)
    rw[decide_eq_true hm]at C;obtain⟨i,rest,h0,h1⟩:=Fi hd;have zt:t.length<=1000:=Nat.le_trans (Nat.le_of_lt_succ (by rw[<- h1,List.length_drop];have:=j.z;omega)) j.z;refine bM (az rfl (ae (.loc rfl aF)) (ae (.loc rfl nw)) (C _)) (aD ?_);refine aC (aS (.loc rfl) rfl (cR (ae (.loc rfl nw)) (cc (aR (ba (fun u_=>rfl) rfl rfl (ae (.loc rfl nw)) (bL Cv rfl (ai rfl (ae (.loc rfl aF)) an) (Bs h0).up)) (bf (.glob rfl rfl) rfl (ai rfl (ae (.loc rfl aF)) an) (cx (.head _) (rj rfl))) eB)) er (gN rfl rfl ?z))) (aD ⟨ag (ag l "run" (.f (.str (sg r)))) "word" (.f (.str (tx t))),t,?e,?j⟩)
    case z=>exact lz (k:=1000) (by rw[show(tx ks).length=ks.length from List.size_toArray ..];exact j.z) (by decide)
    case e=> show(⟨ag _ "word" (.f (.str (dH (tx ks) (some ((i+1:Nat):Int)) none))),_,_,_⟩:Sx)=_;rw[IE,h1]
    case j=>exact⟨aF,(aj rfl).trans ((aj rfl).trans j.r),zt,rs',rfl,o⟩
end
noncomputable abbrev Ah:=List (Nat×List Nat)
noncomputable abbrev Rd:=List (Str×List Str)
noncomputable def bg(A:Ah):List (Str×F):=A.map fun p=>(sg p.1,aH (p.2.map sg))
noncomputable def bJ(R:Rd):List (Str×F):=R.map fun p=>(p.1,aH p.2)
structure j0(A:Ah)(R:Rd)(ns:List Nat):Prop where
 one:∀a∈ns,ad (bJ R) (sg a)=some (aH (dT [a] none))
 two:∀a∈ns,ad (bJ R) (tx [a,a])=some (aH (dT [a] (some a)))
 bar:∀p∈A,∀a∈p.2,ad (bJ R) (tx [a,124])=some (aH (dT [a,124] none))
 out:ad (bJ R) (tx [124])=some (aH (dT [124] none))
structure fb(A:Ah)(ns:List Nat):Prop where
 keys:A.map (·.1)=ns
 nd:ns.Nodup
 sub:∀p∈A,∀a∈p.2,a∈ns
 z:ns.length<=100
 zs:∀p∈A,p.2.length<=100
noncomputable def fc(A:Ah)(ks:List Nat):List Nat:=(A.filter fun p=>(p.2.filter fun a=>!tk [a] none ks).isEmpty).map (·.1)
theorem AK(h:sg a=sg b):a=b:=by cases h;rfl
theorem fJ:ah (sg a) (sg b)=(a==b):=by
 cases q:ah (sg a) (sg b)with
|true=>rw[AK (bD.mp q)];simp
|false=>
  cases w:a==b with
 |false=>rfl
 |true=>rw[eq_of_beq w,bU]at q;cases q
theorem xl{f:Nat×List Nat->α}:∀{A:Ah}{p:Nat×List Nat},(A.map (·.1)).Nodup->p∈A->ad (A.map fun p:Nat×List Nat=>(sg p.1,f p)) (sg p.1)=some (f p):=@fun a b c d=>match a,b,c,d with
|q::A,p,nd,m=>by
  have nd:=List.nodup_cons.mp nd;show(match ah (sg p.1) (sg q.1)with|true=>some (f q)|false=>ad (A.map fun p:Nat×List Nat=>(sg p.1,f p)) (sg p.1))=_;rw[fJ];rcases List.mem_cons.mp m with rfl|m
  ·rw[show(p.1==p.1)=true from beq_self_eq_true _]
  ·cases w:p.1==q.1 with
  |true=>exact absurd (show q.1∈A.map (·.1)from eq_of_beq w▸List.mem_map.mpr ⟨p,m,rfl⟩) nd.1
  |false=>exact xl nd.2 m
section
variable{n:Nat}{σ σ₁:Sx}{A:Ah}{R:Rd}{ns ks:List Nat}
theorem lN(hx:ST e n x σ (.ok k σ₁)):ST e n (.UnaryOp .Not x pos) σ (.ok (!k) σ₁):=HH hx
theorem DZ:aQ .Eq (.f (.list xs)) (.f (.list [])) τ xs.isEmpty:=by
 cases xs with
|nil=>exact bS (neg:=false) (ij .nil)
|cons a r=>exact bS (neg:=false) (qb rfl)
theorem iI:aQ .NotEq (.f (.list xs)) (.f (.list [])) τ (!xs.isEmpty):=by
 cases xs with
|nil=>exact bS (neg:=true) (ij .nil)
|cons a r=>exact bS (neg:=true) (qb rfl)
theorem fb.at(h:fb A ns){p:Nat×List Nat}(m:p∈A):ad (bg A) (sg p.1)=some (aH (p.2.map sg)):=xl (f:=fun p=>aH (p.2.map sg)) (by rw[h.keys];exact h.nd) m
noncomputable abbrev yA:List (Str×NameKind):=[("kept",.cell),("ahead",.cell),("reads",.cell)]
theorem wJ:ci (bp "_law_free") ["kept","ahead","reads"] none yA:=⟨by kernel_rfl,by kernel_rfl,by kernel_rfl⟩
theorem qM{l:List α}:(l.map f).isEmpty=l.isEmpty:=by cases l<;>rfl
theorem rA:aq eU 5=some (Str.ofString "_law_takes",bp "_law_takes"):=rfl
set_option tactic.hygienic true in
theorem vT{st:Nat}(hA:fb A ns)(hR:j0 A R ns)(hz:ks.length<=1000):EB ⟨yA,[]⟩ (n+1) (bp "_law_free").body ⟨[("kept",.f (.str (tx ks))),("ahead",.f (.dict (bg A))),("reads",.f (.dict (bJ R)))],sq,[],st⟩ fun r=>∃l,r=.ok (.ret (.p (.loc 0))) ⟨l,sq,[.list ((fc A ks).map fun y=>F.str (sg y))],st⟩:=by
 haveI eR:((fc A ks).map fun y=>F.str (sg y))=((A.filter fun p:Nat×List Nat=>(p.2.filter fun a=>!tk [a] none ks).isEmpty).map fun p:Nat×List Nat=>F.str (sg p.1)):=by unfold fc;rw[List.map_map];rfl
 rw[eR];refine' cN (uM (xs:=A) (item:=fun p:Nat×List Nat=>.f (.str (sg p.1))) (keep:=fun p:Nat×List Nat=>(p.2.filter fun a=>!tk [a] none ks).isEmpty) (val:=fun p=>.str (sg p.1)) (fun u_ u_=>rfl) (.of (by decide +kernel)) (ae (.cell rfl rfl)) oZ (fun i τ h=>fy (f:=fun p:Nat×List Nat=>F.str (sg p.1)) (by unfold bg;rw[List.map_map,List.map_map];rfl) i τ) ⟨?t,?g,?z⟩) ⟨_,rfl⟩
 case z=>rw[<- List.length_map (f:=(·.1)),hA.keys];exact Nat.le_trans hA.z (by decide)
 case g=>intro p hp _ acc;exact ae (.loc rfl rfl)
 case t=>
  intro p hp acc;haveI E:((p.2.filter fun a=>!tk [a] none ks).map fun a=>F.str (sg a)).isEmpty=(p.2.filter fun a=>!tk [a] none ks).isEmpty:=qM;rw[<- E];refine' gT (az rfl (mM (xs:=p.2) (item:=fun a=>.f (.str (sg a))) (fun u_ u_=>rfl) (.of rfl) (bh (ae (cS rfl rfl rfl)) (ae (.loc rfl rfl)) (fM .f (hA.at hp))) dc (fun i τ h=>fy (f:=fun a=>F.str (sg a)) (List.map_map ..) i τ) ⟨?t2,?g2,?z2⟩ rfl) (bq an rfl rfl) DZ)
  case z2=>exact Nat.le_trans (hA.zs p hp) (by decide)
  case g2=>intro a ha _ acc2;exact ae (.loc rfl rfl)
  case t2=> intro a ha acc2;exact gT (lN (dY (fun u_=>rfl) (bf (.glob rfl rfl) rfl (ai rfl (bh (ae (um rfl rfl rfl)) (ae (.loc rfl rfl)) (fM .f (hR.one a (hA.sub p hp a ha)))) (ai rfl (ae (um rfl rfl rfl)) an)) (dD rA rfl (oS hz (show 1<=900 by decide)))) jH))
theorem F0(hA:fb A ns)(hR:j0 A R ns)(hz:ks.length<=1000):bo (n+2) 6 [.f (.str (tx ks)),.f (.dict (bg A)),.f (.dict (bJ R))] σ (.ok (.f (.list ((fc A ks).map fun y=>F.str (sg y)))) σ):=
 eC (σ:=σ) rfl (dn:="_law_free") rfl rfl wJ (fun h1 h2=>bd.pl h2 h1 rfl) rfl ((vT hA hR hz).mono fun r h=>by obtain⟨l,rfl⟩:=h;exact bZ (.list 0 _ rfl rfl) rfl)
theorem Il(hA:fb A ns)(hR:j0 A R ns)(hz:ks.length<=1000):bo (n+2) 6 [.f (.str (tx ks)),.f (.dict (bg A)),.f (.dict (bJ R))] σ (.ok (.p (.loc σ.h.length)) {σ with h:=σ.h++[.list ((fc A ks).map fun y=>F.str (sg y))]}):=
 eC (σ:=σ) rfl (dn:="_law_free") rfl rfl wJ (fun h1 h2=>bd.pl h2 h1 rfl) rfl ((vT hA hR hz).mono fun r h=>by obtain⟨l,rfl⟩:=h;exact .own _ ⟨l,σ.q,_,σ.st⟩ 0 _ rfl rfl rfl)
end
noncomputable def wA:Str:="node \"'\" was not added using add()"
noncomputable def wB(x:Nat):Str:=eV (eV "node '" (sg x)) "' was not passed out (still not ready)"
noncomputable def wC(x:Nat):Str:=eV (eV "node '" (sg x)) "' was already marked done"
noncomputable def df(ps:List Nat):List (List Nat):=[124]::ps.map fun a=>[a,124]
noncomputable def pu(ps ks:List Nat)(x:Nat):F:=match tk [x] (some x) (ks++[x])with
|true=>.str (wC x)
|false=>match((df ps).filter fun r=>!tk r none ks).isEmpty with
 |false=>.str (wB x)
 |true=>.list [.none]
noncomputable abbrev Hu:List (Str×NameKind):=[("x",.local),("kept",.cell),("ahead",.local),("reads",.cell),("_law_takes",.globalImplicit)]
theorem xe:ci (bp "_law_refusal") ["x","kept","ahead","reads"] none Hu:=⟨by kernel_rfl,by kernel_rfl,by kernel_rfl⟩
theorem gB{l:List α}:(l.filter fun u_=>true)=l:=List.filter_eq_self.mpr fun u_ u_=>rfl
theorem CV:bo (n+1) 7 [.f (.str "'"),.f (.str (tx ks)),.f v,.f w] σ (.ok (.f (.str wA)) σ):=by refine' eC (σ:=σ) rfl (dn:="_law_refusal") rfl rfl xe (fun h1 h2=>bd.pl h2 h1 rfl) rfl ?hB;exact cu (az rfl (ae (.loc rfl rfl)) aJ (bS (neg:=false) iH)) (cN aJ (bZ (.same _ rfl) rfl))
theorem jK(h:ks.length<=k)(hk:k<=2000):Nat.ble (tx ks).length aw=true:=lz (k:=k) (by rw[show(tx ks).length=ks.length from List.size_toArray ..];exact h) hk
set_option tactic.hygienic true in
theorem BG(hA:fb A ns)(hR:j0 A R ns)(hz:ks.length<=900)(hp:p∈A)(hq:p.1≠39):bo (n+2) 7 [.f (.str (sg p.1)),.f (.str (tx ks)),.f (.dict (bg A)),.f (.dict (bJ R))] σ (.ok (.f (pu p.2 ks p.1)) σ):=by
 refine' eC (σ:=σ) rfl (dn:="_law_refusal") rfl rfl xe (fun h1 h2=>bd.pl h2 h1 rfl) rfl ?hB;haveI hx:p.1∈ns:=by rw[<- hA.keys];exact List.mem_map.mpr ⟨p,hp,rfl⟩
 haveI hxx:∀τ,aQ .Eq (.f (.str (sg p.1))) (.f (.str "'")) τ false:=fun τ=>by haveI:=bS (σ:=τ) (neg:=false) (iH (n:=6) (x:=sg p.1) (y:="'"));rw[show ah (sg p.1) "'"=false from fJ.trans (beq_eq_false_iff_ne.mpr hq)]at this;exact this
 refine' bM (az rfl (ae (.loc rfl rfl)) aJ (hxx _)) (aD ?_);haveI hadd:∀τ,ds .Add (.f (.str (tx ks))) (.f (.str (sg p.1))) τ (.ok (.f (.str (tx (ks++[p.1])))) τ):=fun τ=>gd (Nat.ble_eq_true_of_le (show ks.length+1<=aw from Nat.le_trans (Nat.succ_le_succ hz) (by decide)));unfold pu;refine' nX (dY (fun u_=>rfl) (bf (.glob rfl rfl) rfl (ai rfl (bh (ae (.cell rfl rfl)) (aR (ae (.loc rfl rfl)) (ae (.loc rfl rfl)) (gd rfl)) (fM .f (hR.two p.1 hx))) (ai rfl (aR (ae (.cell rfl rfl)) (ae (.loc rfl rfl)) (hadd _)) an)) (dD rA rfl (oS (ks:=ks++[p.1]) (by rw[List.length_append];exact Nat.le_trans (Nat.succ_le_succ hz) (by decide)) (show 1<=900 by decide)))) jH) ?s1 ?s2
 case s1=> intro h;rw[h];exact cN (aR (aR aJ (ae (.loc rfl rfl)) (gd rfl)) aJ (gd rfl)) (bZ (.same _ rfl) rfl)
 case s2=>
  intro h;rw[h];refine aD ?_;haveI hrow:∀r∈df p.2,ad (bJ R) (tx r)=some (aH (dT r none)):=fun r hr=>by
   rcases List.mem_cons.mp hr with rfl|hr
   ·exact hR.out
   ·obtain⟨a,ha,rfl⟩:=List.mem_map.mp hr;exact hR.bar p hp a ha
  haveI zr:(df p.2).length<=101:=by unfold df;rw[List.length_cons,List.length_map];exact Nat.succ_le_succ (hA.zs p hp)
  haveI zr2:∀r∈df p.2,r.length<=900:=fun r hr=>by
   rcases List.mem_cons.mp hr with rfl|hr
   ·show 1<=900;decide
   ·obtain⟨a,ha,rfl⟩:=List.mem_map.mp hr;show 2<=900;decide
  haveI E:(((df p.2).filter fun r=>!tk r none ks).map fun r=>F.str (tx r)).isEmpty=((df p.2).filter fun r=>!tk r none ks).isEmpty:=qM;haveI eL:F.list ([F.str "|"]++(p.2.filter fun u_=>true).map fun a=>F.str (tx [a,124]))=.list ((df p.2).map fun r=>F.str (tx r)):=by unfold df;rw[gB,List.map_cons,List.map_map];rfl
  rw[<- E];refine' nX (az rfl (mM (xs:=df p.2) (item:=fun r=>.f (.str (tx r))) (keep:=fun r=>!tk r none ks) (val:=fun r=>.str (tx r)) (fun u_ u_=>rfl) (.of rfl) (aR (bq (ai rfl aJ an) rfl rfl) (mM (xs:=p.2) (item:=fun a=>.f (.str (sg a))) (keep:=fun u_=>true) (val:=fun a=>.str (tx [a,124])) (fun u_ u_=>rfl) (.of rfl) (bh (ae (.loc rfl rfl)) (ae (.loc rfl rfl)) (fM .f (hA.at hp))) dc (fun i τ h=>fy (f:=fun a=>F.str (sg a)) (List.map_map ..) i τ) ⟨fun u_ u_ u_=>gK,fun a ha u_ acc=>aR (ae (.loc rfl rfl)) aJ (gd rfl),Nat.le_trans (hA.zs p hp) (by decide)⟩ rfl) (jr .f .f ?zz)) (eL▸dc) (fun i τ h=>fy (f:=fun r=>F.str (tx r)) rfl i τ) ⟨?t,?g,?z⟩ rfl) (bq an rfl rfl) iI) ?s3 ?s4
  case zz=>rw[List.length_map,gB];exact lz (k:=101) (by show 1+_<=_;haveI:=hA.zs p hp;lia) (by decide)
  case z=>exact Nat.le_trans zr (by decide)
  case g=>intro r hr _ acc;exact ae (.loc rfl rfl)
  case t=> intro r hr acc;exact gT (lN (dY (fun u_=>rfl) (bf (.glob rfl rfl) rfl (ai rfl (bh (ae (cS rfl rfl rfl)) (ae (.loc rfl rfl)) (fM .f (hrow r hr))) (ai rfl (ae (cS rfl rfl rfl)) an)) (dD rA rfl (oS (Nat.le_trans hz (by decide)) (zr2 r hr)))) jH))
  case s3=> intro h;rw[show(((df p.2).filter fun r=>!tk r none ks).map fun r=>F.str (tx r)).isEmpty=false from by cases q:(((df p.2).filter fun r=>!tk r none ks).map fun r=>F.str (tx r)).isEmpty with|false=>rfl|true=>rw[q]at h;cases h];exact cN (aR (aR aJ (ae (.loc rfl rfl)) (gd rfl)) aJ (gd rfl)) (bZ (.same _ rfl) rfl)
  case s4=> intro h;rw[show(((df p.2).filter fun r=>!tk r none ks).map fun r=>F.str (tx r)).isEmpty=true from by cases q:(((df p.2).filter fun r=>!tk r none ks).map fun r=>F.str (tx r)).isEmpty with|true=>rfl|false=>rw[q]at h;cases h];exact aD (cN (bq (ai rfl cw an) rfl rfl) (bZ (.same _ rfl) rfl))
section
variable{y z u:Str}{k k':Nat}
theorem EZ(hy:jw e y=true)(hz:jw e z=true)(hu:jw e u=true)(hl:(q.line==p.line)=true)(hl2:(r.line==p.line)=true)(nd:[y,z,u].eraseDups=[y,z,u])(hs:∀x∈[dW,dX,ir],bx x=false)(hf:[dW,dX,ir].all (foldedForSure 8)=false)(hc:[dW,dX,ir].all (constantsAlone 8)=false):
  ∀c:Fr,c.e=e->swappedStores [.Tuple [.Name y p,.Name z q,.Name u r] k tp] (.Tuple [dW,dX,ir] k' p') c.env=pure (some [y,z,u]):=fun c i=>by
 rw[th (ns:=[y,z,u]) (by rw[uy c];rfl) (AJ hs) (m9 (nD i hy) (beq_self_eq_true p.line) (m9 (nD i hz) hl (m9 (nD i hu) hl2 rfl))),nd,hf,hc];rfl
end
noncomputable def fH(n:Nat)(ns:List Nat):List Nat:=if ns.length < n % (ns.length+3)then[]else((ns++[39]).drop (n % (ns.length+3))).take 1++((ns++[39]).drop (n / (ns.length+3) % (2*ns.length+2))).take 1
noncomputable abbrev Ag:List (Str×NameKind):=[("n",.local),("names",.local),("first",.local),("second",.local),("signs",.local),("len",.globalImplicit)]
theorem BS:ci (bp "_law_deed") ["n","names"] none Ag:=⟨by kernel_rfl,by kernel_rfl,by kernel_rfl⟩
section
variable{m n:Nat}{σ:Sx}{ns:List Nat}
theorem g9(ht:ST e n t σ (.ok k σ₁))(h1:k=true->SE e n b σ₁ r)(h2:k=false->SE e n o σ₁ r):SE e n (.IfExp t b o pos) σ r:=fun c i d Q p=>wpAny_IfExp (ht c i d _ fun d' v le rv=>by
 cases(rv);cases k with
|true=>exact h1 rfl c i d' Q (p.after le)
|false=>exact h2 rfl c i d' Q (p.after le))
theorem kT{a b:Nat}(hj:j=(b:Int))(h:0 < b):ds .Mod (.f (.int (a:Int))) (.f (.int j)) σ (.ok (.f (.int ((a % b:Nat):Int))) σ):=by subst hj;haveI:=A0 (σ:=σ) (i:=(a:Int)) (j:=(b:Int)) (decide_eq_true (by lia));rw[Int.fmod_eq_emod_of_nonneg _ (by lia)]at this;exact this
theorem nG{a b:Nat}(hj:j=(b:Int))(h:0 < b)(h2:b < 1073741824):ds .FloorDiv (.f (.int (a:Int))) (.f (.int j)) σ (.ok (.f (.int ((a / b:Nat):Int))) σ):=by subst hj;haveI:=Dd (σ:=σ) (i:=(a:Int)) (j:=(b:Int)) (decide_eq_true (by lia)) (decide_eq_true (by simpa using h2));rw[Int.fdiv_eq_ediv_of_nonneg _ (by lia)]at this;exact this
theorem AU{i:Nat}:cut xs (some (i:Int)) (some ((i+1:Nat):Int))=(xs.drop i).take 1:=by
 show(xs.take (Nat.min (i+1) xs.length)).drop (Nat.min i xs.length)=_;rcases Nat.lt_or_ge i xs.length with h|h
 ·rw[show Nat.min (i+1) xs.length=i+1 from Nat.min_eq_left h,show Nat.min i xs.length=i from Nat.min_eq_left (Nat.le_of_lt h),List.drop_take,Nat.add_sub_cancel_left]
 ·rw[show Nat.min (i+1) xs.length=xs.length from Nat.min_eq_right (Nat.le_succ_of_le h),show Nat.min i xs.length=xs.length from Nat.min_eq_right h,List.take_length,List.drop_length,List.drop_eq_nil_of_le h];rfl
theorem lZ(h:i<=aw):place n (i:Int)=some i:=by show(match Nat.ble i aw with|true=>some i|false=>none)=some i;rw[Nat.ble_eq_true_of_le h]
set_option tactic.hygienic true in
theorem IW(hm:m < 200)(hz:ns.length<=100)(h128:∀a∈ns,a < 128):bo (n+1) 1 [.f (.int (m:Int)),.f (.str (tx ns))] σ (.ok (.f (aH ((fH m ns).map sg))) σ):=by
 haveI len:∀τ,cX (.builtin "len") [.f (.str (tx ns))] τ (.ok (.f (.int (ns.length:Int))) τ):=fun τ=>rj (jK hz (by decide));haveI hzS:(ns++[39]).length<=101:=by rw[List.length_append];exact Nat.succ_le_succ hz
 generalize hf:m % (ns.length+3)=f;generalize hs:m / (ns.length+3) % (2*ns.length+2)=s;haveI hs2:s < 300:=by rw[<- hs];exact Nat.lt_of_lt_of_le (Nat.mod_lt _ (by lia)) (by lia)
 unfold fH;rw[hf,hs];refine' eC (σ:=σ) rfl (dn:="_law_deed") rfl rfl BS (fun h1 h2=>bd.pl h2 h1 rfl) rfl ?hB;haveI call:∀{τ:Sx}{p1 p2 p3:Pos},ad τ.l "names"=some (.f (.str (tx ns)))->SE ⟨Ag,[]⟩ n (.Call (.Name "len" p1) [.Name "names" p2] [] p3) τ (.ok (.f (.int (ns.length:Int))) τ):=fun h=>bf (.glob rfl rfl) rfl (ai rfl (ae (.loc rfl h)) an) (cx (.head _) (len _));refine' aC (yQ (ys:=["first","second","signs"]) (vs:=[.f (.int (f:Int)),.f (.int (s:Int)),.f (.str (tx (ns++[39])))]) (σ₁:=⟨[("n",.f (.int (m:Int))),("names",.f (.str (tx ns)))],σ.q,[],σ.st⟩) (ai rfl ?a1 (ai rfl ?a2 (ai rfl ?a3 an))) rfl (by decide) (fun y m=>?st) (EZ rfl rfl rfl rfl rfl (by decide) (by decide) rfl rfl)) ?_
 case a1=>rw[<- hf];exact aR (ae (.loc rfl rfl)) (aR (call rfl) aL eB) (kT (b:=ns.length+3) rfl (Nat.succ_pos _))
 case a2=>rw[<- hs];exact aR (aR (ae (.loc rfl rfl)) (aR (call rfl) aL eB) (nG (b:=ns.length+3) rfl (Nat.succ_pos _) (by lia))) (aR (aR aL (call rfl) (xj rfl (decide_eq_true (by lia)))) aL eB) (kT (b:=2*ns.length+2) (by push_cast;rfl) (Nat.succ_pos _))
 case a3=>exact aR (ae (.loc rfl rfl)) aJ (gd (Nat.ble_eq_true_of_le (show ns.length+1<=aw from Nat.le_trans (Nat.succ_le_succ hz) (by decide))))
 case st=>
  rcases List.mem_cons.mp m with rfl|m
  ·exact .loc rfl
  ·rcases List.mem_cons.mp m with rfl|m
   ·exact .loc rfl
   ·cases List.mem_singleton.mp m;exact .loc rfl
 haveI C:∀τ,aQ .Gt (.f (.int (f:Int))) (.f (.int (ns.length:Int))) τ (decide (ns.length < f)):=fun τ=>by haveI:=B7 (σ:=τ) (i:=(f:Int)) (j:=(ns.length:Int));rw[show decide ((ns.length:Int) < (f:Int))=decide (ns.length < f)from decide_eq_decide.mpr (by lia)]at this;exact this
 refine' cN (σ₁:=⟨[("n",.f (.int (m:Int))),("names",.f (.str (tx ns))),("signs",.f (.str (tx (ns++[39])))),("second",.f (.int (s:Int))),("first",.f (.int (f:Int)))],σ.q,[],σ.st⟩) (g9 (σ₁:=⟨[("n",.f (.int (m:Int))),("names",.f (.str (tx ns))),("signs",.f (.str (tx (ns++[39])))),("second",.f (.int (s:Int))),("first",.f (.int (f:Int)))],σ.q,[],σ.st⟩) (az rfl (ae (.loc rfl rfl)) (call rfl) (C _)) ?b1 ?b2) (bZ (.same _ rfl) rfl)
 case b1=> intro h;rw[if_pos (of_decide_eq_true h)];exact bq (us:=[]) (xs:=[]) an rfl rfl
 case b2=>
  intro h;haveI h:=of_decide_eq_false h;rw[if_neg h];haveI hlt:f < (ns++[39]).length:=by rw[List.length_append];show f < ns.length+1;lia
  rw[List.take_one,List.head?_drop,List.getElem?_eq_getElem hlt,show(some (ns++[39])[f]).toList=[(ns++[39])[f]]from rfl];haveI eL:aH (([(ns++[39])[f]]++((ns++[39]).drop s).take 1).map sg)=.list ([F.str (sg (ns++[39])[f])]++((((ns++[39]).drop s).take 1).filter fun u_=>true).map fun a=>F.str (sg a)):=by rw[gB];unfold aH;rw[List.map_append,List.map_append,List.map_map,List.map_map];rfl
  rw[eL];refine aR (bq (ai rfl (bh (ae (.loc rfl rfl)) (ae (.loc rfl rfl)) (nU (lZ (Nat.le_trans (Nat.le_of_lt hlt) (Nat.le_trans hzS (by decide)))) (bC.trans (List.getElem?_eq_getElem hlt)))) an) rfl rfl) (mM (xs:=((ns++[39]).drop s).take 1) (item:=fun a=>.f (.str (sg a))) (keep:=fun u_=>true) (val:=fun a=>.str (sg a)) (fun u_ u_=>rfl) (.of rfl) (cR (ae (.loc rfl rfl)) (cc (ae (.loc rfl rfl))) (cc (aR (ae (.loc rfl rfl)) aL eB)) (gN (l:=some (s:Int)) (u:=some ((s+1:Nat):Int)) rfl rfl (jK hzS (by decide)))) (Ds ?ha) (fun i τ h=>fy (f:=fun a=>F.str (sg a)) ?hn i τ) ⟨fun u_ u_ u_=>gK,fun a ha u_ acc=>ae (.loc rfl rfl),?hz⟩ rfl) (jr .f .f ?zz)
  case hn=>show(cut (ns++[39]) (some (s:Int)) (some ((s+1:Nat):Int))).map _=_;rw[AU]
  case hz=>rw[List.length_take];exact Nat.le_trans (Nat.min_le_left _ _) (by decide)
  case zz=>rw[gB,List.length_map,List.length_take];exact lz (k:=2) (by haveI:=Nat.min_le_left 1 ((ns++[39]).drop s).length;show 1+_<=2;lia) (by decide)
  case ha=>
   show(cut (ns++[39]) (some (s:Int)) (some ((s+1:Nat):Int))).toArray.all (· < 128)=true;rw[AU,List.all_toArray];refine List.all_eq_true.mpr fun a ha=>decide_eq_true ?_;rcases List.mem_append.mp (List.mem_of_mem_drop (List.mem_of_mem_take ha))with h|h
   ·exact h128 a h
   ·cases List.mem_singleton.mp h;decide
end
noncomputable def aA:Ah->Nat->List Nat
|[],_=>[]
|p::r,x=>match p.1==x with
 |true=>p.2
 |false=>aA r x
noncomputable def ce(A:Ah)(L:List Nat):List Nat:=L.filter fun a=>!(L.filter fun x=>(aA A x).contains a).isEmpty
noncomputable def gH(A:Ah)(L:List Nat):Nat->List Nat->Option (Option (List Nat))
|0,_=>none
|m+1,ws=>match ws.getLast? with
 |none=>some none
 |some w=>match L.filter fun x=>(aA A x).contains w with
  |[]=>none
  |a::_=>match ws.findIdx? (·==a)with
   |some i=>some (some (ws.drop i++[a]))
   |none=>gH A L m (ws++[a])
theorem rQ:∀{A:Ah}{x:Nat},x∈A.map (·.1)->ad (bg A) (sg x)=some (aH ((aA A x).map sg)):=@fun a b c=>match a,b,c with
|p::r,x,m=>by
  show(match ah (sg x) (sg p.1)with|true=>some (aH (p.2.map sg))|false=>ad (bg r) (sg x))=some (aH ((match p.1==x with|true=>p.2|false=>aA r x).map sg));rw[fJ,show(x==p.1)=(p.1==x)from Bool.beq_comm];cases w:p.1==x with
 |true=>rfl
 |false=> refine rQ ((List.mem_cons.mp m).resolve_left fun z=>?_);rw[z,beq_self_eq_true]at w;cases w
theorem tZ:∀{A:Ah}{p:Nat×List Nat},(A.map (·.1)).Nodup->p∈A->aA A p.1=p.2:=@fun a b c d=>match a,b,c,d with
|q::r,p,nd,m=>by
  have nd:=List.nodup_cons.mp nd;show(match q.1==p.1 with|true=>q.2|false=>aA r p.1)=_;rcases List.mem_cons.mp m with rfl|m
  ·rw[beq_self_eq_true]
  ·cases w:q.1==p.1 with
  |true=>exact absurd (show q.1∈r.map (·.1)from eq_of_beq w▸List.mem_map.mpr ⟨p,m,rfl⟩) nd.1
  |false=>exact tZ nd.2 m
theorem rP:∀{A:Ah}{x:Nat},x∈A.map (·.1)->∃p∈A,p.1=x/\aA A x=p.2:=@fun a b c=>match a,b,c with
|q::r,x,m=>by
  show ∃p∈q::r,p.1=x/\(match q.1==x with|true=>q.2|false=>aA r x)=p.2;cases w:q.1==x with
 |true=>exact⟨q,.head _,eq_of_beq w,rfl⟩
 |false=> obtain⟨p,h1,h2⟩:=rP (A:=r) (x:=x) ((List.mem_cons.mp m).resolve_left fun z=>by rw[z,beq_self_eq_true]at w;cases w);exact⟨p,.tail _ h1,h2⟩
theorem Ea(hv:bV σ xs v)(h:gc 6 (.list xs) y k):aQ (ft neg .Eq .NotEq) v (.f y) σ (k != neg):=fun c u_ d a b ra rb Q q=>by
 revert q;apply iW hv ra;intro l vs n hI hr q;have le:d.g.z.Le (d.g.z.add l (aV vs n)):=⟨fun x o e=>by
  by_cases z:x=l
  ·subst z;rw[(d.h.zf _ _ e).symm.trans hI |> Option.some.inj];exact Z.add_same
  ·exact(Z.add_ne z).trans e,fun u_ u_ e=>e⟩
 have r:=(h c.b (d.g.z.add l (aV vs n)) d.s (.ref l) b (fun x o e=>by
  by_cases z:x=l
  ·subst z;rw[Z.add_same]at e;cases e;exact hI
  ·exact d.h.zf x o ((Z.add_ne z).symm.trans e)) ⟨vs,⟨l,n,rfl,Z.add_same⟩,FRs.mono le hr⟩ (FR.mono le rb)).2 c.A (Nat.lt_of_succ_lt c.u7)
 have q:=q d (Le.refl d);cases neg with
|true=>rw[Bool.bne_true]at q;exact r.ne _ _ _ _ q
|false=>rw[Bool.bne_false]at q;exact r.eq _ _ _ _ q
theorem uw:∀{ys:List Nat},cT 6 (ys.map fun y=>F.str (sg y)) ((ys.map fun y=>F.str (sg y)).map fun u_=>F.str (sg a)) (ys.map fun y=>y==a):=by
 intro ys
 induction ys with
|nil=> exact .nil
|cons y ys ih=> exact .cons _ _ _ _ _ _ (by haveI:=iH (n:=6) (x:=sg y) (y:=sg a);rw[fJ]at this;exact this) ih
theorem si{ys:List Nat}(hv:bV σ (ys.map fun y=>F.str (sg y)) v):aQ .In (.f (.str (sg a))) v σ (ys.contains a):=by haveI:=xJ (neg:=false) hv (uw (a:=a));rw[Bool.bne_false,List.any_map]at this;rw[show ys.contains a=ys.any (id ∘ fun y=>y==a)from by rw[List.contains_eq_any_beq];congr 1;funext y;exact Bool.beq_comm];exact this
theorem rH{ys:List Nat}:aH (ys.map sg)=.list (ys.map fun y=>F.str (sg y)):=by unfold aH;rw[List.map_map];rfl
noncomputable abbrev cL(K:List Nat):F:=.list (K.map fun y=>F.str (sg y))
theorem iw(hset:∀(env:Env)v,foldedSetIterable it env v=pure v)(S:eE sc e y)(hx:SE e n it σ (.ok v σ₁))(hs:bX v σ₁ nx)(hnx:∀i τ,τ.q=σ₁.q->nx i τ=some (xs[i]?.map item))(A:kl e n elt sc y ifs σ₁ xs item keep val)(hd:ew σ₁.h.length σ₁.h=true)(he:(xs.filter keep).map val=ys):
  SE e n (.ListComp elt [⟨.Name y py,it,ifs,0⟩] sc pos) σ (.ok (.f (.list ys)) σ₁):=he▸mM hset S hx hs hnx A hd
theorem tw(hy:bF e x)(hset:∀(env:Env)v,foldedSetIterable it env v=pure v)(S:eE sc e y)(hx:SE e n it σ (.ok v σ₁))(hs:bX v σ₁ nx)(hnx:∀i τ,τ.q=σ₁.q->nx i τ=some (xs[i]?.map item))(A:kl e n elt sc y ifs σ₁ xs item keep val)(hd:ew σ₁.h.length σ₁.h=true)(he:(xs.filter keep).map val=ys):
  SS e n (.Assign [.Name x px] (.ListComp elt [⟨.Name y py,it,ifs,0⟩] sc pos) ps) σ (.ok .next {σ₁ with l:=ag σ₁.l x (.f (.list ys))}):=he▸KH hy hset S hx hs hnx A hd
theorem og{K:List Nat}(i:Nat)(τ:Sx):bw (K.map fun y=>F.str (sg y)) i τ=some (K[i]?.map fun a=>V.f (.str (sg a))):=fy (f:=fun a=>F.str (sg a)) rfl i τ
noncomputable def zH(ns:List (Str×NameKind))(fr:List Str)(p:Str×NameKind):Bool:=!(p.2==.free)||(ad ns p.1==some .cell||(ad ns p.1==some .free&&aO fr p.1))
theorem qZ:∀{l:List Str},aO l x=true->x∈l:=@fun a b=>match a,b with
|y::r,h=>by
  haveI h:(match ah x y with|true=>true|false=>aO r x)=true:=h;cases q:ah x y with
 |true=>rw[bD.mp q];exact .head _
 |false=>rw[q]at h;exact .tail _ (qZ h)
theorem eE.inn{y:Str}(fr:List Str)(h1:(oB sc.kind&&nS sc.names&&nr sc.names y)=true)(h2:ad e.names "<lambda>"=none)(h3:ad e.free "<lambda>"=none)(h4:sc.names.all (zH ns fr)=true)
  (h5:∀n∈fr,∃v,ad (bG e l ns) n=some v):eE sc ⟨ns,bG e l ns⟩ y:=by
 refine .of ?_;obtain⟨h1,k3⟩:=(Bool.and_eq_true _ _).mp h1;obtain⟨k1,k2⟩:=(Bool.and_eq_true _ _).mp h1;haveI hm:ad (bG e l ns) "<lambda>"=none:=by
  cases q:ad (bG e l ns) "<lambda>" with
 |none=>rfl
 |some v=>cases uD q with
  |cell z _=>rw[h2]at z;cases z
  |free _ z=>rw[h3]at z;cases z
 haveI hc:ff ⟨ns,bG e l ns⟩ sc.names=true:=by
  unfold ff;rw[show(⟨ns,bG e l ns⟩:Ev).free=bG e l ns from rfl,hm];refine List.all_eq_true.mpr fun p m=>?_;haveI:=List.all_eq_true.mp h4 p m;unfold zH at this;unfold sx;rcases(Bool.or_eq_true _ _).mp this with q|q
  ·rw[q];rfl
  ·rcases(Bool.or_eq_true _ _).mp q with q|q
   ·rw[q,Bool.true_or,Bool.or_true]
   ·obtain⟨q1,q2⟩:=(Bool.and_eq_true _ _).mp q;obtain⟨v,hv⟩:=h5 p.1 (qZ q2);rw[q1,show ad (bG e l ns) p.1=some v from hv];show(_||(_||true))=true;rw[Bool.or_true,Bool.or_true]
 unfold zm;rw[k1,k2,hc,k3];rfl
noncomputable abbrev BY:List (Str×NameKind):=[("ahead",.cell),("left",.cell),("turn",.local),("a",.local),("way",.cell)]
theorem F4:ci (bp "_law_ring") ["ahead"] none BY:=⟨by kernel_rfl,by kernel_rfl,by kernel_rfl⟩
structure Ih(A:Ah)(ns L:List Nat)(ps:List Str)(l:List (Str×V))(K:List Nat):Prop where
 a:ad l "ahead"=some (.f (.dict (bg A)))
 l:ad l "left"=some (.f (cL K))
 s:∀x∈K,x∈ns
 o:ps.foldl (fun K u_=>ce A K) K=L
 z:K.length<=1000
inductive yw(A:Ah)(σ:Sx)(L:List Nat)(res:Option (List Nat))(m:Nat)(τ:Sx):Prop
|mk (l:List (Str×V)) (ws:List Nat):τ=⟨l,σ.q,[.list (ws.map fun y=>F.str (sg y))],σ.st⟩->ad l "ahead"=some (.f (.dict (bg A)))->ad l "left"=some (.f (cL L))->ad l "way"=some (.p (.loc 0))->gH A L m ws=some res->m+ws.length<=900->yw A σ L res m τ
set_option tactic.hygienic true in
theorem Ks(hA:fb A ns)(hL:ns.foldl (fun K u_=>ce A K) ns=L)(hM:M<=800)(hw:gH A L M (L.take 1)=some res):bo (n+1) 2 [.f (.dict (bg A))] σ (.ok (jM (res.map fun r=>r.map sg)) σ):=by
 have hlk:∀x∈ns,ad (bg A) (sg x)=some (.list ((aA A x).map fun y=>F.str (sg y))):=fun x hx=>by rw[<- rH];exact rQ (by rw[hA.keys];exact hx)
 refine' eC (σ:=σ) rfl (dn:="_law_ring") rfl rfl F4 (fun h1 h2=>bd.pl h2 h1 rfl) rfl ?hB;have eK:((bg A).map (·.1)).map F.str=ns.map fun y=>F.str (sg y):=by unfold bg;rw[List.map_map,List.map_map,<-hA.keys,List.map_map];rfl
 have z0:ns.length<=1000:=Nat.le_trans hA.z (by decide);have itA:∀τ,bX (.f (.dict (bg A))) τ (bw (ns.map fun y=>F.str (sg y))):=fun τ=>eK▸oZ;refine' aC (tw (xs:=ns) (item:=fun a=>.f (.str (sg a))) (keep:=fun u_=>true) (val:=fun a=>.str (sg a)) (ys:=ns.map fun y=>F.str (sg y)) (.cell rfl) (fun u_ u_=>rfl) (.of rfl) (ae (.cell rfl rfl)) (itA _) (fun i τ h=>og i τ) ⟨fun u_ u_ u_=>gK,fun a ha u_ acc=>ae (.loc rfl rfl),z0⟩ rfl (by rw[gB])) ?_;refine' l8 (S:=List Nat) (enc:=fun l u_=>⟨l,σ.q,[],σ.st⟩) (l:=[("ahead",.f (.dict (bg A))),("left",.f (cL ns))]) (s:=ns) (fun u_ u_ u_=>rfl) (ps:=ns.map sg) (J:=Ih A ns L) (v:=.f (.dict (bg A))) (ae (.cell rfl rfl)) (fun u_ u_=>rfl) (by rw[List.map_map];exact itA _) (.loc rfl) ⟨rfl,rfl,fun u_ h=>h,?ho,z0⟩ ?h0 ?h1
 case ho=>rw[List.foldl_map];exact hL
 case h1=> intro p ps l K j;have zK:=j.z;refine aC (tw (xs:=K) (item:=fun a=>.f (.str (sg a))) (keep:=fun a=>!(K.filter fun x=>(aA A x).contains a).isEmpty) (val:=fun a=>.str (sg a)) (ys:=(ce A K).map fun y=>F.str (sg y)) (.cell rfl) (fun u_ u_=>rfl) (.of rfl) (ae (.cell rfl ((aj rfl).trans j.l))) dc (fun i τ h=>og i τ) ⟨fun a ha acc=>?_,fun a ha u_ acc=>ae (.cell rfl rfl),zK⟩ rfl rfl) (aD ⟨_,ce A K,rfl,(aj rfl).trans ((aj rfl).trans j.a),aF,fun x hx=>j.s x (List.mem_filter.mp hx).1,j.o,Nat.le_trans (List.length_filter_le ..) zK⟩);haveI E:((K.filter fun x=>(aA A x).contains a).map fun y=>F.str (sg y)).isEmpty=(K.filter fun x=>(aA A x).contains a).isEmpty:=qM;rw[<- E];refine gT (az rfl (iw (xs:=K) (item:=fun a=>.f (.str (sg a))) (keep:=fun x=>(aA A x).contains a) (val:=fun a=>.str (sg a)) (ys:=(K.filter fun x=>(aA A x).contains a).map fun y=>F.str (sg y)) (fun u_ u_=>rfl) (.inn ["ahead"] rfl rfl rfl rfl fun nn m=>by cases List.mem_singleton.mp m;exact⟨_,ia (.inl ⟨rfl,(aj rfl).trans j.a⟩) rfl⟩) (ae (cS rfl rfl ((aj rfl).trans j.l))) dc (fun i τ h=>og i τ) ⟨fun x hx acc2=>?_,fun x hx u_ acc2=>ae (.loc rfl rfl),zK⟩ rfl rfl) (bq an rfl rfl) iI);exact gT (az rfl (ae (cS rfl rfl rfl)) (bh (ae (um rfl rfl (ia (.inl ⟨rfl,(aj rfl).trans j.a⟩) rfl))) (ae (.loc rfl rfl)) (fM .f (hlk x (j.s x hx)))) (si .f))
 case h0=>
  intro l K j;cases(show K=L from j.o);have zL:L.length<=1000:=j.z;refine' aC (aS (.cell rfl) rfl (Ji (xs:=L.map fun y=>F.str (sg y)) (ae (.cell rfl j.l)) er (cc (aL (i:=1))) rfl rfl .f (by rw[List.length_map];exact bA zL (by decide)))) ?_;refine' jP (J:=yw A σ L res) M ⟨_,L.take 1,?e,(aj rfl).trans j.a,(aj rfl).trans j.l,aF,hw,?z⟩ ?w
  case e=>
   show(⟨_,_,[.list (cut (L.map fun y=>F.str (sg y)) none (some 1))],_⟩:Sx)=_;rw[show cut (L.map fun y=>F.str (sg y)) none (some 1)=(L.take 1).map fun y=>F.str (sg y)from ?ec];rfl
   case ec=>
    show((L.map _).take (Nat.min 1 (L.map _).length)).drop 0=_;rw[List.drop_zero,List.map_take,List.length_map];cases L with
   |nil=>rfl
   |cons a r=>rw[show Nat.min 1 (a::r).length=1 from Nat.min_eq_left (Nat.succ_le_succ (Nat.zero_le _))]
  case z=>rw[List.length_take];have:=Nat.min_le_left 1 L.length;lia
  case w=>
   clear hL hM hw itA eK z0;intro m τ o_;obtain⟨l,ws,rfl,h1,h2,h3,hw,z⟩:=o_;have zw:ws.length<=900:=Nat.le_trans (Nat.le_add_left _ _) z;have C:∀τ,aq τ.h 0=some (.list (ws.map fun y=>F.str (sg y)))->aQ .NotEq (.p (.loc 0)) (.f (.list [])) τ (!ws.isEmpty):=fun τ h=>by
    have e:gc 6 (.list (ws.map fun y=>F.str (sg y))) (.list []) ws.isEmpty:=by
     cases ws with
    |nil=>exact ij .nil
    |cons a r=>exact qb rfl
    have:=Ea (neg:=true) (.p _ (.loc 0 h)) e;rw[Bool.bne_true]at this;exact this
   cases m with
  |zero=>cases hw
  |succ m=>
   have hw:(match ws.getLast? with|none=>some none|some w=>match L.filter fun x=>(aA A x).contains w with|[]=>none|a::_=>match ws.findIdx? (·==a)with|some i=>some (some (ws.drop i++[a]))|none=>gH A L m (ws++[a]))=some res:=hw;rcases List.eq_nil_or_concat ws with rfl|⟨l0,w,e⟩
   ·cases hw;exact⟨false,_,az rfl (ae (.cell rfl h3)) (bq an rfl rfl) (C _ rfl),aD (cN cw (bZ (.same _ rfl) rfl))⟩
   ·rw[List.concat_eq_append]at e;haveI hs:=j.s;clear j;subst e;rw[List.getLast?_append,show[w].getLast?.or l0.getLast?=some w from rfl]at hw;rw[uA]at C;have eW:(l0++[w]).map (fun y=>F.str (sg y))=l0.map (fun y=>F.str (sg y))++[F.str (sg w)]:=List.map_append;refine⟨true,_,az rfl (ae (.cell rfl h3)) (bq an rfl rfl) (C _ rfl),?_⟩;clear C;dsimp only at hw;cases hK:L.filter fun x=>(aA A x).contains w with
   |nil=>rw[hK]at hw;cases hw
   |cons a tl=>
    rw[hK]at hw;dsimp only at hw;refine aC (aS (.loc rfl) rfl (bh (iw (xs:=L) (item:=fun a=>.f (.str (sg a))) (keep:=fun x=>(aA A x).contains w) (val:=fun a=>.str (sg a)) (ys:=(a::tl).map fun y=>F.str (sg y)) (fun u_ u_=>rfl) (.of rfl) (ae (.cell rfl h2)) dc (fun i τ h=>og i τ) ⟨fun x hx acc=>?_,fun x hx u_ acc=>ae (.loc rfl rfl),zL⟩ rfl (by rw[hK])) aL (iF .f (lZ (i:=0) (by decide)) rfl))) ?_
    ·exact gT (az rfl (bh (ae (cS rfl rfl h3)) (gD aL) (tD (.p _ (.loc 0 (by rw[<- eW];rfl))))) (bh (ae (cS rfl rfl h1)) (ae (.loc rfl rfl)) (fM .f (hlk x (hs x hx)))) (si .f))
    generalize hws:l0++[w]=ws at hw zw z;clear eW hK;haveI h1':ad (ag l "a" (.f (.str (sg a)))) "ahead"=some (.f (.dict (bg A))):=(aj rfl).trans h1;haveI h2':ad (ag l "a" (.f (.str (sg a)))) "left"=some (.f (cL L)):=(aj rfl).trans h2;have h3':ad (ag l "a" (.f (.str (sg a)))) "way"=some (.p (.loc 0)):=(aj rfl).trans h3;haveI hc:ws.contains a=(ws.findIdx? (·==a)).isSome:=by rw[List.findIdx?_isSome,List.contains_eq_any_beq];congr 1;funext y;exact Bool.beq_comm
    have CI:∀τ,aq τ.h 0=some (.list (ws.map fun y=>F.str (sg y)))->aQ .In (.f (.str (sg a))) (.p (.loc 0)) τ (ws.findIdx? (·==a)).isSome:=fun τ h=>hc▸si (.p _ (.loc 0 h));cases hi:ws.findIdx? (·==a)with
   |some i=>
     rw[hi]at hw CI;cases hw;haveI hf:(ws.map sg).findIdx? (fun y=>ah y (sg a))=some i:=by rw[List.findIdx?_map,<-hi];congr 1;funext y;exact fJ
     haveI em:(ws.map sg).map F.str=ws.map fun y=>F.str (sg y):=by rw[List.map_map];rfl
     refine cu (az rfl (ae (.loc rfl aF)) (ae (.cell rfl h3')) (CI _ rfl)) (cN (aR (cR (ae (.cell rfl h3')) (cc (ba (fun u_=>rfl) rfl rfl (ae (.cell rfl h3')) (bL (gG (.p _ (.loc 0 rfl)) PySem.F.slot_list_index PySem.F.type_list_index) rfl (ai rfl (ae (.loc rfl aF)) an) (xV (em▸.p _ (.loc 0 rfl)) hf (by rw[List.length_map];exact lz (k:=900) zw (by decide))).up))) er (j8 rfl rfl (.p _ (.loc 0 rfl)) (by rw[List.length_map];exact lz (k:=900) zw (by decide)))) (bq (ai rfl (ae (.loc rfl aF)) an) rfl rfl) (jr .f .f ?z2)) ?r)
     case z2=>rw[jp,List.length_drop,List.length_map];exact lz (k:=901) (Nat.succ_le_succ (Nat.le_trans (Nat.sub_le _ _) zw)) (by decide)
     case r=>
      haveI ev:F.list ((ws.map fun y=>F.str (sg y)).drop i++[F.str (sg a)])=.list (((ws.drop i++[a]).map sg).map F.str):=by rw[List.map_map,List.map_append,List.map_drop];rfl
      rw[jp,ev];exact bZ (.same _ rfl) rfl
   |none=> rw[hi]at hw CI;refine bM (az rfl (ae (.loc rfl aF)) (ae (.cell rfl h3')) (CI _ rfl)) (aD ?_);refine aC (fu (ba (fun u_=>rfl) rfl rfl (ae (.cell rfl h3')) (bL (gG (.p _ (.loc 0 rfl)) PySem.F.slot_list_append PySem.F.type_list_append) rfl (ai rfl (ae (.loc rfl aF)) an) (jY (.loc 0 rfl) (.loc 0 _ rfl) (by rw[List.length_map];exact lz (k:=900) zw (by decide))).up)) rfl) (aD ⟨m,Nat.lt_succ_self m,_,ws++[a],?_,h1',h2',h3',hw,by rw[List.length_append,List.length_singleton];lia⟩);rw[List.map_append];rfl
noncomputable def lK(told k m:Nat):Bool:=decide (told / 2 ^ (k*(k-1) / 2+m) % 2=1)
noncomputable def cF(told:Nat)(ns:List Nat)(k:Nat):List Nat:=((List.range k).filter (lK told k)).map fun m=>ns.getD m 0
noncomputable def kq(told:Nat)(ns:List Nat):List (List Nat):=match decide (told / 32768 % 4=3)with
|true=>((List.range ns.length).map (cF told ns)).modify (told / 131072 % ns.length) (·++[ns.getD (told / 786432 % ns.length) 0])
|false=>(List.range ns.length).map (cF told ns)
noncomputable def gU(told:Nat)(ns:List Nat):Ah:=ns.zip (kq told ns)
noncomputable def cn:List Nat->Nat->List (Str×Nat)
|[],_=>[]
|x::r,k=>(sg x,k)::cn r (k+1)
theorem JT:∀{a:List Nat}{k:Nat},cn a k++[(sg x,k+a.length)]=cn (a++[x]) k:=by
 intro a
 induction a with
|nil=> intro _;exact rfl
|cons y r ih=> intro k;haveI:=ih (k:=k+1);rw[show k+1+r.length=k+(y::r).length from by rw[List.length_cons];lia]at this;exact congrArg ((sg y,k)::·) this
theorem Ho:∀{a:List Nat}{k:Nat},(cn a k).length=a.length:=by
 intro a
 induction a with
|nil=> intro _;exact rfl
|cons _ _ ih=> intro _;exact congrArg (·+1) ih
theorem EF:∀{a:List Nat}{k:Nat},x∉a->ad (cn a k) (sg x)=none:=by
 intro a
 induction a with
|nil=> intro _ _;exact rfl
|cons y r ih=> intro k h;show(match ah (sg x) (sg y)with|true=>some k|false=>ad (cn r (k+1)) (sg x))=none;rw[fJ,show(x==y)=false from beq_eq_false_iff_ne.mpr fun z=>h (z▸.head _)];exact ih fun m=>h (.tail _ m)
theorem yB:∀{a:List Nat}{k i x:Nat},a.Nodup->a[i]?=some x->ad (cn a k) (sg x)=some (k+i):=@fun b c d e f g=>match b,c,d,e,f,g with
|y::r,k,0,x,_,h=>by cases h;show(match ah (sg y) (sg y)with|true=>some k|false=>_)=_;rw[bU];rfl
|y::r,k,i+1,x,nd,h=>by haveI nd:=List.nodup_cons.mp nd;haveI h:r[i]?=some x:=h;show(match ah (sg x) (sg y)with|true=>some k|false=>ad (cn r (k+1)) (sg x))=_;rw[fJ,show(x==y)=false from beq_eq_false_iff_ne.mpr fun z=>nd.1 (z▸List.mem_of_getElem? h)];haveI:=yB (k:=k+1) nd.2 h;rw[show k+1+i=k+(i+1)from by lia]at this;exact this
noncomputable abbrev cb(r:List Nat):AO:=.list (r.map fun y=>F.str (sg y))
theorem vW(h:pre.length=k):aq (pre++post) (k+i)=aq post i:=by subst h;rw[bC,bC,List.getElem?_append_right (Nat.le_add_right _ _),Nat.add_sub_cancel_left]
theorem E8(hp:pre.length=k)(hl:ns.length=rows.length):lE (pre++rows.map cb) (cn ns k)=some (bg (ns.zip rows)):=by
 induction ns generalizing rows pre k with
|nil=>cases rows with
 |nil=>rfl
 |cons _ _=>cases hl
|cons x ns ih=>cases rows with
 |nil=>cases hl
 |cons r rows=> haveI ih:=ih (rows:=rows) (pre:=pre++[cb r]) (k:=k+1) (by rw[List.length_append,hp];rfl) (Nat.succ.inj hl);rw[List.append_assoc]at ih;show((qa (aq (pre++(r::rows).map cb) k)).bind fun xs=>(lE (pre++(r::rows).map cb) (cn ns (k+1))).map ((sg x,.list xs)::·))=_;rw[show aq (pre++(r::rows).map cb) k=some (cb r)from vW (i:=0) hp,show lE (pre++(r::rows).map cb) (cn ns (k+1))=_ from ih];show some ((sg x,cL r)::bg (ns.zip rows))=some ((sg x,aH (r.map sg))::bg (ns.zip rows));rw[rH]
noncomputable abbrev sY:List (Str×NameKind):=[("told",.cell),("names",.cell),("ahead",.local),("k",.cell),("range",.globalImplicit),("len",.globalImplicit)]
theorem Fx:ci (bp "_law_steps") ["told","names"] none sY:=⟨by kernel_rfl,by kernel_rfl,by kernel_rfl⟩
section
variable{e:Ev}{n:Nat}{σ σ₁ au bl cD:Sx}{x o i:Expr}{pos p:Pos}
theorem Fk(hs:∀env:Env,swapsWith x (some (.Subscript o i p)) pos.line env=pure false)(hx:SE e n x σ (.ok v σ₁))(ho:SE e n o σ₁ (.ok w au))(hi:SE e n i au (.ok u bl))(hk:jQ w u v bl (.ok () cD)):SS e n (.Assign [.Subscript o i p] x pos) σ (.ok .next cD):=fun c ii h d Q p=>
 wpAny_Assign_Subscript (hx c ii d _ fun d' a le r=>ho c ii d' _ fun am b bQ bY=>hi c ii am _ fun ay u' cC oF=>hk c ay b u' a _ (VD.mono cC bY) oF (VD.mono cC (VD.mono bQ r)) fun bH u_ gW u_=>fL (p.after (le.trans (bQ.trans (cC.trans gW))))) (hs c.env)
end
theorem KM:ot 0 1 n=(List.range n).map fun(j:Nat)=>F.int (j:Int):=by unfold ot;refine List.map_congr_left fun j u_=>?_;rw[Int.zero_add,Int.mul_one]
theorem xX{n:Nat}(h:n<=1000):bX (.f (.rng 0 (n:Int) 1)) σ (bw ((List.range n).map fun(j:Nat)=>F.int (j:Int))):=by
 rw[<- KM];refine wz ?_ ?_
 ·exact small_one (by decide) (by decide) (by lia) (by lia)
 ·unfold Builtin.Range.rangeSize;simp;lia
section
variable{n:Nat}{σ:Sx}{told:Nat}
theorem hJ{i x:Nat}(h:ks[i]?=some x)(hz:ks.length<=1000):fB (.f (.str (tx ks))) (.f (.int (i:Int))) τ (.ok (.f (.str (sg x))) τ):=
 nU (lZ (Nat.le_trans (Nat.le_of_lt (List.getElem?_eq_some_iff.mp h).1) (Nat.le_trans hz (by decide)))) (bC.trans h)
theorem EN{k m:Nat}(hk:k<=6)(hm:m < k)
  (h1:SE e n (.Name "told" p0) τ (.ok (.f (.int (told:Int))) τ)) (h2:∀p,SE e n (.Name "k" p) τ (.ok (.f (.int (k:Int))) τ)) (h3:SE e n (.Name "m" p1) τ (.ok (.f (.int (m:Int))) τ)) :
  ST e n (.Compare (.BinOp (.BinOp (.Name "told" p0) .FloorDiv (.BinOp (.Constant (.int 2) j1 q1) .Pow (.BinOp (.BinOp (.BinOp (.Name "k" q2) .Mult (.BinOp (.Name "k" q3) .Sub (.Constant (.int 1) j2 q4) q5) q6) .FloorDiv (.Constant (.int 2) j3 q7) q8) .Add (.Name "m" p1) q9) q10) q11) .Mod (.Constant (.int 2) j4 q12) q13) [.Eq] [.Constant (.int 1) j5 p2] p3) τ (.ok (lK told k m) τ):=by
 haveI e1:((k:Int)-1)=((k-1:Nat):Int):=by lia
 haveI e2:(k:Int)*((k:Int)-1)=((k*(k-1):Nat):Int):=by rw[e1];push_cast;rfl
 haveI b1:k*(k-1)<=30:=by haveI:k*(k-1)<=6*5:=Nat.mul_le_mul hk (by lia);exact this
 haveI b2:k*(k-1) / 2+m<=20:=by lia
 haveI E:SE e n (.BinOp (.BinOp (.BinOp (.Name "k" q2) .Mult (.BinOp (.Name "k" q3) .Sub (.Constant (.int 1) j2 q4) q5) q6) .FloorDiv (.Constant (.int 2) j3 q7) q8) .Add (.Name "m" p1) q9) τ (.ok (.f (.int ((k*(k-1) / 2+m:Nat):Int))) τ):=by rw[show((k*(k-1) / 2+m:Nat):Int)=((k*(k-1) / 2:Nat):Int)+(m:Int)from Int.natCast_add ..];refine aR (aR (aR (h2 _) (aR (h2 _) aL qX) (xj (decide_eq_true (by lia)) (decide_eq_true (by lia)))) aL ?_) h3 eB;rw[e2];exact nG (b:=2) rfl (by decide) (by decide)
 haveI P:=w5 (σ:=τ) (i:=2) (j:=((k*(k-1) / 2+m:Nat):Int)) (Nat.ble_eq_true_of_le (by rw[Int.toNat_natCast];lia)) (decide_eq_true (by lia)) (by decide) (by decide);rw[Int.toNat_natCast,show(2:Int) ^ (k*(k-1) / 2+m)=((2 ^ (k*(k-1) / 2+m):Nat):Int)from by push_cast;rfl]at P;haveI pos:0 < 2 ^ (k*(k-1) / 2+m):=Nat.two_pow_pos _;haveI C:=bS (σ:=τ) (neg:=false) (iu (n:=6) (i:=((told / 2 ^ (k*(k-1) / 2+m) % 2:Nat):Int)) (j:=1));rw[Bool.bne_false,show((((told / 2 ^ (k*(k-1) / 2+m) % 2:Nat):Int))==1)=lK told k m from by unfold lK;rw[Bool.eq_iff_iff,beq_iff_eq,decide_eq_true_iff];lia]at C;refine az rfl (aR (aR h1 (aR aL E P) (nG (b:=2 ^ (k*(k-1) / 2+m)) rfl pos (Nat.lt_of_le_of_lt (Nat.pow_le_pow_right (by decide) b2) (by decide)))) aL (kT (b:=2) rfl (by decide))) aL C
end
section
variable{n:Nat}{σ:Sx}{told:Nat}{ns:List Nat}
inductive AM(σ:Sx)(told:Nat)(ns:List Nat)(xs:List F)(τ:Sx):Prop
|mk (l:List (Str×V)) (i:Nat):i<=ns.length->xs=((List.range ns.length).drop i).map (fun(j:Nat)=>F.int (j:Int))->τ=⟨l,σ.q,.dl (cn (ns.take i) 1)::((List.range i).map (cF told ns)).map cb,σ.st⟩->ad l "told"=some (.f (.int (told:Int)))->ad l "names"=some (.f (.str (tx ns)))->ad l "ahead"=some (.p (.loc 0))->AM σ told ns xs τ
theorem Ac:∀{rows:List (List Nat)}{i:Nat}{r:List Nat},rows[i]?=some r->bc (rows.map cb) i (.list (r.map (fun y=>F.str (sg y))++[F.str (sg x)]))=(rows.modify i (·++[x])).map cb:=@fun a b c d=>match a,b,c,d with
|r::rows,0,_,h=>by cases h;show .list _::rows.map cb=cb (r++[x])::rows.map cb;unfold cb;rw[List.map_append];rfl
|_::rows,i+1,r,h=>congrArg (cb _::·) (Ac (rows:=rows) h)
theorem zO(h:i < ns.length):((List.range ns.length).map (cF told ns))[i]?=some (cF told ns i):=by rw[List.getElem?_map,List.getElem?_range h];rfl
theorem yd(hk:k<=6):(cF told ns k).length<=6:=by unfold cF;rw[List.length_map];exact Nat.le_trans (List.length_filter_le ..) (by rw[List.length_range];exact hk)
theorem uE{a b:Nat}{L:Nat}(hx:SE e n x τ (.ok (.f (.int (a:Int))) τ))(hb:0 < b)(hb2:b < 1073741824)(hL:0 < L)(hy:SE e n y τ (.ok (.f (.int (L:Int))) τ)):SE e n (.BinOp (.BinOp x .FloorDiv (.Constant (.int (b:Int)) j p1) p2) .Mod y p3) τ (.ok (.f (.int ((a / b % L:Nat):Int))) τ):=
 aR (aR hx aL (nG (b:=b) rfl hb hb2)) hy (kT (b:=L) rfl hL)
set_option tactic.hygienic true in
theorem Em(nd:ns.Nodup)(hz:ns.length<=6)(h0:0 < ns.length):bo (n+1) 0 [.f (.int (told:Int)),.f (.str (tx ns))] σ (.ok (.f (.dict (bg (gU told ns)))) σ):=by
 haveI zN:ns.length<=1000:=Nat.le_trans hz (by decide);haveI len:∀τ,cX (.builtin "len") [.f (.str (tx ns))] τ (.ok (.f (.int (ns.length:Int))) τ):=fun τ=>rj (jK hz (by decide));haveI call:∀{τ:Sx}{p1 p2 p3:Pos},ad τ.l "names"=some (.f (.str (tx ns)))->SE ⟨sY,[]⟩ n (.Call (.Name "len" p1) [.Name "names" p2] [] p3) τ (.ok (.f (.int (ns.length:Int))) τ):=fun h=>bf (.glob rfl rfl) rfl (ai rfl (ae (.cell rfl h)) an) (cx (.head _) (len _));refine' eC (σ:=σ) rfl (dn:="_law_steps") rfl rfl Fx (fun h1 h2=>bd.pl h2 h1 rfl) rfl ?hB;refine' aC (aS (.loc rfl) rfl DO) ?_;refine' nu (J:=AM σ told ns) (xs:=(List.range ns.length).map fun(j:Nat)=>F.int (j:Int)) (bf (.glob rfl rfl) rfl (ai rfl (call rfl) an) (cx (by decide +kernel) vo)) (fun u_ u_=>rfl) (xX zN) (.cell rfl) ⟨_,0,Nat.zero_le _,rfl,rfl,rfl,rfl,rfl⟩ ?r ?h1
 case h1=>
  intro a xs τ o_;obtain⟨l,i,hi,e,rfl,l1,l2,l3⟩:=o_;rcases Nat.lt_or_ge i ns.length with hlt|hge
  ·rw[List.drop_eq_getElem_cons (by rw[List.length_range];exact hlt),List.getElem_range]at e;cases(e);haveI k1:ad (ag l "k" (.f (.int (i:Int)))) "told"=some (.f (.int (told:Int))):=(aj rfl).trans l1;haveI k2:ad (ag l "k" (.f (.int (i:Int)))) "names"=some (.f (.str (tx ns))):=(aj rfl).trans l2;haveI k3:ad (ag l "k" (.f (.int (i:Int)))) "ahead"=some (.p (.loc 0)):=(aj rfl).trans l3;haveI hget:∀m,m < ns.length->ns[m]?=some (ns.getD m 0):=fun m h=>by rw[List.getD_eq_getElem?_getD,List.getElem?_eq_getElem h];rfl
   haveI hni:ns.getD i 0∉ns.take i:=fun h=>by haveI:=nd;rw[<- List.take_append_drop i ns,List.drop_eq_getElem_cons hlt]at this;exact(List.nodup_append.mp this).2.2 _ h _ (.head _) (by rw[List.getD_eq_getElem?_getD,List.getElem?_eq_getElem hlt];rfl)
   refine aC (Fk (fun u_=>rfl) (uM (xs:=List.range i) (item:=fun(m:Nat)=>.f (.int (m:Int))) (keep:=lK told i) (val:=fun m=>.str (sg (ns.getD m 0))) (fun u_ u_=>rfl) (.of rfl) (bf (.glob rfl rfl) rfl (ai rfl (ae (.cell rfl aF)) an) (cx (by decide +kernel) vo)) (xX (Nat.le_trans hi zN)) (fun i τ h=>fy (f:=fun(m:Nat)=>F.int (m:Int)) rfl i τ) ⟨fun m hm acc=>?t,fun m hm u_ acc=>?g,by rw[List.length_range];exact Nat.le_trans hi zN⟩) (ae (.loc rfl k3)) (bh (ae (.cell rfl k2)) (ae (.cell rfl aF)) (hJ (hget i hlt) zN)) (Dv rfl (EF hni) (by rw[Ho,List.length_take];exact lz (k:=6) (Nat.le_trans (Nat.min_le_left ..) (Nat.le_trans hi hz)) (by decide)))) (aD ⟨_,i+1,hlt,rfl,?e,k1,k2,k3⟩)
   case t=>exact gT (EN (Nat.le_trans hi hz) (List.mem_range.mp hm) (ae (cS rfl rfl k1)) (fun p=>ae (cS rfl rfl aF)) (ae (.loc rfl rfl)))
   case g=>exact bh (ae (cS rfl rfl k2)) (ae (.loc rfl rfl)) (hJ (hget m (Nat.lt_trans (List.mem_range.mp hm) hlt)) zN)
   case e=>
    haveI e1:cn (ns.take i) 1++[(sg (ns.getD i 0),(AO.dl (cn (ns.take i) 1)::((List.range i).map (cF told ns)).map cb).length)]=cn (ns.take (i+1)) 1:=by rw[List.length_cons,List.length_map,List.length_map,List.length_range,<-List.take_append_getElem hlt,<-JT,List.length_take,Nat.min_eq_left hi,Nat.add_comm,List.getD_eq_getElem?_getD,List.getElem?_eq_getElem hlt];rfl
    haveI e2:((List.range (i+1)).map (cF told ns)).map cb=((List.range i).map (cF told ns)).map cb++[cb (cF told ns i)]:=by rw[List.range_succ,List.map_append,List.map_append];rfl
    haveI e3:cb (cF told ns i)=.list (((List.range i).filter (lK told i)).map fun m=>F.str (sg (ns.getD m 0))):=by unfold cb cF;rw[List.map_map];rfl
    rw[<- e1,e2,e3];rfl
  ·rw[List.drop_eq_nil_of_le (by rw[List.length_range];exact hge)]at e;cases(e)
 case r=>
  intro τ o_;obtain⟨l,i,hi,e,rfl,l1,l2,l3⟩:=o_;haveI hL:i=ns.length:=by haveI:=congrArg List.length e;rw[List.length_map,List.length_drop,List.length_range]at this;exact Nat.le_antisymm hi (Nat.le_of_sub_eq_zero this.symm)
  subst hL;rw[List.take_length];haveI lR:((List.range ns.length).map (cF told ns)).length=ns.length:=by rw[List.length_map,List.length_range]
  haveI fin:∀(rows:List (List Nat))(l:List (Str×V)),rows.length=ns.length->kq told ns=rows->ad l "ahead"=some (.p (.loc 0))->∀{p1 p2:Pos},EB ⟨sY,[]⟩ n [.Return (some (.Name "ahead" p1)) p2] ⟨l,σ.q,.dl (cn ns 1)::rows.map cb,σ.st⟩ fun r=>dC false σ r (.ok (.f (.dict (bg (gU told ns)))) σ):=fun rows l h1 h2 h3 p1 p2=>by unfold gU;rw[h2];exact cN (ae (.loc rfl h3)) (bZ (.dl 0 (cn ns 1) _ rfl rfl (E8 (pre:=[.dl (cn ns 1)]) rfl h1.symm)) rfl)
  haveI C:∀τ,aQ .Eq (.f (.int ((told / 32768 % 4:Nat):Int))) (.f (.int 3)) τ (decide (told / 32768 % 4=3)):=fun τ=>by haveI:=bS (σ:=τ) (neg:=false) (iu (n:=6) (i:=((told / 32768 % 4:Nat):Int)) (j:=3));rw[Bool.bne_false,show(((told / 32768 % 4:Nat):Int)==3)=decide (told / 32768 % 4=3)from by rw[Bool.eq_iff_iff,beq_iff_eq,decide_eq_true_iff];lia]at this;exact this
  refine nX (az rfl (uE (b:=32768) (L:=4) (ae (.cell rfl l1)) (by decide) (by decide) (by decide) aL) aL (C _)) (fun h=>?_) fun h=>aD (fin _ l lR (by unfold kq;rw[h]) l3);haveI hget:∀m,ns[m % ns.length]?=some (ns.getD (m % ns.length) 0):=fun m=>by rw[List.getD_eq_getElem?_getD,List.getElem?_eq_getElem (Nat.mod_lt _ h0)];rfl
  generalize hi0:told / 131072 % ns.length=i0;haveI hlt:i0 < ns.length:=by rw[<- hi0];exact Nat.mod_lt _ h0
  haveI hg0:=hget (told / 131072);rw[hi0]at hg0;haveI hrow:aq (AO.dl (cn ns 1)::((List.range ns.length).map (cF told ns)).map cb) (1+i0)=some (cb (cF told ns i0)):=(vW (pre:=[AO.dl (cn ns 1)]) rfl).trans (by rw[bC,List.getElem?_map,zO hlt];rfl);refine aC (fu (ba (fun u_=>rfl) rfl rfl (bh (ae (.loc rfl l3)) (bh (ae (.cell rfl l2)) (hi0▸uE (b:=131072) (ae (.cell rfl l1)) (by decide) (by decide) h0 (call l2)) (hJ hg0 zN)) (Fe rfl (yB nd hg0))) (bL (gG (.p _ (.loc _ hrow)) PySem.F.slot_list_append PySem.F.type_list_append) rfl (ai rfl (bh (ae (.cell rfl l2)) (uE (b:=786432) (ae (.cell rfl l1)) (by decide) (by decide) h0 (call l2)) (hJ (hget _) zN)) an) (jY (.loc _ hrow) (.loc _ _ hrow) (by rw[List.length_map];exact lz (yd (Nat.le_trans (Nat.le_of_lt hlt) hz)) (by decide))).up)) rfl) (aD ?_);haveI e4:bc (AO.dl (cn ns 1)::((List.range ns.length).map (cF told ns)).map cb) (1+i0) (.list ((cF told ns i0).map (fun y=>F.str (sg y))++[F.str (sg (ns.getD (told / 786432 % ns.length) 0))]))=.dl (cn ns 1)::(((List.range ns.length).map (cF told ns)).modify i0 (·++[ns.getD (told / 786432 % ns.length) 0])).map cb:=by rw[Nat.add_comm];exact congrArg (AO.dl (cn ns 1)::·) (Ac (zO hlt))
  show EB _ _ _ ⟨l,σ.q,bc _ _ _,σ.st⟩ _;rw[e4];exact fin _ l (by rw[List.length_modify];exact lR) (by unfold kq;rw[h,hi0]) l3
end
end
section
open PySem
section
variable{ks:List Nat}{a x k:Nat}
theorem oP{l t:List Nat}(h:a∈l):∃u,l.dropWhile (· != a)=a::u/\(l++t).dropWhile (· != a)=a::(u++t):=by
 induction l with
|nil=>cases h
|cons b l ih=>
  by_cases q:b=a
  ·subst q;exact⟨l,List.dropWhile_cons_of_neg (by simp),List.dropWhile_cons_of_neg (by simp)⟩
  ·obtain⟨u,h1,h2⟩:=ih ((List.mem_cons.mp h).resolve_left fun z=>q z.symm);exact⟨u,(List.dropWhile_cons_of_pos (by simp[q])).trans h1,(List.dropWhile_cons_of_pos (by simp[q])).trans h2⟩
theorem sX{l t:List Nat}(h:a∉l):(l++t).dropWhile (· != a)=t.dropWhile (· != a):=by
 induction l with
|nil=>rfl
|cons b l ih=> haveI q:b≠a:=fun z=>h (z▸.head _);exact(List.dropWhile_cons_of_pos (by simp[q])).trans (ih fun m=>h (.tail _ m))
theorem iU:tk [a] none ks=decide (a∈ks):=by
 unfold tk;by_cases h:a∈ks
 ·obtain⟨u,h1,_⟩:=oP (t:=[]) h;rw[h1,decide_eq_true h];rfl
 ·rw[pY.mpr h,decide_eq_false h]
theorem Gi:tk [x] (some x) (ks++[x])=decide (x∈ks):=by
 unfold tk;by_cases h:x∈ks
 ·obtain⟨u,_,h2⟩:=oP (t:=[x]) h;rw[h2,decide_eq_true h];show((u++[x]).getLast?==some x)=true;rw[List.getLast?_append];simp
 ·rw[sX h,List.dropWhile_cons_of_neg (by simp),decide_eq_false h];rfl
theorem ye(h:a≠124):tk [a,124] none (ks++[124])=decide (a∈ks):=by
 by_cases m:a∈ks
 ·obtain⟨u,_,h2⟩:=oP (t:=[124]) m;show(match(ks++[124]).dropWhile (· != a)with|[]=>false|_::t=>tk [124] none t)=_;rw[h2,decide_eq_true m];show tk [124] none (u++[124])=true;rw[iU];simp
 ·show(match(ks++[124]).dropWhile (· != a)with|[]=>false|_::t=>tk [124] none t)=_;rw[sX m,List.dropWhile_cons_of_pos (by simpa using h.symm),decide_eq_false m];rfl
theorem C9(h:x≠124):tk [a,124] none (ks++[x])=tk [a,124] none ks:=by
 show(match(ks++[x]).dropWhile (· != a)with|[]=>false|_::t=>tk [124] none t)=(match ks.dropWhile (· != a)with|[]=>false|_::t=>tk [124] none t);by_cases m:a∈ks
 ·obtain⟨u,h1,h2⟩:=oP (t:=[x]) m;rw[h1,h2];show tk [124] none (u++[x])=tk [124] none u;rw[iU,iU];exact decide_eq_decide.mpr ⟨fun w=>(List.mem_append.mp w).resolve_right fun z=>h (List.mem_singleton.mp z).symm,fun w=>List.mem_append_left _ w⟩
 ·rw[sX m,pY.mpr m];by_cases q:x=a
  ·subst q;rw[List.dropWhile_cons_of_neg (by simp)];rfl
  ·rw[List.dropWhile_cons_of_pos (by simp[q])];rfl
end
noncomputable def aM(ns:List Nat)(np:Nat->Int)(sc:Nat->List Nat):List (Str×aZ):=ns.map fun x=>(sg x,⟨np x,(sc x).map sg⟩)
noncomputable def upd(f:Nat->α)(y:Nat)(v:α):Nat->α:=fun x=>match x==y with
|true=>v
|false=>f x
theorem dP:upd f y v y=v:=by unfold upd;rw[beq_self_eq_true]
theorem cm(h:x≠y):upd f y v x=f x:=by unfold upd;rw[beq_eq_false_iff_ne.mpr h]
theorem gI:∀{ns:List Nat},x∈ns->ad (aM ns np sc) (sg x)=some ⟨np x,(sc x).map sg⟩:=@fun a b=>match a,b with
|z::ns,m=>by
  show(match ah (sg x) (sg z)with|true=>some (⟨np z,(sc z).map sg⟩:aZ)|false=>ad (aM ns np sc) (sg x))=_;rw[fJ];cases q:x==z with
 |true=>rw[eq_of_beq q]
 |false=>exact gI ((List.mem_cons.mp m).resolve_left (beq_eq_false_iff_ne.mp q))
theorem oM:∀{ns:List Nat},x∉ns->ad (aM ns np sc) (sg x)=none:=by
 intro ns
 induction ns with
|nil=> intro _;exact rfl
|cons z ns ih=> intro m;show(match ah (sg x) (sg z)with|true=>some (⟨np z,(sc z).map sg⟩:aZ)|false=>ad (aM ns np sc) (sg x))=_;rw[fJ,show(x==z)=false from beq_eq_false_iff_ne.mpr fun q=>m (by rw[q];exact .head _)];exact ih fun h=>m (.tail _ h)
theorem jD(h:x∈ns):aT (aM ns np sc) (sg x)=⟨np x,(sc x).map sg⟩:=by unfold aT;rw[gI h]
theorem dS(h:∀x∈ns,np x=np' x/\sc x=sc' x):aM ns np sc=aM ns np' sc':=List.map_congr_left fun x m=>by rw[(h x m).1,(h x m).2]
theorem ut:∀{ns:List Nat},ns.Nodup->y∈ns->ag (aM ns np sc) (sg y) ⟨w,l.map sg⟩=aM ns (upd np y w) (upd sc y l):=@fun a b c=>match a,b,c with
|z::ns,nd,m=>by
  haveI nd:=List.nodup_cons.mp nd;show(match ah (sg y) (sg z)with|true=>(sg z,(⟨w,l.map sg⟩:aZ))::aM ns np sc|false=>(sg z,⟨np z,(sc z).map sg⟩)::ag (aM ns np sc) (sg y) ⟨w,l.map sg⟩)=(sg z,⟨upd np y w z,(upd sc y l z).map sg⟩)::aM ns (upd np y w) (upd sc y l);rw[fJ];cases q:y==z with
 |true=> cases eq_of_beq q;rw[dP,dP,dS (np:=np) (sc:=sc) (np':=upd np y w) (sc':=upd sc y l) fun x m=>?_];haveI:x≠y:=fun h=>nd.1 (h▸m);exact⟨(cm this).symm,(cm this).symm⟩
 |false=> haveI q:=beq_eq_false_iff_ne.mp q;rw[cm q.symm,cm q.symm];exact congrArg _ (ut nd.2 ((List.mem_cons.mp m).resolve_left q))
theorem qw(nd:ns.Nodup)(m:y∈ns):ag (aM ns np sc) (sg y) {aT (aM ns np sc) (sg y)with np:=w}=aM ns (upd np y w) sc:=by
 rw[jD m];refine(ut (l:=sc y) nd m).trans (dS fun x u_=>⟨rfl,?_⟩);by_cases q:x=y
 ·rw[q,dP]
 ·exact cm q
theorem wG:(aM ns np sc).length=ns.length:=List.length_map ..
theorem G9:(aM ns np sc).map (·.1)=ns.map sg:=List.map_map ..
theorem Ko(nd:ns.Nodup)(m:p∈aM ns np sc):ad (aM ns np sc) p.1=some p.2:=by obtain⟨x,hx,rfl⟩:=List.mem_map.mp m;exact gI hx
theorem Ix(nd:ns.Nodup)(m:y∈ns):fe (aM ns np sc,rd) (sg y)=(aM ns (upd np y (np y-1)) sc,match decide (np y-1=0)with|true=>rd++[sg y]|false=>rd):=by unfold fe;rw[qw nd m,jD m]<;>rfl
noncomputable def iA(c:Nat)(i:Int)(y:Nat)(rd:List Str):List Str:=match decide (0 < c/\i=c)with
|true=>rd++[sg y]
|false=>rd
theorem AZ:iA 0 i y rd=rd:=by unfold iA;rw[decide_eq_false fun h=>Nat.lt_irrefl _ h.1]
theorem Fh(hc:((c+1:Nat):Int)<=i):iA c (i-1) y (match decide (i-1=0)with|true=>rd++[sg y]|false=>rd)=iA (c+1) i y rd:=by
 unfold iA;by_cases q:i=((c+1:Nat):Int)
 ·rw[decide_eq_true (show 0 < c+1/\i=((c+1:Nat):Int)from⟨Nat.succ_pos _,q⟩)];by_cases w:c=0
  ·rw[decide_eq_true (show i-1=0 by lia),decide_eq_false (show ¬(0 < c/\i-1=(c:Int))from fun h=>Nat.lt_irrefl _ (w▸h.1))]
  ·rw[decide_eq_false (show ¬(i-1=0) by lia),decide_eq_true (show 0 < c/\i-1=(c:Int)from⟨by lia,by lia⟩)]
 ·rw[decide_eq_false (show ¬(0 < c+1/\i=((c+1:Nat):Int))from fun h=>q h.2),decide_eq_false (show ¬(0 < c/\i-1=(c:Int))from fun h=>q (by lia)),decide_eq_false (show ¬(i-1=0) by lia)]
theorem CK{c:Nat}:upd (upd np y (np y-1)) y (np y-1-(c:Int)) x=upd np y (np y-((c+1:Nat):Int)) x:=by
 by_cases q:x=y
 ·rw[q,dP,dP];lia
 ·rw[cm q,cm q,cm q]
theorem AY(h:i=np y):np x=upd np y i x:=by
 by_cases q:x=y
 ·rw[q,dP,h]
 ·exact(cm q).symm
theorem Jy(nd:ns.Nodup)(m:y∈ns){c:Nat}:∀{np:Nat->Int}{rd:List Str},(c:Int)<=np y->((List.replicate c y).map sg).foldl fe (aM ns np sc,rd)=(aM ns (upd np y (np y-c)) sc,iA c (np y) y rd):=by
 induction c with
|zero=>intro np rd _;exact Prod.ext (dS fun x u_=>⟨AY (Int.sub_zero _),rfl⟩) (AZ (i:=np y) (y:=y) (rd:=rd)).symm
|succ c ih=> intro np rd h;refine(congrArg (((List.replicate c y).map sg).foldl fe) (Ix nd m)).trans ((ih (by rw[dP];lia)).trans ?_);rw[dP];exact Prod.ext (dS fun x u_=>⟨CK,rfl⟩) (Fh h)
noncomputable def qB(c:Nat->Nat)(L:List Nat)(np:Nat->Int)(y:Nat):Int:=match decide (y∈L)with
|true=>np y-c y
|false=>np y
noncomputable def po(c:Nat->Nat)(L:List Nat)(np:Nat->Int):List Nat:=L.filter fun y=>decide (0 < c y/\np y=c y)
theorem H7(n:y∉L):qB c L (upd np y (np y-c y)) z=qB c (y::L) np z:=by
 unfold qB;by_cases w:z=y
 ·rw[w,decide_eq_false n,decide_eq_true (List.mem_cons_self ..)];exact dP
 ·rw[cm w,show decide (z∈y::L)=decide (z∈L)from decide_eq_decide.mpr ⟨fun m=>(List.mem_cons.mp m).resolve_left w,fun m=>.tail _ m⟩]
theorem H4(n:y∉L):iA (c y) (np y) y rd++(po c L (upd np y i)).map sg=rd++(po c (y::L) np).map sg:=by
 unfold po iA;rw[List.filter_cons,show(L.filter fun z=>decide (0 < c z/\upd np y i z=c z))=L.filter fun z=>decide (0 < c z/\np z=c z)from List.filter_congr fun z m=>by rw[cm (show z≠y from fun w=>n (w▸m))]];cases decide (0 < c y/\np y=c y)with
|true=>rw[if_pos rfl,List.map_cons,List.append_assoc];rfl
|false=>rw[if_neg Bool.false_ne_true]
theorem DD(nd:ns.Nodup)(c:Nat->Nat)(L:List Nat):∀{np:Nat->Int}{rd:List Str},L.Nodup->(∀y∈L,y∈ns/\(0 < c y->(c y:Int)<=np y))->((L.flatMap fun y=>List.replicate (c y) y).map sg).foldl fe (aM ns np sc,rd)=(aM ns (qB c L np) sc,rd++(po c L np).map sg):=by
 induction L with
|nil=>intro np rd _ _;exact Prod.ext (dS fun x u_=>⟨rfl,rfl⟩) (List.append_nil _).symm
|cons y L ih=>
  intro np rd nL h;haveI nL:=List.nodup_cons.mp nL;rw[List.flatMap_cons,List.map_append,List.foldl_append];haveI hy:=h y (.head _);haveI hb:((List.replicate (c y) y).map sg).foldl fe (aM ns np sc,rd)=(aM ns (upd np y (np y-c y)) sc,iA (c y) (np y) y rd):=by
   by_cases q:0 < c y
   ·exact Jy nd hy.1 (hy.2 q)
   ·rw[show c y=0 by lia];exact Prod.ext (dS fun x u_=>⟨AY (Int.sub_zero _),rfl⟩) (AZ (i:=np y) (y:=y) (rd:=rd)).symm
  rw[hb,ih nL.2 fun z m=>⟨(h z (.tail _ m)).1,by rw[cm (show z≠y from fun w=>nL.1 (w▸m))];exact(h z (.tail _ m)).2⟩];exact Prod.ext (dS fun z u_=>⟨H7 nL.1,rfl⟩) (H4 nL.1)
theorem HQ(nd:ns.Nodup):∀(L:List Nat){np:Nat->Int},(∀y∈L,y∈ns)->(L.map sg).foldl fW (aM ns np sc)=aM ns (fun y=>match decide (y∈L)with|true=>-1|false=>np y) sc:=by
 intro L
 induction L with
|nil=> intro np _;exact dS fun x u_=>⟨rfl,rfl⟩
|cons y L ih=>
  intro np h;show(L.map sg).foldl fW (fW (aM ns np sc) (sg y))=_;unfold fW;rw[qw nd (h y (.head _))];refine(ih fun z m=>h z (.tail _ m)).trans (dS fun z u_=>⟨?_,rfl⟩);by_cases w:z=y
  ·subst w;rw[decide_eq_true (List.mem_cons_self ..),dP];cases decide (z∈L)<;>rfl
  ·rw[cm w,show decide (z∈y::L)=decide (z∈L)from decide_eq_decide.mpr ⟨fun m=>(List.mem_cons.mp m).resolve_left w,fun m=>.tail _ m⟩]
noncomputable def bP(A:Ah)(ns:List Nat)(a:Nat):List Nat:=ns.flatMap fun y=>List.replicate ((aA A y).count a) y
noncomputable def dG(A:Ah)(ks:List Nat)(x:Nat):Nat:=((aA A x).filter fun a=>!ks.contains a).length
noncomputable def bK(A:Ah)(ks out:List Nat)(x:Nat):Int:=match decide (x∈ks)with
|true=>-2
|false=>match decide (x∈out)with
 |true=>-1
 |false=>(dG A ks x:Int)
structure dv(A:Ah)(ns:List Nat):Prop where
 a:fb A ns
 z:ns.length<=6
 zs:∀x∈ns,(aA A x).length<=7
 sub:∀x∈ns,∀a∈aA A x,a∈ns
 bar:∀x∈ns,x≠124
 q:∀x∈ns,x≠39
 sgx:∀x∈ns,Sg (sg x)
 b:∀x∈ns,kQ (sg x)=wB x
 c:∀x∈ns,jt (sg x)=wC x
structure bO(A:Ah)(ns:List Nat)(q:Qd)(ks:List Nat)(gv:Nat)(fr:List Nat):Prop where
 nodes:q.1.1=aM ns (bK A ks (fr.take gv)) (bP A ns)
 rd:q.1.2=(fr.drop gv).map sg
 nfin:q.2=((ks.filter (· != 124)).length:Int)
 gvl:gv<=fr.length
 frN:fr.Nodup
 frI:∀x∈ns,x∈fr↔∀a∈aA A x,a∈ks
 frS:∀x∈fr,x∈ns
 ksS:∀x∈ks,x≠124->x∈fr.take gv
 ksN:(ks.filter (· != 124)).Nodup
 out:∀x∈ns,x∈fr.take gv↔∀r∈df (aA A x),tk r none ks=true
noncomputable def nW(A:Ah)(ks:List Nat)(x:Nat):Option Str:=match tk [x] (some x) (ks++[x])with
|true=>some (wC x)
|false=>match((df (aA A x)).filter fun r=>!tk r none ks).isEmpty with
 |false=>some (wB x)
 |true=>none
noncomputable def cU(A:Ah)(ks fr:List Nat):List Nat:=(fc A ks).filter fun y=>!fr.contains y
theorem iP:∀{D E:List Nat},D.Nodup->(∀x∈D,x∈E)->D.length<=E.length:=by
 intro D
 induction D with
|nil=> intro _ _ _;exact Nat.zero_le _
|cons d D ih=> intro E nd h;haveI nd:=List.nodup_cons.mp nd;haveI hd:=h d (.head _);haveI:=ih (E:=E.erase d) nd.2 fun x m=>(List.mem_erase_of_ne fun z=>nd.1 (by rw[<- z];exact m)).mpr (h x (.tail _ m));rw[List.length_erase_of_mem hd]at this;haveI hp:=List.length_pos_of_mem hd;rw[List.length_cons];lia
section
variable{A:Ah}{ns ks fr:List Nat}{q:Qd}{gv x y:Nat}
theorem jE(h:fb A ns):fc A ks=ns.filter fun y=>(aA A y).all fun a=>decide (a∈ks):=by unfold fc;rw[<- h.keys,List.filter_map];refine congrArg (List.map _) (List.filter_congr fun p m=>?_);show((p.2.filter fun a=>!tk [a] none ks).isEmpty)=(aA A p.1).all fun a=>decide (a∈ks);rw[tZ (by rw[h.keys];exact h.nd) m,Bool.eq_iff_iff,List.isEmpty_iff,List.filter_eq_nil_iff,List.all_eq_true];refine forall_congr' fun a=>forall_congr' fun u_=>?_;rw[iU];cases decide (a∈ks)<;>simp
theorem I5(hx:x∉ks):∀{l:List Nat},(l.filter fun a=>!ks.contains a).length=(l.filter fun a=>!(ks++[x]).contains a).length+l.count x:=by
 intro l
 induction l with
|nil=> exact rfl
|cons a l ih_=>
  haveI ih:=ih_;by_cases w:a=x
  ·subst w;rw[List.filter_cons_of_pos (by simpa using hx),List.filter_cons_of_neg (by simp),List.count_cons_self,List.length_cons,ih,Nat.add_assoc]
  ·rw[List.count_cons_of_ne w];by_cases m:a∈ks
   ·rw[List.filter_cons_of_neg (by simpa using m),List.filter_cons_of_neg (by simp[m]),ih]
   ·rw[List.filter_cons_of_pos (by simpa using m),List.filter_cons_of_pos (by simp[m,w]),List.length_cons,List.length_cons,ih];lia
theorem wE{c:Nat->Nat}:∀{L:List Nat},(∀y∈L,c y<=7)->(L.flatMap fun y=>List.replicate (c y) y).length<=L.length*7:=by
 intro L
 induction L with
|nil=> intro _;exact Nat.zero_le _
|cons y L ih=> intro h;rw[List.flatMap_cons,List.length_append,List.length_replicate,List.length_cons,Nat.succ_mul,Nat.add_comm];exact Nat.add_le_add (ih fun z m=>h z (.tail _ m)) (h y (.head _))
theorem Hf(h:y∈bP A ns x):y∈ns:=by obtain⟨z,hz,m⟩:=List.mem_flatMap.mp h;rw[(List.mem_replicate.mp m).2];exact hz
theorem iJ(h:x∈fr.take gv):x∈fr:=List.mem_of_mem_take h
theorem bO.done_ks(I:bO A ns q ks gv fr)(N:dv A ns)(hx:x∈ns)(hk:x∈ks):x∈fr.take gv:=I.ksS x hk (N.bar x hx)
theorem bO.refW_eq(I:bO A ns q ks gv fr)(N:dv A ns)(hx:x∈ns):nW A ks x=dM q.1.1 (sg x):=by
 unfold nW dM;rw[I.nodes,gI hx,Gi];unfold bK;dsimp only;by_cases hk:x∈ks
 ·rw[decide_eq_true hk];show some (wC x)=some (jt (sg x));rw[N.c x hx]
 ·rw[decide_eq_false hk];dsimp only;haveI ho:=I.out x hx;haveI he:((df (aA A x)).filter fun r=>!tk r none ks).isEmpty=decide (x∈fr.take gv):=by rw[Bool.eq_iff_iff,List.isEmpty_iff,List.filter_eq_nil_iff,decide_eq_true_iff,ho];refine forall_congr' fun r=>forall_congr' fun u_=>?_;cases tk r none ks<;>simp
  rw[he];by_cases hf:x∈fr.take gv
  ·rw[decide_eq_true hf];rfl
  ·rw[decide_eq_false hf];dsimp only;rw[decide_eq_false (show ¬((dG A ks x:Int)=-1) by lia),decide_eq_true (show(0:Int)<=(dG A ks x:Int) by lia)];dsimp only;rw[N.b x hx]
theorem bO.rows_same(N:dv A ns)(hx:x∈ns)(h124:y≠124)(hr:r∈df (aA A x)):tk r none (ks++[y])=tk r none ks:=by
 rcases List.mem_cons.mp hr with rfl|hr
 ·rw[iU,iU];exact decide_eq_decide.mpr ⟨fun w=>(List.mem_append.mp w).resolve_right fun z=>h124 (List.mem_singleton.mp z).symm,fun w=>List.mem_append_left _ w⟩
 ·obtain⟨a,ha,rfl⟩:=List.mem_map.mp hr;exact C9 h124
theorem bO.step(I:bO A ns q ks gv fr)(N:dv A ns)(hx:x∈ns)(hM:dM q.1.1 (sg x)=none):bO A ns (gL q (sg x)) (ks++[x]) gv (fr++cU A (ks++[x]) fr):=by
 have nd:=N.a.nd;have hnp:bK A ks (fr.take gv) x=-1:=by obtain⟨nd',h1,h2,_⟩:=xk hM;rw[I.nodes,gI hx]at h1;cases h1;exact h2
 have hk:x∉ks:=fun h=>by unfold bK at hnp;rw[decide_eq_true h]at hnp;cases hnp
 have ht:x∈fr.take gv:=Classical.byContradiction fun h=>by unfold bK at hnp;rw[decide_eq_false hk,decide_eq_false h]at hnp;have hnp:(dG A ks x:Int)=-1:=hnp;lia
 have hf:=iJ ht;have wait:∀y∈ns,0 < (aA A y).count x->y∉fr:=fun y hy hc hyf=>hk ((I.frI y hy).mp hyf x (List.count_pos_iff.mp hc));have wait2:∀y∈ns,y∉fr->y≠x/\bK A ks (fr.take gv) y=(dG A ks y:Int):=fun y hy hyf=>by refine⟨fun z=>hyf (z▸hf),?_⟩;unfold bK;rw[decide_eq_false fun h=>hyf (iJ (I.done_ks N hy h)),decide_eq_false fun h=>hyf (iJ h)]
 have csn:∀y,dG A ks y=dG A (ks++[x]) y+(aA A y).count x:=fun y=>I5 hk;have tk':(fr++cU A (ks++[x]) fr).take gv=fr.take gv:=by rw[List.take_append_of_le_length I.gvl]
 have dr':(fr++cU A (ks++[x]) fr).drop gv=fr.drop gv++cU A (ks++[x]) fr:=by rw[List.drop_append_of_le_length I.gvl]
 have allI:∀y,((aA A y).all fun a=>decide (a∈ks++[x]))=true↔∀a∈aA A y,a∈ks++[x]:=fun y=>by rw[List.all_eq_true];exact forall_congr' fun a=>forall_congr' fun u_=>decide_eq_true_iff
 have newI:∀y,y∈cU A (ks++[x]) fr↔y∈ns/\(∀a∈aA A y,a∈ks++[x])/\y∉fr:=fun y=>by unfold cU;rw[jE N.a,List.mem_filter,List.mem_filter,allI,and_assoc];simp
 have zero:∀y,dG A (ks++[x]) y=0↔∀a∈aA A y,a∈ks++[x]:=fun y=>by unfold dG;rw[List.length_eq_zero_iff,List.filter_eq_nil_iff];exact forall_congr' fun a=>forall_congr' fun u_=>by rw[Bool.not_eq_true,Bool.not_eq_false',List.contains_iff_mem]
 have key:gL q (sg x)=((aM ns (fun y=>match decide (y∈ns)with|true=>upd (bK A ks (fr.take gv)) x (-2) y-(aA A y).count x|false=>upd (bK A ks (fr.take gv)) x (-2) y) (bP A ns),(fr.drop gv).map sg++(ns.filter fun y=>decide (0 < (aA A y).count x/\upd (bK A ks (fr.take gv)) x (-2) y=(aA A y).count x)).map sg),q.2+1):=by unfold gL;rw[I.nodes,qw nd hx,jD hx,I.rd];refine congrArg (·,q.2+1) (DD nd (fun y=>(aA A y).count x) ns nd fun y hy=>⟨hy,fun hc=>?_⟩);obtain⟨h1,h2⟩:=wait2 y hy (wait y hy hc);rw[cm h1,h2,csn y];lia
 rw[key];refine⟨?_,?_,?_,?_,?_,fun y hy=>?_,fun y hy=>?_,fun y hy h=>?_,?_,fun y hy=>?_⟩
 ·refine dS fun y hy=>⟨?_,rfl⟩;rw[decide_eq_true hy,tk'];dsimp only;by_cases w:y=x
  ·subst w;have c0:(aA A y).count y=0:=Nat.eq_zero_of_not_pos fun hc=>wait y hy hc hf;unfold bK;rw[dP,c0,decide_eq_true (show y∈ks++[y]from List.mem_append_right _ (.head _))];rfl
  ·rw[cm w];have hm:decide (y∈ks++[x])=decide (y∈ks):=decide_eq_decide.mpr ⟨fun m=>(List.mem_append.mp m).resolve_right fun z=>w (List.mem_singleton.mp z),fun m=>List.mem_append_left _ m⟩;by_cases hyf:y∈fr
   ·have c0:(aA A y).count x=0:=Nat.eq_zero_of_not_pos fun hc=>wait y hy hc hyf;have e1:dG A (ks++[x]) y=dG A ks y:=by rw[csn y,c0];rfl
    unfold bK;rw[hm,e1,c0];simp
   ·rw[(wait2 y hy hyf).2];unfold bK;rw[hm,decide_eq_false fun h=>hyf (iJ (I.done_ks N hy h)),decide_eq_false fun h=>hyf (iJ h)];dsimp only;rw[csn y];lia
 ·rw[dr',List.map_append];refine congrArg (fun l=>(fr.drop gv).map sg++List.map sg l) ?_;unfold cU;rw[jE N.a,List.filter_filter];refine List.filter_congr fun y hy=>?_;rw[Bool.eq_iff_iff,decide_eq_true_iff,Bool.and_eq_true,allI];have hc:(!fr.contains y)=true↔y∉fr:=by simp
  rw[hc];constructor
  ·intro o_;obtain⟨h1,h2⟩:=o_;have hyf:=wait y hy h1;obtain⟨h3,h4⟩:=wait2 y hy hyf;rw[cm h3,h4,csn y]at h2;exact⟨hyf,(zero y).mp (by lia)⟩
  ·intro o_;obtain⟨hyf,h1⟩:=o_;obtain⟨h3,h4⟩:=wait2 y hy hyf;rw[cm h3,h4];have z:=csn y;rw[(zero y).mpr h1,Nat.zero_add]at z;refine⟨Nat.pos_of_ne_zero fun c0=>hyf ((I.frI y hy).mpr fun a ha=>?_),by rw[z]⟩;rcases List.mem_append.mp (h1 a ha)with h|h
   ·exact h
   ·rw[List.mem_singleton.mp h]at ha;exact absurd (List.count_pos_iff.mpr ha) (by lia)
 ·show q.2+1=_;rw[I.nfin,List.filter_append,List.filter_cons_of_pos (by simpa using N.bar x hx),List.length_append];rfl
 ·rw[List.length_append];exact Nat.le_trans I.gvl (Nat.le_add_right _ _)
 ·refine List.nodup_append.mpr ⟨I.frN,?_,fun a h1 b h2 z=>((newI b).mp h2).2.2 (z▸h1)⟩;unfold cU;rw[jE N.a];exact(nd.filter _).filter _
 ·rw[List.mem_append,newI];constructor
  ·rintro(h|h)
   ·exact fun a ha=>List.mem_append_left _ ((I.frI y hy).mp h a ha)
   ·exact h.2.1
  ·intro h;by_cases hyf:y∈fr
   ·exact .inl hyf
   ·exact .inr ⟨hy,h,hyf⟩
 ·rcases List.mem_append.mp hy with h|h
  ·exact I.frS y h
  ·exact((newI y).mp h).1
 ·rw[tk'];rcases List.mem_append.mp hy with h'|h'
  ·exact I.ksS y h' h
  ·rw[List.mem_singleton.mp h'];exact ht
 ·rw[List.filter_append,List.filter_cons_of_pos (by simpa using N.bar x hx)];exact List.nodup_append.mpr ⟨I.ksN,by simp,fun a h1 b h2 z=>hk (by rw[List.filter_nil]at h2;rw[<- List.mem_singleton.mp h2,<-z];exact(List.mem_filter.mp h1).1)⟩
 ·rw[tk',I.out y hy];exact forall_congr' fun r=>forall_congr' fun hr=>by rw[bO.rows_same N hy (N.bar x hx) hr]
end
noncomputable def dI(A:Ah)(ks:List Nat)(x:Nat):Option Str:=match x==39 with
|true=>some wA
|false=>nW A ks x
noncomputable def gu(A:Ah):List Nat->List Nat×List Nat->Option Str×(List Nat×List Nat)
|[],s=>(none,s)
|x::xs,s=>match dI A s.1 x with
 |some m=>(some m,s)
 |none=>gu A xs (s.1++[x],s.2++cU A (s.1++[x]) s.2)
theorem F7:Sg (sg 39):=⟨by decide +kernel,by decide +kernel,by decide +kernel,by decide +kernel,by decide +kernel⟩
theorem FW:mH (sg 39)=wA:=by decide +kernel
theorem bO.out_ks(I:bO A ns q ks gv fr)(h:x∈fr.drop gv)(N:dv A ns):x∉ks:=fun hk=>by haveI hx:=I.frS x (List.mem_of_mem_drop h);haveI ht:=I.ksS x hk (N.bar x hx);haveI:=I.frN;rw[<- List.take_append_drop gv fr]at this;exact(List.nodup_append.mp this).2.2 x ht x h rfl
theorem bO.ready(I:bO A ns q ks gv fr)(N:dv A ns):bO A ns ((q.1.2.foldl fW q.1.1,[]),q.2) (ks++[124]) fr.length fr:=by
 haveI nd:=N.a.nd;have mem:∀y∈ns,y∈ks++[124]↔y∈ks:=fun y hy=>⟨fun m=>(List.mem_append.mp m).resolve_right fun z=>N.bar y hy (List.mem_singleton.mp z),fun m=>List.mem_append_left _ m⟩;haveI cnt:∀y∈ns,dG A (ks++[124]) y=dG A ks y:=fun y hy=>by unfold dG;rw[List.filter_congr fun a ha=>?_];have:=mem a (N.sub y hy a ha);rw[Bool.eq_iff_iff,Bool.not_eq_true',Bool.not_eq_true',<-Bool.not_eq_true,<-Bool.not_eq_true,List.contains_iff_mem,List.contains_iff_mem,this]
 refine⟨?_,?_,?_,Nat.le_refl _,I.frN,fun y hy=>?_,I.frS,fun y hy h=>?_,?_,fun y hy=>?_⟩
 ·show q.1.2.foldl fW q.1.1=_;rw[I.nodes,I.rd,HQ nd _ fun y m=>I.frS y (List.mem_of_mem_drop m),List.take_length];refine dS fun y hy=>⟨?_,rfl⟩;unfold bK;rw[cnt y hy,show decide (y∈ks++[124])=decide (y∈ks)from decide_eq_decide.mpr (mem y hy)];by_cases h:y∈fr.drop gv
  ·rw[decide_eq_true h,decide_eq_false (I.out_ks h N),decide_eq_true (List.mem_of_mem_drop h)]
  ·rw[decide_eq_false h,show decide (y∈fr)=decide (y∈fr.take gv)from decide_eq_decide.mpr ⟨fun m=>by rw[<- List.take_append_drop gv fr]at m;exact(List.mem_append.mp m).resolve_right h,iJ⟩]
 ·show[]=_;rw[List.drop_length];rfl
 ·show q.2=_;rw[I.nfin,List.filter_append];show _=(((ks.filter (· != 124))++[]).length:Int);rw[List.append_nil]
 ·rw[I.frI y hy];exact forall_congr' fun a=>forall_congr' fun ha=>(mem a (N.sub y hy a ha)).symm
 ·rw[List.take_length];rcases List.mem_append.mp hy with h'|h'
  ·exact iJ (I.ksS y h' h)
  ·exact absurd (List.mem_singleton.mp h') h
 ·rw[List.filter_append];show((ks.filter (· != 124))++[]).Nodup;rw[List.append_nil];exact I.ksN
 ·rw[List.take_length,I.frI y hy];constructor
  ·intro h r hr;rcases List.mem_cons.mp hr with rfl|hr
   ·rw[iU];simp
   ·obtain⟨a,ha,rfl⟩:=List.mem_map.mp hr;rw[ye (N.bar a (N.sub y hy a ha))];exact decide_eq_true (h a ha)
  ·intro h a ha;have:=h [a,124] (.tail _ (List.mem_map.mpr ⟨a,ha,rfl⟩));rw[ye (N.bar a (N.sub y hy a ha))]at this;exact of_decide_eq_true this
theorem bO.active(I:bO A ns q ks gv fr)(N:dv A ns):(decide (q.2 < (gv:Int))||!q.1.2.isEmpty)=!(fr.filter fun x=>!tk [x] none ks).isEmpty:=by
 have ex:(!(fr.filter fun x=>!tk [x] none ks).isEmpty)=true↔∃x∈fr,x∉ks:=by
  rw[Bool.not_eq_true',<-Bool.not_eq_true,List.isEmpty_iff,List.filter_eq_nil_iff];constructor
  ·intro h;refine Classical.byContradiction fun w=>h fun x hx=>?_;rw[iU,decide_eq_true (Classical.byContradiction fun z=>w ⟨x,hx,z⟩)];simp
  ·intro o_;obtain⟨x,hx,hk⟩:=o_;intro h;have:=h x hx;rw[iU,decide_eq_false hk]at this;exact this rfl
 have lenT:(fr.take gv).length=gv:=by rw[List.length_take];exact Nat.min_eq_left I.gvl
 have ndT:(fr.take gv).Nodup:=(List.take_sublist gv fr).nodup I.frN;have memD:∀x,x∈ks.filter (· != 124)↔x∈ks/\x≠124:=fun x=>by rw[List.mem_filter];simp
 rw[Bool.eq_iff_iff,ex,Bool.or_eq_true,decide_eq_true_iff,I.nfin,I.rd];constructor
 ·rintro(h|h)
  ·refine Classical.byContradiction fun w=>?_;have:=iP (E:=ks.filter (· != 124)) ndT fun x hx=>(memD x).mpr ⟨Classical.byContradiction fun z=>w ⟨x,iJ hx,z⟩,N.bar x (I.frS x (iJ hx))⟩;rw[lenT]at this;omega
  ·cases hd:fr.drop gv with
  |nil=>rw[hd]at h;cases h
  |cons a l=>
    have:a∈fr.drop gv:=by rw[hd];exact .head _
    exact⟨a,List.mem_of_mem_drop this,I.out_ks this N⟩
 ·intro o_;obtain⟨x,hx,hk⟩:=o_;cases hd:fr.drop gv with
 |cons a l=>exact .inr rfl
 |nil=>
   left;have ht:x∈fr.take gv:=by rw[<- List.take_append_drop gv fr,hd,List.append_nil]at hx;exact hx
   have h1:=iP (D:=ks.filter (· != 124)) (E:=(fr.take gv).erase x) I.ksN fun y hy=>(List.mem_erase_of_ne fun z=>hk (by rw[<- z];exact((memD y).mp hy).1)).mpr (I.ksS y ((memD y).mp hy).1 ((memD y).mp hy).2);rw[List.length_erase_of_mem ht,lenT]at h1;have:=List.length_pos_of_mem ht;rw[lenT]at this;omega
theorem bO.turn(N:dv A ns):∀{L:List Nat}{q:Qd}{ks fr:List Nat},bO A ns q ks gv fr->(∀x∈L,x∈ns\/x=39)->nq (L.map sg) q/\(cM (L.map sg) q).1=(gu A L (ks,fr)).1/\bO A ns (cM (L.map sg) q).2 (gu A L (ks,fr)).2.1 gv (gu A L (ks,fr)).2.2:=by
 intro L
 induction L with
|nil=> intro q ks fr I _;exact⟨trivial,rfl,I⟩
|cons x L ih=>
  intro q ks fr I h;have h39:(39:Nat)∉ns:=fun m=>N.q 39 m rfl;have eM:dI A ks x=dM q.1.1 (sg x):=by
   unfold dI;rcases h x (.head _)with hx|rfl
   ·rw[beq_eq_false_iff_ne.mpr (N.q x hx)];exact I.refW_eq N hx
   ·unfold dM;rw[I.nodes,oM h39,FW];rfl
  have hS:Sg (sg x):=by
   rcases h x (.head _)with hx|rfl
   ·exact N.sgx x hx
   ·exact F7
  have hT:∀nd,ad q.1.1 (sg x)=some nd->nd.np=-1\/0<=nd.np\/nd.np=-2:=fun nd hl=>by
   rcases h x (.head _)with hx|rfl
   ·rw[I.nodes,gI hx]at hl;cases hl;show bK A ks (fr.take gv) x=-1\/_\/bK A ks (fr.take gv) x=-2;unfold bK;cases decide (x∈ks)with
   |true=>exact .inr (.inr rfl)
   |false=>cases decide (x∈fr.take gv)with
    |true=>exact .inl rfl
    |false=>exact .inr (.inl (by show(0:Int)<=(dG A ks x:Int);omega))
   ·rw[I.nodes,oM h39]at hl;cases hl
  cases hm:dM q.1.1 (sg x)with
 |some m=>
   have e1:cM ((x::L).map sg) q=(some m,q):=by show(match dM q.1.1 (sg x)with|some m=>(some m,q)|none=>cM (L.map sg) (gL q (sg x)))=_;rw[hm]
   have e2:gu A (x::L) (ks,fr)=(some m,(ks,fr)):=by show(match dI A ks x with|some m=>(some m,(ks,fr))|none=>gu A L (ks++[x],fr++cU A (ks++[x]) fr))=_;rw[eM,hm]
   rw[e1,e2];exact⟨⟨hS,hT,fun z=>by rw[hm]at z;cases z⟩,rfl,I⟩
 |none=>
   have hx:x∈ns:=(h x (.head _)).resolve_right fun z=>by subst z;obtain⟨nd,h1,_⟩:=xk hm;rw[I.nodes,oM h39]at h1;cases h1
   have e1:cM ((x::L).map sg) q=cM (L.map sg) (gL q (sg x)):=by show(match dM q.1.1 (sg x)with|some m=>(some m,q)|none=>cM (L.map sg) (gL q (sg x)))=_;rw[hm]
   have e2:gu A (x::L) (ks,fr)=gu A L (ks++[x],fr++cU A (ks++[x]) fr):=by show(match dI A ks x with|some m=>(some m,(ks,fr))|none=>gu A L (ks++[x],fr++cU A (ks++[x]) fr))=_;rw[eM,hm]
   obtain⟨r1,r2,r3⟩:=ih (I.step N hx hm) fun y m=>h y (.tail _ m);rw[e1,e2];refine⟨⟨hS,hT,fun u_=>⟨fun y hy=>?_,?_,r1⟩⟩,r2,r3⟩
   ·rw[I.nodes,jD hx]at hy;obtain⟨z,hz,rfl⟩:=List.mem_map.mp hy;rw[I.nodes,gI (Hf hz)];rfl
   ·rw[I.nodes,jD hx,I.rd,List.length_map,List.length_map,List.length_drop];have h1:=iP I.frN I.frS;have h2:(bP A ns x).length<=ns.length*7:=wE fun y hy=>Nat.le_trans List.count_le_length (N.zs y hy);have h3:=N.z;omega
end
section
open PySem PySem.W PyProof.Rows PySem.SeqAt PySem.Builtin.Str
theorem qQ(hv:bt e y σ v)(hy:bF e y)(hx:SE e n x σ (.ok w σ₁))(hk:jV op v w σ₁ (.ok u au)):SS e n (.AugAssign (.Name y p) op x pos) σ (.ok .next {au with l:=ag au.l y u}):=fun c i h d Q pp=>
 wpAny_AugAssign_Name (yu hv i.e d fun av ra=>hx c i d _ fun d' b le rb=>hk c d' av b (VD.mono le ra) rb _ fun am z bQ rz=>qP hy i rz (pp.after (le.trans bQ)))
theorem GO(hu:ad e.names t=some .cell)(hs:∀x∈[dW,dX,ir],bx x=false):∀c:Fr,c.e=e->swappedStores [.Tuple [.Name y p,.Name z q,.Name t r] k tp] (.Tuple [dW,dX,ir] k' p') c.env=pure none:=fun c i=>by
 haveI ku:c.env.kindOf t=some .cell:=by subst i;exact c.k.kinds t .cell hu
 rw[th (by rw[uy c];rfl) (AJ hs) rfl];refine if_pos ?_;rw[Bool.or_eq_true];refine .inl (bne_iff_ne.mpr fun h=>?_);haveI h1:(List.filterMap (lU c.env p.line) [Expr.Name y p,.Name z q,.Name t r]).length<=2:=by rw[show[Expr.Name y p,.Name z q,.Name t r]=[Expr.Name y p,.Name z q]++[.Name t r]from rfl,List.filterMap_append,List.filterMap_cons_none (f:=lU c.env p.line) (a:=.Name t r) (if_neg (by rw[ku];exact Bool.false_ne_true)),List.filterMap_nil,List.append_nil];exact List.length_filterMap_le ..
 exact Nat.not_succ_le_self 2 (Nat.le_trans (Nat.le_of_eq h.symm) h1)
theorem fs3(hy:bF e y)(hz:bF e z)(hu:bF e t):∀c:Fr,iY c e [y,z,t] ((assignEach [.Name y p,.Name z q,.Name t r] c.env).map (·.2))/\(assignEach [.Name y p,.Name z q,.Name t r] c.env).length=3/\(assignEach [.Name y p,.Name z q,.Name t r] c.env).findIdx? (·.1)=none:=fun c=>
 ⟨⟨hy,_,_,rfl,fun val Q s h=>wpAny_assign_Name h,hz,_,_,rfl,fun val Q s h=>wpAny_assign_Name h,hu,_,_,rfl,fun val Q s h=>wpAny_assign_Name h,rfl⟩,rfl,rfl⟩
theorem fs2(hy:bF e y)(hz:bF e z):∀c:Fr,iY c e [y,z] ((assignEach [.Name y p,.Name z q] c.env).map (·.2))/\(assignEach [.Name y p,.Name z q] c.env).length=2/\(assignEach [.Name y p,.Name z q] c.env).findIdx? (·.1)=none:=fun c=>
 ⟨⟨hy,_,_,rfl,fun val Q s h=>wpAny_assign_Name h,hz,_,_,rfl,fun val Q s h=>wpAny_assign_Name h,rfl⟩,rfl,rfl⟩
theorem Ad(hu:ad e.names t=some .cell)(hy:bF e y)(hz:bF e z)(hs:∀x∈[dW,dX,ir],bx x=false)(hx:cP e n [dW,dX,ir] σ (.ok [a,b,c] σ₁)):SS e n (.Assign [.Tuple [.Name y p,.Name z q,.Name t r] k tp] (.Tuple [dW,dX,ir] k' p') pos) σ (.ok .next {σ₁ with l:=ag (ag (ag σ₁.l y a) z b) t c}):=
 Hw (ys:=[y,z,t]) hx rfl (show 3<=3 by decide) (fs3 hy hz (.cell hu)) (GO hu hs)
theorem yN(hy:bF e y)(hz:bF e z)(hs:∀env:Env,swapsWithSole [.Tuple [.Name y p,.Name z q] k tp] x pos.line env=pure false/\swappedStores [.Tuple [.Name y p,.Name z q] k tp] x env=pure none)(hx:SE e n x σ (.ok (.f (.tup [a,b])) σ₁)):SS e n (.Assign [.Tuple [.Name y p,.Name z q] k tp] x pos) σ (.ok .next {σ₁ with l:=ag (ag σ₁.l y (.f a)) z (.f b)}):=
 JL (ys:=[y,z]) rfl hx (fs2 hy hz) fun c u_=>hs c.env
theorem DS(hx:SE e n x σ (.ok v σ₁))(hs:sO v σ₁ xs):sj e n [.Starred x p] σ (.ok (xs.map V.f) σ₁):=fun c i d f pos Q pp=>ks_lone (hx c i d _ fun d' a le ra=>hs c d' a ra _ fun d2 vs y rx=>pp d2 ⟨vs,[]⟩ (Gh.Le.trans le y) ⟨rfl,by rw[<- List.append_nil vs,<-List.append_nil (xs.map V.f)];exact FRs.vvs (us:=[]) (ws:=[]) rfl rx⟩)
theorem Hd(hq:σ.q=some q)(hm:(m,j)∈gP)(hx:SE e n x σ (.ok (.f (.list xs)) σ₁))(hz:Nat.ble xs.length aw=true)(hk:bo n j (.p .self::xs.map V.f) σ₁ rs):ln e n (.p .self) m [.Starred x p] σ rs:=
 vh (ra:=.ok (xs.map V.f) σ₁) (kr:=fun u_ u_=>rs) hq hm (DS hx (tV .f hz)) fun vs af h=>by cases(h);exact hk
theorem mY:∀{xs:List Str},cT n (xs.map F.str) (xs.map F.str) (xs.map fun u_=>true):=by
 intro xs
 induction xs with
|nil=> exact .nil
|cons x xs ih=> exact .cons _ _ _ _ _ _ (by have:=iH (n:=n) (x:=x) (y:=x);rw[bU]at this;exact this) ih
theorem tU:∀{xs:List α},(xs.map fun u_=>true).all id=true:=by
 intro xs
 induction xs with
|nil=> exact rfl
|cons _ xs ih=> exact ih
theorem Im{ys:List Nat}(hv:bV σ (ys.map fun y=>F.str (sg y)) v):aQ .NotIn (.f (.str (sg a))) v σ (!ys.contains a):=by haveI:=xJ (neg:=true) hv (uw (a:=a));rw[Bool.bne_true,List.any_map]at this;rw[show ys.contains a=ys.any (id ∘ fun y=>y==a)from by rw[List.contains_eq_any_beq];congr 1;funext y;exact Bool.beq_comm];exact this
noncomputable def tO(fr:List Str)(sc:Scope):Bool:=oB sc.kind&&nS sc.names&&(sc.names.all fun p=>match p.2 with|.cell=>false|.free=>aO fr p.1|_=>true)&&!sc.isCoroutine&&!sc.isGenerator&&(match ad sc.names "<lambda>" with|none=>true|some _=>false)
theorem zC(h:tO fr sc=true)(hl:ad sc.names x=some k):k≠.cell/\(k=.free->x∈fr):=by
 haveI h:=((Bool.and_eq_true _ _).mp ((Bool.and_eq_true _ _).mp ((Bool.and_eq_true _ _).mp ((Bool.and_eq_true _ _).mp h).1).1).1).2;haveI:=List.all_eq_true.mp h (x,k) (gA hl);cases k with
|cell=>cases this
|free=>exact⟨by decide,fun u_=>qZ this⟩
|_=>exact⟨by decide,fun z=>by cases z⟩
theorem vK(h:tO fr sc=true):mK sc/\ad sc.names "<lambda>"=none:=by
 haveI hin:=fun{x:Str}{k:NameKind}(hl:ad sc.names x=some k)=>zC h hl;obtain⟨h,k6⟩:=(Bool.and_eq_true _ _).mp h;obtain⟨h,k5⟩:=(Bool.and_eq_true _ _).mp h;obtain⟨h,k4⟩:=(Bool.and_eq_true _ _).mp h;obtain⟨h,k3⟩:=(Bool.and_eq_true _ _).mp h;obtain⟨k1,k2⟩:=(Bool.and_eq_true _ _).mp h;refine⟨⟨uh k1,rV k2,fun n q=>(hin q).1 rfl,Bool.not_eq_true' _▸k4,Bool.not_eq_true' _▸k5⟩,?_⟩;cases q:ad sc.names "<lambda>" with
|none=>rfl
|some v=>rw[q]at k6;cases k6
theorem jz(fr:List Str)(hv:bt e "_law_words" σ (.f (.fn 8)))(har:ar=ow)(hS:tO fr sc=true)(hc:ff e sc.names=true)(h2:∀n∈fr,∃w,ad (bG e σ.l sc.names) n=some w/\seen false w=true)
  (hB:SE ⟨sc.names,("<lambda>",.f .none)::bG e σ.l sc.names⟩ n body ⟨[],σ.q,[],σ.st⟩ rb) (hr:lq cO rb y):SE e (n+2) (.Call (.Name "_law_words" np) [.Lambda ar body sc lp] [] pos) σ (.ok (.f y) ⟨σ.l,cO.q,σ.h,cO.st⟩):=
 JZ hv har (vK hS).1 hc (vK hS).2 (fun n v q1 q2=>by obtain⟨w,h1,h3⟩:=h2 n ((zC hS q1).2 rfl);rw[h1]at q2;cases q2;exact h3) hB hr
theorem wX{P:aG V->Prop}(hq:σ.q=sq)(hf:aq eU j=some (dn,f))(hk:fF j=false)(F:ci f ns va names)(hb:cV f.params=ns->f.params.vararg.map (·.arg)=va->bd f.params vs l)(hv:vs.all (seen false)=true)
  (hB:EB ⟨names,[]⟩ n f.body ⟨l,sq,[],σ.st⟩ fun r=>∃r',dC false σ r r'/\P r'):∃r',bo (n+1) j vs σ r'/\P r':=
 ⟨hB.choose_spec.2.choose,gm hq hf hk F hb hv hB.choose_spec.1 hB.choose_spec.2.choose_spec.1,hB.choose_spec.2.choose_spec.2⟩
noncomputable abbrev JC:List (Str×NameKind):=[("sorter",.cell),("deeds",.local),("ahead",.local),("reads",.cell),("kept",.cell),("given",.local),("free",.cell),("late",.local),("words",.local),("x",.local),("active",.local),("names",.cell),
 ("_law_free",.globalImplicit),("_law_words",.globalImplicit),("tuple",.globalImplicit),("_law_refusal",.globalImplicit),("len",.globalImplicit)]
theorem IC:ci (bp "_law_obeys") ["sorter","deeds","ahead","reads"] none JC:=⟨by kernel_rfl,by kernel_rfl,by kernel_rfl⟩
noncomputable def wV:Option Str->F
|none=>.list [.none]
|some m=>.str m
structure oY(A:Ah)(R:Rd)(l:List (Str×V)):Prop where
 s:ad l "sorter"=some (.p .self)
 a:ad l "ahead"=some (.f (.dict (bg A)))
 r:ad l "reads"=some (.f (.dict (bJ R)))
theorem oY.put(h:oY A R l)(h1:ah "sorter" y=false)(h2:ah "ahead" y=false)(h3:ah "reads" y=false):oY A R (ag l y v):=⟨(aj h1).trans h.s,(aj h2).trans h.a,(aj h3).trans h.r⟩
noncomputable abbrev cZ(gv:Nat)(st:Nat)(q:Qd)(l:List (Str×V))(fr:List Nat):Sx:=⟨l,some ⟨q.1.1,some q.1.2,(gv:Int),q.2,none⟩,[.list (fr.map fun y=>F.str (sg y))],st⟩
structure gS(A:Ah)(R:Rd)(gv:Nat)(ks:List Nat)(l:List (Str×V)):Prop where
 o:oY A R l
 k:ad l "kept"=some (.f (.str (tx ks)))
 g:ad l "given"=some (.f (.int (gv:Int)))
 f:ad l "free"=some (.p (.loc 0))
theorem gS.put(h:gS A R gv ks l)(h1:((ah "sorter" y||ah "ahead" y||ah "reads" y)||(ah "kept" y||ah "given" y||ah "free" y))=false):gS A R gv ks (ag l y v):=by obtain⟨a,b⟩:=Bool.or_eq_false_iff.mp h1;obtain⟨a,a3⟩:=Bool.or_eq_false_iff.mp a;obtain⟨a1,a2⟩:=Bool.or_eq_false_iff.mp a;obtain⟨b,b3⟩:=Bool.or_eq_false_iff.mp b;obtain⟨b1,b2⟩:=Bool.or_eq_false_iff.mp b;exact⟨h.o.put a1 a2 a3,(aj b1).trans h.k,(aj b2).trans h.g,(aj b3).trans h.f⟩
structure AH(A:Ah)(R:Rd)(fin:Option Str×(List Nat×List Nat))(gv B:Nat)(ns L0:List Nat)(W:Option Str->F)(ps:List Str)(l:List (Str×V))(S:Option Str×(List Nat×List Nat)):Prop where
 b:gS A R gv S.2.1 l
 w:ad l "words"=some (.f (W S.1))
 e:ps≠[]->W=wV
 n:ad l "names"=some (.f (cL L0))
 o:∃L:List Nat,ps=L.map sg/\(∀x∈L,x∈ns\/x=39)/\S.2.1.length+L.length<=B/\S.2.2.length+6*L.length<=500/\(match S.1 with|none=>gu A L S.2|some m=>(some m,S.2))=fin
 t:ad l "late"=some (.f (.list [.str "cannot prepare() more than once",.str "Nodes cannot be added after a call to prepare()"]))
noncomputable abbrev fY:F:=.list [.str "cannot prepare() more than once",.str "Nodes cannot be added after a call to prepare()"]
theorem IY:pu (aA A x) ks x=wV (nW A ks x):=by
 unfold pu nW;cases tk [x] (some x) (ks++[x])with
|true=>rfl
|false=>cases((df (aA A x)).filter fun r=>!tk r none ks).isEmpty<;>rfl
section
variable{n:Nat}{σ:Sx}{A:Ah}{R:Rd}{ns ks fr:List Nat}{q:Qd}{gv st:Nat}{l:List (Str×V)}{o:Option Str}
theorem Ex(N:dv A ns)(hR:j0 A R ns)(hz:ks.length<=900)(hx:x∈ns\/x=39):bo (n+2) 7 [.f (.str (sg x)),.f (.str (tx ks)),.f (.dict (bg A)),.f (.dict (bJ R))] σ (.ok (.f (wV (dI A ks x))) σ):=by
 unfold dI;rcases hx with hx|rfl
 ·obtain⟨p,hp,rfl,h2⟩:=rP (A:=A) (x:=x) (by rw[N.a.keys];exact hx);rw[beq_eq_false_iff_ne.mpr (N.q _ hx)];dsimp only;rw[<- IY,h2];exact BG N.a hR hz hp (N.q _ hx)
 ·exact CV
theorem qr:aQ .Eq (.f (wV o)) (.f (.list [.none])) τ o.isNone:=by
 cases o with
|none=>exact bS (neg:=false) (ij (.cons _ _ _ _ _ _ sT .nil))
|some m=>exact bS (neg:=false) CM
theorem uz:aQ .NotEq (.f (wV o)) (.f (wV o)) τ false:=by
 cases o with
|none=>exact bS (neg:=true) (ij (.cons _ _ _ _ _ _ sT .nil))
|some m=>haveI:=bS (σ:=τ) (neg:=true) (iH (n:=6) (x:=m) (y:=m));rw[bU]at this;exact this
noncomputable def wW(L:List Nat)(T:F):Option Str->F:=match L with
|[]=>fun u_=>.list [T]
|_::_=>wV
theorem GE{xs:List Str}:aQ .NotEq (.f (wW L (.tup (xs.map F.str)) o)) (.f (wW L (.tup (xs.map F.str)) o)) τ false:=by
 cases L with
|cons a L=>exact uz
|nil=>haveI:=bS (σ:=τ) (neg:=true) (ij (n:=5) (.cons _ _ _ _ _ _ (Fq (n:=4) (mY (n:=4) (xs:=xs))) .nil));rw[tU]at this;exact this
theorem iS{ns:List (Str×NameKind)}(hf:ad ns y=some .free)(hn:ah y "<lambda>"=false)(h:ad e.names y=some .cell)(h1:ad l y=some v):bt ⟨ns,("<lambda>",u)::bG e l ns⟩ y τ v:=.free hf (by show(match ah y "<lambda>" with|true=>some u|false=>ad (bG e l ns) y)=_;rw[hn];exact ia (.inl ⟨h,h1⟩) hf)
theorem Jb:aQ .NotEq (.f fY) (.f fY) τ false:=bS (neg:=true) (ij (n:=5) (mY (xs:=["cannot prepare() more than once","Nodes cannot be added after a call to prepare()"])))
theorem DY:aQ .IsNot (.f (.bool b)) (.f (.bool b)) τ false:=by cases b<;>exact KE (neg:=true)
theorem eZ(hx:ST e n x σ (.ok false σ₁))(hr:iZ e n .Or r σ₁ rr):iZ e n .Or (x::r) σ rr:=fun c i d Q p=>by rw[arm_allTrue_cons];exact wpAny_bind (hx c i d _ fun d' k le q=>by cases q;exact hr c i d' Q (p.after le))
theorem HS(hq:σ.q=some ⟨q.1.1,some q.1.2,(gv:Int),q.2,none⟩)(hz:ps.length<=1000)(hg:nq ps q):∃rb,bo (n+1) 22 (.p .self::ps.map fun p=>.f (.str p)) σ rb/\lq {σ with q:=some ⟨(cM ps q).2.1.1,some (cM ps q).2.1.2,(gv:Int),(cM ps q).2.2,none⟩} rb (wV (cM ps q).1):=by
 refine⟨_,D7 hq hz hg rfl,?_⟩;cases(cM ps q).1 with
|none=>exact .ok .none
|some m=>exact .exc (.value m) fun z=>by cases z
theorem su(Mid:Sx->Prop)(h1:∃af,SS e n s σ (.ok .next af)/\Mid af)(h2:∀af,Mid af->EB e n rest af C):EB e n (s::rest) σ C:=aC h1.choose_spec.1 (h2 _ h1.choose_spec.2)
theorem Dm:md (.loc 0) i ⟨l,σ.q,.list (ks.map fun y=>F.str (sg y))::h,st⟩=some (ks[i]?.map fun a=>V.f (.str (sg a))):=fy (xs:=ks) (f:=fun a=>F.str (sg a)) rfl i (Sx.mk l none [] st)
inductive s7(A:Ah)(R:Rd)(ns:List Nat)(st:Nat)(xs:List F)(τ:Sx):Prop
|mk (l:List (Str×V)) (q:Qd) (ks:List Nat) (gv:Nat) (fr:List Nat) (D:List (List Nat)):τ=cZ gv st q l fr->gS A R gv ks l->bO A ns q ks gv fr->xs=D.map cL->(∀L∈D,(∀x∈L,x∈ns\/x=39)/\L.length<=10)->ks.length+11*D.length<=880->s7 A R ns st xs τ
theorem vU(N:dv A ns)(I:bO A ns q ks gv fr):fr.length<=6:=Nat.le_trans (iP I.frN I.frS) N.z
theorem IN(N:dv A ns):(cU A ks fr).length<=6:=by unfold cU;refine Nat.le_trans (List.length_filter_le ..) ?_;rw[jE N.a];exact Nat.le_trans (List.length_filter_le ..) N.z
set_option tactic.hygienic true in
theorem Gx{D:List (List Nat)}(N:dv A ns)(hR:j0 A R ns)(hq:σ.q=some ⟨q.1.1,some q.1.2,0,q.2,none⟩)(I:bO A ns q [] 0 (fc A []))(hD:∀L∈D,(∀x∈L,x∈ns\/x=39)/\L.length<=10)(hz:D.length<=70):
  ∃r',bo (n+4) 9 [.p .self,.f (.list (D.map cL)),.f (.dict (bg A)),.f (.dict (bJ R))] σ r'/\∃q',r'=.ok (.f (.bool true)) {σ with q:=q'}:=by
 refine' wX hq (dn:="_law_obeys") rfl rfl IC (fun h1 h2=>bd.pl h2 h1 rfl) rfl ?hB;refine' aC (Ad rfl (.cell rfl) (.loc rfl) (by decide) (ai rfl aJ (ai rfl (aL (i:=0)) (ai rfl (bf (.glob rfl rfl) rfl (ai rfl aJ (ai rfl (ae (.loc rfl rfl)) (ai rfl (ae (.cell rfl rfl)) an))) (dD (nm:="_law_free") rfl rfl (Il (ks:=[]) N.a hR (by decide)))) an)))) ?_;generalize hst:σ.st=st;refine' nu (J:=s7 A R ns st) (ae (.loc rfl rfl)) (fun u_ u_=>rfl) dc (.cell rfl) (.mk _ q [] 0 (fc A []) D rfl ⟨⟨rfl,rfl,rfl⟩,rfl,rfl,rfl⟩ I rfl hD ?hz) ?h0 ?h1
 case hz=>show 0+_<=_;lia
 case h0=> intro τ o_;obtain⟨l,q',ks,gv,fr,D,rfl,_⟩:=o_;exact cN sK ⟨_,bZ (.same _ rfl) rfl,_,by subst hst;rfl⟩
 case h1=>
  clear I hD hz hq;intro a xs τ o_;obtain⟨l,q,ks,gv,fr,D,rfl,K,I,e,hD,hz⟩:=o_;cases D with
 |nil=>cases e
 |cons L D=>
  cases(e);obtain⟨hL,zL⟩:=hD L (.head _);have hD:∀L'∈D,(∀x∈L',x∈ns\/x=39)/\L'.length<=10:=fun L' m=>hD L' (.tail _ m);have zf:=vU N I;rw[List.length_cons]at hz;have K:gS A R gv ks (ag l "names" (.f (cL L))):=K.put rfl;have hn:ad (ag l "names" (.f (cL L))) "names"=some (.f (cL L)):=aF;show EB _ _ _ (cZ gv st q (ag l "names" (.f (cL L))) fr) _;generalize ag l "names" (.f (cL L))=l at K hn ⊢;refine mn fun C hC=>?_;refine' aC (aS (.loc rfl) rfl (bq (ai rfl (jz ["sorter"] (.glob rfl rfl) rfl rfl rfl ?a1 ?b1 ?c1) (ai rfl (jz ["sorter"] (.glob rfl rfl) rfl rfl rfl ?a1 ?b2 ?c2) an)) rfl rfl)) ?_
  case a1=>exact fun m h=>by cases List.mem_singleton.mp h;exact⟨_,ia (.inl ⟨rfl,K.o.s⟩) rfl,rfl⟩
  case b1=>exact ba (fun u_=>rfl) rfl rfl (ae (iS rfl rfl rfl K.o.s)) (dE rfl (.tail _ (.head _)) rfl an (Jd rfl))
  case c1=>exact .exc _ (fun z=>by cases(z))
  case b2=>exact ba (fun u_=>rfl) rfl rfl (ae (iS rfl rfl rfl K.o.s)) (dE rfl (.head _) rfl (ai rfl aJ (ai rfl aJ an)) (Bv (ps:=["'"]) rfl (by decide)))
  case c2=>exact .exc _ (fun z=>by cases(z))
  have hC:∀τ,s7 A R ns st (D.map cL) τ->C (.ok .next τ):=fun τ j=>hC _ j;have K:gS A R gv ks (ag l "late" (.f fY)):=K.put rfl;have hn:ad (ag l "late" (.f fY)) "names"=some (.f (cL L)):=(aj rfl).trans hn;have ht:ad (ag l "late" (.f fY)) "late"=some (.f fY):=aF;show EB _ _ _ (cZ gv st q (ag l "late" (.f fY)) fr) C;generalize ag l "late" (.f fY)=l at K hn ht ⊢;have zF:Nat.ble (fr.map fun y=>F.str (sg y)).length aw=true:=by rw[List.length_map];exact bA zf (by decide)
  have zF2:Nat.ble (((fr.drop gv).map sg).map F.str).length aw=true:=by rw[List.length_map,List.length_map,List.length_drop];exact bA (Nat.le_trans (Nat.sub_le _ _) zf) (by decide)
  have Z:∀τ,aq τ.h 0=some (.list (fr.map fun y=>F.str (sg y)))->hH (.p (.loc 0)) (some (.f (.int (gv:Int)))) none τ (.ok (.f (.list (((fr.drop gv).map sg).map F.str))) τ):=fun τ h=>by have:=j8 (σ:=τ) (a:=some (.f (.int (gv:Int)))) (b:=none) rfl rfl (.p _ (.loc 0 h)) zF;rw[jp,<-List.map_drop]at this;rw[List.map_map];exact this
  refine' aC (aS (.loc rfl) rfl (g9 (r:=.ok (.f (wW L (.tup (((fr.drop gv).map sg).map F.str)) none)) (cZ gv st q l fr)) (az rfl (ae (.cell rfl hn)) (bq an rfl rfl) iI) (fun k=>?w1) (fun k=>?w2))) ?_
  case w1=>
   cases L with
  |nil=>cases k
  |cons a L=>exact bq (ai rfl cw an) rfl rfl
  case w2=>
   cases L with
  |cons a L=>cases k
  |nil=>exact bq (ai rfl (bf (.glob rfl rfl) rfl (ai rfl (cR (ae (.cell rfl K.f)) (cc (ae (.loc rfl K.g))) er (Z _ rfl)) an) (cx (by decide +kernel) (AT .f zF2))) an) rfl rfl
  have hW:L≠[]->wW L (.tup (((fr.drop gv).map sg).map F.str))=wV:=fun h=>by cases L with|nil=>exact absurd rfl h|cons a L=>rfl
  have hWc:∀o τ,aQ .NotEq (.f (wW L (.tup (((fr.drop gv).map sg).map F.str)) o)) (.f (wW L (.tup (((fr.drop gv).map sg).map F.str)) o)) τ false:=fun o τ=>GE;generalize hw:wW L (.tup (((fr.drop gv).map sg).map F.str))=W at hW hWc ⊢;have hE:cL L=.list ((L.map sg).map F.str):=by rw[List.map_map];rfl
  obtain⟨t1,t2,t3⟩:=bO.turn N I hL;generalize hfin:gu A L (ks,fr)=fin at t2 t3;refine' l8 (S:=Option Str×(List Nat×List Nat)) (enc:=fun l S=>cZ gv st q l S.2.2) (l:=ag l "words" (.f (W none))) (s:=(none,(ks,fr))) (fun u_ u_ u_=>rfl) (ps:=L.map sg) (J:=AH A R fin gv (ks.length+L.length) ns L W) (v:=.f (cL L)) (ae (.cell rfl ((aj rfl).trans hn))) (fun u_ u_=>rfl) (by rw[hE];exact dc) (.loc rfl) ⟨K.put rfl,aF,fun h=>hW fun z=>h (by rw[z];rfl),(aj rfl).trans hn,⟨L,rfl,hL,?z1,?z2,hfin⟩,(aj rfl).trans ht⟩ ?h0 ?h1
  case z1=>exact Nat.le_refl _
  case z2=>show fr.length+_<=_;lia
  case h1=>
   haveI zB:ks.length+L.length<=890:=by lia
   generalize ks.length+L.length=B at zB ⊢;clear hfin hC hWc hw Z zF zF2 K hn ht hz hD zf hE t1 t2 t3 hW I;intro p ps l o_;obtain⟨o,ks,fr⟩:=o_;intro o_;obtain⟨K,w,e,hn,o1_,ht⟩:=o_;obtain⟨L1,e1,hL1,z1,z2,ho⟩:=o1_;dsimp only at K w z1 z2 ho;cases L1 with
  |nil=>cases e1
  |cons x L1=>
   cases(e1);rw[List.length_cons]at z1 z2;haveI eW:=e (fun z=>by cases(z));subst eW;have K:gS A R gv ks (ag l "x" (.f (.str (sg x)))):=K.put rfl;have w:ad (ag l "x" (.f (.str (sg x)))) "words"=some (.f (wV o)):=(aj rfl).trans w;have hn:ad (ag l "x" (.f (.str (sg x)))) "names"=some (.f (cL L)):=(aj rfl).trans hn;have ht:ad (ag l "x" (.f (.str (sg x)))) "late"=some (.f fY):=(aj rfl).trans ht;have hx:ad (ag l "x" (.f (.str (sg x)))) "x"=some (.f (.str (sg x))):=aF;generalize ag l "x" (.f (.str (sg x)))=l at K w hn ht hx ⊢;refine mn fun C hC=>?_;have hC:∀l S,AH A R fin gv B ns L wV (L1.map sg) l S->C (.ok .next (cZ gv st q l S.2.2)):=fun l S j=>hC _ ⟨l,S,rfl,j⟩;cases o with
  |some m=>exact bM (az rfl (ae (.loc rfl w)) (bq (ai rfl cw an) rfl rfl) qr) (aD (aD (hC l (some m,ks,fr) ⟨K,w,fun u_=>rfl,hn,⟨L1,rfl,fun y m=>hL1 y (.tail _ m),by show ks.length+_<=_;lia,by show fr.length+_<=_;lia,ho⟩,ht⟩)))
  |none=>
    refine cu (az rfl (ae (.loc rfl w)) (bq (ai rfl cw an) rfl rfl) qr) (aC (aS (.loc rfl) rfl (bf (.glob rfl rfl) rfl (ai rfl (ae (.loc rfl hx)) (ai rfl (ae (.cell rfl K.k)) (ai rfl (ae (.loc rfl K.o.a)) (ai rfl (ae (.cell rfl K.o.r)) an)))) (dD (nm:="_law_refusal") rfl rfl (Ex N hR (by lia) (hL1 x (.head _)))))) ?_);have ho:(match dI A ks x with|some m=>(some m,(ks,fr))|none=>gu A L1 (ks++[x],fr++cU A (ks++[x]) fr))=fin:=ho;have K:gS A R gv ks (ag l "words" (.f (wV (dI A ks x)))):=K.put rfl;have w:ad (ag l "words" (.f (wV (dI A ks x)))) "words"=some (.f (wV (dI A ks x))):=aF;have hn:ad (ag l "words" (.f (wV (dI A ks x)))) "names"=some (.f (cL L)):=(aj rfl).trans hn;have ht:ad (ag l "words" (.f (wV (dI A ks x)))) "late"=some (.f fY):=(aj rfl).trans ht;have hx:ad (ag l "words" (.f (wV (dI A ks x)))) "x"=some (.f (.str (sg x))):=(aj rfl).trans hx;show EB _ _ _ (cZ gv st q (ag l "words" (.f (wV (dI A ks x)))) fr) _;generalize ag l "words" (.f (wV (dI A ks x)))=l at K w hn ht hx ⊢;cases hm:dI A ks x with
   |some m=> rw[hm]at w ho;exact bM (az rfl (ae (.loc rfl w)) (bq (ai rfl cw an) rfl rfl) qr) (aD (aD (aD (hC l (some m,ks,fr) ⟨K,w,fun u_=>rfl,hn,⟨L1,rfl,fun y m=>hL1 y (.tail _ m),by show ks.length+_<=_;lia,by show fr.length+_<=_;lia,ho⟩,ht⟩))))
   |none=>
     rw[hm]at w ho;dsimp only at ho;have zn:=IN (ks:=ks++[x]) (fr:=fr) N;have zk:Nat.ble (tx (ks++[x])).length aw=true:=jK (k:=900) (by rw[List.length_append,List.length_singleton];lia) (by decide);haveI zy:Nat.ble ((fr.map fun y=>F.str (sg y)).length+((cU A (ks++[x]) fr).map fun y=>F.str (sg y)).length) aw=true:=by rw[List.length_map,List.length_map];exact bA (k:=600) (by lia) (by decide)
     have K2:gS A R gv (ks++[x]) (ag l "kept" (.f (.str (tx (ks++[x]))))):=⟨K.o.put rfl rfl rfl,aF,(aj rfl).trans K.g,(aj rfl).trans K.f⟩;refine cu (az rfl (ae (.loc rfl w)) (bq (ai rfl cw an) rfl rfl) qr) (aC (qQ (u:=.f (.str (tx (ks++[x])))) (.cell rfl K.k) (.cell rfl) (ae (.loc rfl hx)) (Kg ?zk)) ?_)
     case zk=>exact Nat.ble_eq_true_of_le (show ks.length+1<=aw from Nat.le_trans (show ks.length+1<=900 by lia) (by decide))
     have hn:ad (ag l "kept" (.f (.str (tx (ks++[x]))))) "names"=some (.f (cL L)):=(aj rfl).trans hn;have ht:ad (ag l "kept" (.f (.str (tx (ks++[x]))))) "late"=some (.f fY):=(aj rfl).trans ht;have w:ad (ag l "kept" (.f (.str (tx (ks++[x]))))) "words"=some (.f (wV none)):=(aj rfl).trans w;show EB _ _ _ (cZ gv st q (ag l "kept" (.f (.str (tx (ks++[x]))))) fr) _;generalize ag l "kept" (.f (.str (tx (ks++[x]))))=l at K2 w hn ht ⊢;haveI zA:(fc A (ks++[x])).length<=1000:=by rw[jE N.a];exact Nat.le_trans (List.length_filter_le ..) (Nat.le_trans N.z (by decide))
     have zk:(ks++[x]).length<=1000:=by rw[List.length_append,List.length_singleton];lia
     haveI G:jV .Add (.p (.loc 0)) (.f (.list ((cU A (ks++[x]) fr).map fun y=>F.str (sg y)))) (cZ gv st q l fr) (.ok (.p (.loc 0)) (cZ gv st q l (fr++cU A (ks++[x]) fr))):=by have:=Hi (σ:=cZ gv st q l fr) (i:=0) rfl .f zy;rw[<- List.map_append]at this;exact this
     refine aC (qQ (.cell rfl K2.f) (.cell rfl) (iw (xs:=fc A (ks++[x])) (item:=fun a=>.f (.str (sg a))) (keep:=fun y=>!fr.contains y) (val:=fun a=>.str (sg a)) (ys:=(cU A (ks++[x]) fr).map fun y=>F.str (sg y)) (fun u_ u_=>rfl) (.of rfl) (bf (.glob rfl rfl) rfl (ai rfl (ae (.cell rfl K2.k)) (ai rfl (ae (.loc rfl K2.o.a)) (ai rfl (ae (.cell rfl K2.o.r)) an))) (dD (nm:="_law_free") rfl rfl (F0 N.a hR zk))) dc (fun i τ h=>og i τ) ⟨fun a ha acc=>gT (az rfl (ae (.loc rfl rfl)) (ae (cS rfl rfl K2.f)) (Im (.p _ (.loc 0 rfl)))),fun a ha u_ acc=>ae (.loc rfl rfl),zA⟩ rfl rfl) G) (aD (aD (aD (hC _ (none,ks++[x],fr++cU A (ks++[x]) fr) ⟨⟨K2.o.put rfl rfl rfl,(aj rfl).trans K2.k,(aj rfl).trans K2.g,aF⟩,(aj rfl).trans w,fun u_=>rfl,(aj rfl).trans hn,⟨L1,rfl,fun y m=>hL1 y (.tail _ m),?y1,?y2,ho⟩,(aj rfl).trans ht⟩))))
     case y1=>show(ks++[x]).length+_<=_;rw[List.length_append,List.length_singleton];lia
     case y2=>show(fr++_).length+_<=_;rw[List.length_append];lia
  case h0=>
   intro l S o_;obtain⟨K,w,-,hn,o1_,ht⟩:=o_;obtain⟨L1,e1,-,zk,-,ho⟩:=o1_;haveI hS:S=fin:=by
    cases L1 with
   |cons a r=>cases e1
   |nil=> rw[<- ho];obtain⟨o,s⟩:=S;cases o<;>rfl
   subst hS;haveI zk':=Nat.le_trans (Nat.le_add_right _ _) zk;clear ho e1 zk L1;obtain⟨o,ks',fr'⟩:=S;dsimp only at K w t2 t3 zk';refine su (fun τ=>∃q' gv',τ=cZ gv' st q' l fr'/\((L=[]/\gv'=fr'.length/\bO A ns q' (ks'++[124]) gv' fr')\/(L≠[]/\gv'=gv/\bO A ns q' ks' gv fr'))) ?m1 ?m2
   case m1=>
    cases L with
   |nil=>
     cases(hfin);haveI hlen:q.1.2.length=fr.length-gv:=by rw[I.rd,List.length_map,List.length_drop]
     haveI e1:(gv:Int)+(q.1.2.length:Int)=((fr.length:Nat):Int):=by have:=I.gvl;rw[hlen];lia
     have H:bo (n+3) 20 [.p .self] (cZ gv st q l fr) (.ok (.f (.tup (q.1.2.map F.str))) (cZ fr.length st ((q.1.2.foldl fW q.1.1,[]),q.2) l fr)):=by
      have:=JE (n:=n+2) (σ:=cZ gv st q l fr) rfl (by lia) fun u hu=>by rw[I.rd]at hu;obtain⟨y,hy,rfl⟩:=List.mem_map.mp hu;rw[I.nodes,gI (I.frS y (List.mem_of_mem_drop hy))];rfl
      rw[e1]at this;exact this
     refine⟨_,hU (az rfl (g9 (r:=.ok (.f (W none)) (cZ fr.length st ((q.1.2.foldl fW q.1.1,[]),q.2) l fr)) (az rfl (ae (.cell rfl hn)) (bq an rfl rfl) iI) (fun k=>by cases(k)) (fun u_=>?g)) (ae (.loc rfl w)) (hWc _ _)) eA,_,_,rfl,.inl ⟨rfl,rfl,I.ready N⟩⟩;rw[show W none=.list [.tup (q.1.2.map F.str)]from by rw[<- hw,I.rd];rfl];exact bq (ai rfl (ba (fun u_=>rfl) rfl rfl (ae (.cell rfl K.o.s)) (dE rfl (.tail _ (.tail _ (.head _))) rfl an H)) an) rfl rfl
   |cons a L=>
     have hne:a::L≠[]:=fun z=>by cases z
     haveI zn:((a::L).map fun y=>F.str (sg y)).length<=1000:=by rw[List.length_map];lia
     obtain⟨rb,H,HW⟩:=HS (n:=n) (σ:=⟨[],some ⟨q.1.1,some q.1.2,(gv:Int),q.2,none⟩,[],st⟩) (gv:=gv) rfl (show((a::L).map sg).length<=1000 by rw[List.length_map];lia) t1;rw[show((a::L).map sg).map (fun p=>V.f (.str p))=((a::L).map fun y=>F.str (sg y)).map V.f from by rw[List.map_map,List.map_map];rfl]at H;generalize cM ((a::L).map sg) q=od at t2 t3 HW;obtain⟨o1,q1⟩:=od;cases(show o1=o from t2);refine⟨_,hU (az rfl (g9 (r:=.ok (.f (W o)) (cZ gv st q1 l fr')) (az rfl (ae (.cell rfl hn)) (bq an rfl rfl) iI) (fun u_=>?g2) (fun k=>by cases k)) (ae (.loc rfl w)) (hWc _ _)) eA,_,_,rfl,.inr ⟨hne,rfl,t3⟩⟩
     case g2=>
     rw[hW hne];refine jz ["names","sorter"] (.glob rfl rfl) rfl rfl rfl ?h2 (ba (fun u_=>rfl) rfl rfl (ae (iS rfl rfl rfl K.o.s)) (Hd rfl (.tail _ (.tail _ (.tail _ (.tail _ (.head _))))) (ae (iS rfl rfl rfl hn)) (bA zn (by decide)) H)) HW
     case h2=>
      intro m h;rcases List.mem_cons.mp h with rfl|h
      ·exact⟨_,ia (.inl ⟨rfl,hn⟩) rfl,rfl⟩
      ·cases List.mem_singleton.mp h;exact⟨_,ia (.inl ⟨rfl,K.o.s⟩) rfl,rfl⟩
   case m2=>
    intro τ o_;obtain⟨q',gv',rfl,hc⟩:=o_;have zf':fr'.length<=6:=vU N t3;haveI zfl:Nat.ble (fr'.map fun y=>F.str (sg y)).length aw=true:=by rw[List.length_map];exact bA zf' (by decide)
    refine su (fun τ=>∃l ks2,τ=cZ gv' st q' l fr'/\gS A R gv' ks2 l/\bO A ns q' ks2 gv' fr'/\ks2.length<=ks'.length+1/\ad l "late"=some (.f fY)) ?p1 ?p2
    case p1=>
     rcases hc with⟨rfl,rfl,I'⟩|⟨hne,rfl,I'⟩
     ·refine⟨_,yN (a:=.str (tx (ks'++[124]))) (b:=.int (fr'.length:Int)) (.cell rfl) (.loc rfl) (fun u_=>⟨rfl,rfl⟩) (g9 (az rfl (ae (.cell rfl hn)) (bq an rfl rfl) iI) (fun k=>by cases k) (fun u_=>sG (ai rfl (aR (ae (.cell rfl K.k)) aJ (gd ?zb)) (ai rfl (bf (.glob rfl rfl) rfl (ai rfl (ae (.cell rfl K.f)) an) (cx (by decide +kernel) (kM (.p _ (.loc 0 rfl)) zfl))) an)) (by rw[List.length_map];rfl) rfl)),_,ks'++[124],rfl,⟨(K.o.put rfl rfl rfl).put rfl rfl rfl,(aj rfl).trans aF,aF,(aj rfl).trans ((aj rfl).trans K.f)⟩,I',by rw[List.length_append];exact Nat.le_refl _,(aj rfl).trans ((aj rfl).trans ht)⟩;exact Nat.ble_eq_true_of_le (show ks'.length+1<=aw from Nat.le_trans (show ks'.length+1<=900 by lia) (by decide))
     ·refine⟨_,yN (a:=.str (tx ks')) (b:=.int (gv':Int)) (.cell rfl) (.loc rfl) (fun u_=>⟨rfl,rfl⟩) (g9 (az rfl (ae (.cell rfl hn)) (bq an rfl rfl) iI) (fun u_=>sG (ai rfl (ae (.cell rfl K.k)) (ai rfl (ae (.loc rfl K.g)) an)) rfl rfl) (fun k=>by cases L with|nil=>exact absurd rfl hne|cons a L=>cases k)),_,ks',rfl,⟨(K.o.put rfl rfl rfl).put rfl rfl rfl,(aj rfl).trans aF,aF,(aj rfl).trans ((aj rfl).trans K.f)⟩,I',Nat.le_succ _,(aj rfl).trans ((aj rfl).trans ht)⟩
    case p2=>
     clear hc K w hn ht t1 t2 t3 hfin I hL;intro τ o_;obtain⟨l,ks2,rfl,K,I,zk,ht⟩:=o_;haveI zk2:ks2.length<=1000:=by lia
     haveI zr:q'.1.2.length<=1000:=by rw[I.rd,List.length_map,List.length_drop];lia
     haveI E:((fr'.filter fun x=>!tk [x] none ks2).map fun y=>F.str (sg y)).isEmpty=(fr'.filter fun x=>!tk [x] none ks2).isEmpty:=qM;have B:=I.active N;rw[<- E]at B;refine aC (aS (.loc rfl) rfl (uK rfl (Ij (xs:=fr') (item:=fun a=>.f (.str (sg a))) (keep:=fun x=>!tk [x] none ks2) (val:=fun a=>.str (sg a)) (fun u_ u_=>rfl) (.of rfl) (ae (.cell rfl K.f)) (xu (.loc 0 rfl)) (fun i l acc=>Dm (σ:=⟨[],some ⟨q'.1.1,some q'.1.2,(gv':Int),q'.2,none⟩,[],st⟩)) ⟨fun a ha acc=>?t,fun a ha u_ acc=>ae (.loc rfl rfl),Nat.le_trans zf' (by decide)⟩ rfl rfl) (bq an rfl rfl) iI)) ?_
     case t=>exact gT (lN (dY (fun u_=>rfl) (bf (.glob rfl rfl) rfl (ai rfl (bh (ae (cS rfl rfl K.o.r)) (ae (.loc rfl rfl)) (fM .f (hR.one a (I.frS a ha)))) (ai rfl (ae (cS rfl rfl K.k)) an)) (dD rA rfl (oS zk2 (show 1<=900 by decide)))) jH))
     rw[<- B];have KA:=Hv (n:=n+2) (σ:=cZ gv' st q' (ag l "active" (.f (.bool (decide (q'.2 < (gv':Int))||!q'.1.2.isEmpty)))) fr') rfl zr;generalize(decide (q'.2 < (gv':Int))||!q'.1.2.isEmpty)=k at KA;refine bM (dZ (eZ (az rfl (ae (.loc rfl ((aj rfl).trans ht))) (bq (ai rfl aJ (ai rfl aJ an)) rfl rfl) Jb) (eZ (az rfl (ba (fun u_=>rfl) rfl rfl (ae (.cell rfl ((aj rfl).trans K.o.s))) (dE rfl (.tail _ (.tail _ (.tail _ (.head _)))) rfl an KA)) (ae (.loc rfl aF)) DY) kL))) (aD (aD (hC _ (.mk _ q' ks2 gv' fr' D rfl (K.put rfl) I rfl hD (by lia)))))
end
end
section
open PySem PySem.W PyProof.Rows PySem.SeqAt
section
variable{s:Shared}{b:aN}{A:Around}{env:Env}{E:Value->Shared->Prop}
theorem HC.regen(h:HC c g s)(q:AllBare gs):HC c g {s with gens:=gs}:=⟨h.zf,h.at_,h.inj,h.nz,h.xz,h.xs,h.base,h.tabs,h.old,h.os,q,h.tk⟩
theorem zT{tk:Tok}(hb:attributeBase o "replace" env (eval o env)=eval o env)(hl:(a.endLine==p.line)=true)(hn:kF u t=true)
  (h:wpAny b.M A (eval o env) (fun r ap=>r=.str t tk/\Keeps s ap) E s) :
  wpAny b.M A (eval (.Call (.Attribute o "replace" a) [.Constant (.str u) k q,.Constant (.str v) k' q'] [] p) env) (fun r ap=>r=.str t tk/\Keeps s ap) E s:=by
 refine oQ hb hl (show 2 < 25 from by decide) (wpAny_mono h (fun ov ap bk=>?_) fun u_ u_ z=>z);obtain⟨rfl,h',tk',rfl,hk⟩:=bk;rw[kJ (args:=[.Constant (.str u) k q,.Constant (.str v) k' q']) rfl,if_neg Bool.false_ne_true]
 with_reducible refine GM.replace ?_
 refine fQ (Calls.evalArgs_plain ?_);refine Calls.spliced_cons ?_;refine Calls.Constant_str (k:=k) (pos:=q) ?_;refine Calls.spliced_cons ?_;refine Calls.Constant_str (k:=k') (pos:=q') ?_;refine Calls.spliced_nil ⟨fV,?_⟩;haveI hc:((Builtin.Str.occurrences t u 0 t.length (t.length+1)).isEmpty||(u.length==0&&v.length==0))=true:=by rw[show(Builtin.Str.occurrences t u 0 t.length (t.length+1)).isEmpty=true from hn];rfl
 refine call_gives PySem.F.slot_str_replace (typeIs_str _ _ _) PySem.F.entry_str_replace (PySem.F.args_str_replace_3 _ _ _) (gives_str_replace t u v tk _ _ fun z=>by rw[hc]at z;cases z) ?_;rw[if_pos hc];exact⟨rfl,_,_,rfl,hk⟩
theorem ze(n:Nat):passing (fun u_=>true) n 0=List.range n:=by unfold passing;simp
theorem yI:∀{ls:List Str}{vs:List Value}{j:Nat}{v:Value},FRs b z (ls.map F.str) vs->vs[j]?=some v->∃x t,ls[j]?=some x/\v=.str x t:=@fun c d e f g i=>match c,d,e,f,g,i with
|[],_,_,_,r,h=>by cases(show _=[]from r);cases h
|x::_,_,0,v,r,h=>by obtain⟨w,vs,rfl,a,_⟩:=r;cases h;exact⟨x,_,rfl,a⟩
|x::_,_,j+1,v,r,h=>by obtain⟨w,vs,rfl,_,r⟩:=r;exact yI (j:=j) r h
theorem Hp(r:FRs b z (ls.map F.str) vs)(h0:lt.length=vs.length)(h:∀(j:Nat)(y:Value),(strValues lt)[j]?=some y->∃i,(List.range vs.length)[j]?=some i/\∃(x:Str)(t:Tok),ls[i]?=some x/\y=Value.str x t):lt.map (·.1)=ls:=by
 haveI hl:vs.length=ls.length:=r.length.trans (List.length_map ..);apply List.ext_getElem?;intro j;by_cases hj:j < lt.length
 ·obtain⟨i',h1,tx,tt,h2,hv⟩:=h j (.str lt[j].1 lt[j].2) (by simp[strValues,List.getElem?_eq_getElem hj]);obtain⟨_,he⟩:=List.getElem?_eq_some_iff.mp h1;haveI hij:i'=j:=by simpa using he.symm
  subst hij;injection hv with h3 _;rw[h2,List.getElem?_map,List.getElem?_eq_getElem hj];simp[h3]
 ·exact(List.getElem?_eq_none (by simpa using Nat.le_of_not_lt hj)).trans (List.getElem?_eq_none (by rw[<- hl,<-h0];exact Nat.le_of_not_lt hj)).symm
theorem Ew(hv:bt e y σ (.p (.loc i)))(hi:aq σ.h i=some (.list (ls.map F.str)))(hno:∀x∈ls,kF u1 x=true/\kF u2 x=true)(hlen:ls.length<=1000)(hok:JoinOk t ls=true)
  (l1:(a1.endLine==p1.line)=true) (l2:(a2.endLine==p2.line)=true) (hco:sc.isCoroutine=false) (hk:sc.kind=.function) (hnm:∀p∈sc.names,p.2≠.cell) (h0:sc.names.lookup (".0":Str)=some NameKind.local) (hx:sc.names.lookup x=some .local) (hxd:(x==("__debug__":Str))=false) (hc:ff e sc.names=true) :
  ln e n (.f (.str t)) "join" [.GeneratorExp (.Call (.Attribute (.Call (.Attribute (.Name x px) "replace" a1) [.Constant (.str u1) k1 q1,.Constant (.str v1) k2 q2] [] p1) "replace" a2) [.Constant (.str u2) k3 q3,.Constant (.str v2) k4 q4] [] p2) [⟨.Name x pg,.Name y py,[],0⟩] sc gp] σ (.ok (.f (.str (Txt.join t ls))) σ):=fun c j d av pos pl Q ra p=>by
 haveI ie:=j.e;subst ie;haveI hm:=ux hc;rw[kJ rfl,if_neg Bool.false_ne_true];refine nR c d av pl _ ra (vj rfl ?_);obtain⟨tk,rfl⟩:∃tk,av=.str t tk:=⟨_,ra⟩;refine wpAny_mono (wpAny_toks_of (n:=d.s.toks) (Nat.le_refl _) (wpAny_GeneratorExp_walksQ (Q:=fun v ap=>d.s.toks<=ap.toks->Wp c (call (.builtin "str.join") [.str t tk,v]) Q ap) j.h hco (rE (pj d rfl hc)) hnm h0 hx hk (by have:=c.k.depth;lia) (ei hv rfl d fun xv rx=>?_) (fun u_=>rfl))) (fun v ap hv=>⟨fV,hv.2 hv.1⟩) fun u_ u_ z=>z.2;apply ma (.loc i hi) rx;intro l vs m el hI hF;have hIno:=Heap.get?_none_of_le (h:=d.s.heap) (Nat.le_refl d.s.heap.objs.size);refine wpAny_pyIter_list (bz hI) ⟨d.h.limit.push _,?_⟩;haveI fI:=d.h.fresh hIno;haveI nf:d.s.heap.objs.size∉c.fs:=fun m=>by obtain⟨ob,_,_,h1,_⟩:=d.frame m;rw[hIno]at h1;cases h1
 have hIo:(d.s.heap.push {cls:=.type "list_iterator",data:=.fields #[.ref l,.int 0 0]}).get? d.s.heap.objs.size=some {cls:=.type "list_iterator",data:=.fields #[.ref l,.int 0 0]}:=Heap.get?_push_size _ rfl;haveI nl:l≠d.s.heap.objs.size:=fun z=>by have:=d.h.at_ _ _ el;rw[z,hIno]at this;cases this
 generalize ho:({cls:=.type "list_iterator",data:=.fields #[.ref l,.int 0 0]}:Obj)=o at hIo ⊢;generalize vg:((d.keeps (s':={d.s with heap:=d.s.heap.push o}) (fun u_ u_ h=>Heap.get?_push_of_some _ h) rfl rfl d.h.tk).plus c.E fI hIo)=ak;have lb:ak.s={d.s with heap:=d.s.heap.push o}:=by rw[<- vg];rfl
 have Bp:ak.g=d.g:=by rw[<- vg];rfl
 rw[<- lb];haveI Lm:d.s.toks<=ak.s.toks:=by rw[lb];exact Nat.le_refl _
 generalize hI0:d.s.heap.objs.size=I at *;refine zI (pos:=gp) ak hm (c.env.qual++"<genexpr>") (fun hc h1 hf h=>vE hc h1 hf h) (fun hc h1 h2 hf h=>wpAny_genexprCodeX hc h1 h2 hf fun c' h' tk q1 q2 q3 q4 q5 q6 u_=>h c' h' tk q1 q2 q4 q5 q6) fun am code bQ cz=>?_;obtain⟨rO,je⟩:=am.still nf;have nc:kx o:=lL.nc ⟨_,by rw[<- ho]⟩;have cC:d.g.Le (am.minus nc).g:=Eq.mp (congrArg (fun g=>g.Le am.g) Bp) bQ;rw[show am.s=(am.minus nc).s from rfl]at je ⊢;change cq c (am.minus nc).g I at rO;generalize am.minus nc=ay at cC rO je ⊢;clear cz vg Lm lb Bp bQ am hIo;obtain⟨mg,bm,ob,B⟩:=c.ok.bmod;haveI hg:ay.s.heap.Ns c.env.globals mg:=by rw[c.k.glo];exact ay.h.bns B.ns
 haveI hbm:bm∉c.b.tabA:=fun m=>by obtain⟨vs,ho⟩:=c.ok.tabs bm m;have h1:=B.cls;have h2:=B.obj;rw[ho]at h2;cases h2;cases h1
 refine wpAny_builtinsFor hg B.name B.ne (ay.h.b B.obj hbm) B.cls B.dict B.data ?_;cases(eQ.loc i hi).at_ ay with|mk l' vs' n' h1 h2 h3=>
 cases(show some l'=some l from h1.symm.trans (cC.p _ _ el));haveI hL:ay.s.heap.IsList l vs'.toArray:=bz ((ay.h.at_ _ _ h1).trans (congrArg some h2));haveI zl:vs'.length=ls.length:=h3.length.trans (List.length_map ..);haveI ltI:=Heap.lt_size je;haveI ltL:l < ay.s.heap.objs.size:=Heap.lt_size (ay.h.at_ _ _ h1);haveI hcs:cStatics≠I:=fun z=>by obtain⟨_,hn,_⟩:=d.h.limit;have:=hn.lt;rw[z,hI0]at this;exact Nat.lt_irrefl _ this
 refine⟨I,[I,l],[I],vs'.toArray.size,_,_,fun u_=>true,(fun j v=>∃(x:Str)(t:Tok),ls[j]?=some x/\v=Value.str x t),rfl,fun A' hA=>Walks.list hA _ _ nl vs'.toArray,⟨⟨_,je,by rw[<- ho],by rw[<- ho];rfl⟩,hL⟩,?_,ay.h.limit,?_,?_,?_⟩
 ·intro c hc;rcases List.mem_cons.mp hc with rfl|hc
  ·exact ltI
  ·cases List.mem_singleton.mp hc;exact ltL
 ·exact fun m=>hcs (List.mem_singleton.mp m)
 ·intro href _;refine⟨fun A' E' j v s₂ Ln u_ u_ u_ u_ u_=>wpAny_pure ⟨rfl,s₂.heap,s₂.toks,rfl,fun u_ u_ h=>h⟩,fun A' E' j v s₂ Ln u_ hP u_ hn hv u_=>?_⟩;obtain⟨tx,tt,hl,rfl⟩:=yI h3 (j:=j) (v:=v) (by simpa using hP);obtain⟨n1,n2⟩:=hno tx (List.mem_of_getElem? hl);refine wpAny_mono (zT rfl l2 n2 (zT rfl l1 n1 (wpAny_Name (wpAny_loadName_local hk hx hn hv ⟨rfl,s₂.heap,s₂.toks,rfl,fun u_ u_ h=>h⟩) hxd))) (fun r cj hr=>?_) fun u_ u_ z=>z;obtain⟨rfl,K⟩:=hr;exact⟨⟨tx,tt,hl,rfl⟩,K⟩
 ·intro a fA Bq gs hgb hag Lo Lp Wk hat ht5;have Wk:=Wk.in4_2;refine wpAny_mono (wpAny_toks_of (n:=Bq) (Nat.le_refl _) (SC.joinGen (Q:=fun v s'=>Bq<=s'.toks->Q v s') Wk (fun i s' st=>st.1.typeIs) hat ?_ List.mem_cons_self (fun j v hv=>?_) (fun s' lt hmv hacc=>?_) ?_)) (fun v ap hv=>hv.2 hv.1) fun u_ u_ z=>z.2
  ·intro c hc;show c < fA.objs.size;rw[Lo];rcases List.mem_cons.mp hc with rfl|hc
   ·exact Nat.lt_succ_self _
   ·rcases List.mem_cons.mp hc with rfl|hc
    ·exact Nat.lt_succ_of_lt hag
    ·exact Nat.lt_succ_of_lt (Nat.lt_trans (List.mem_range.mp hc) hag)
  ·obtain⟨_,_,tx,tt,_,rfl⟩:=hv;exact⟨tx,tt,rfl⟩
  ·rw[ze]at hacc;rw[Hp (lt:=lt) h3 (by haveI:=hacc.1;simpa[strValues]using this) fun j y h=>hacc.2 j y (List.getElem?_toArray.trans h)];refine⟨hok,fun t' k hk5=>?_⟩;haveI kk:∀c o,c≠I->ay.s.heap.get? c=some o->s'.heap.get? c=some o:=fun c o hc ho=>by
    refine hmv.heap c o (fun m=>?_) (Lp c o ho);rcases List.mem_cons.mp m with rfl|m
    ·exact absurd (Heap.lt_size ho) (Nat.lt_irrefl _)
    ·exact hc (List.mem_singleton.mp m)
   haveI HB:AllBare s'.gens:=AllBare.movedS (ay.h.gens.push hgb) hmv;exact p ⟨ay.g,{s' with toks:=k},((ay.h.keeps (s':={ay.s with toks:=d.s.toks}) (fun u_ u_ h=>h) rfl rfl d.h.tk).touch (s':={s' with gens:=ay.s.gens,toks:=k}) rO (rO.noB ay.h ay.r) kk hmv.os rfl (Nat.le_trans ht5 hk5)).regen HB,ay.r⟩ _ cC rfl
  ·rw[ze];simp only[List.size_toArray,List.length_range,zl];exact Nat.le_trans hlen (by decide +kernel)
end
end
section
open PySem PySem.W PyProof.Rows PySem.SeqAt PySem.Builtin.Str
section
variable{e:Ev}{x dW dX o i:Expr}{k k':Nat}
theorem A8(hx:ST e n x σ (.ok true σ₁)):iZ e n .Or (x::r) σ (.ok true σ₁):=fun c i d Q p=>by rw[arm_allTrue_cons];exact wpAny_bind (hx c i d _ fun d' k le q=>by cases q;exact wpAny_pure (p d' true le rfl))
theorem jC(hx:ST e n x σ (.ok true σ₁))(hr:iZ e n .And r σ₁ rr):iZ e n .And (x::r) σ rr:=fun c i d Q p=>by rw[arm_allTrue_cons];exact wpAny_bind (hx c i d _ fun d' k le q=>by cases q;exact hr c i d' Q (p.after le))
theorem sV(hx:ST e n x σ (.ok false σ₁)):iZ e n .And (x::r) σ (.ok false σ₁):=fun c i d Q p=>by rw[arm_allTrue_cons];exact wpAny_bind (hx c i d _ fun d' k le q=>by cases q;exact wpAny_pure (p d' false le rfl))
theorem lx(hx:ST e n x σ (.ok b σ)):iZ e n .And [x] σ (.ok b σ):=by
 cases b with
|true=>exact jC hx kL
|false=>exact sV hx
theorem En(ho:SE e n o σ (.ok v σ₁))(hi:SE e n i σ₁ (.ok w au))(hk:pP v w au (.ok () bl)):SS e n (.Delete [.Subscript o i p] pos) σ (.ok .next bl):=fun c ii h d Q pp=>
 wpAny_Delete (wpAny_deleteEach_cons (wpAny_delete_Subscript (ho c ii d _ fun d' a le r=>hi c ii d' _ fun am b bQ bY=>hk c am a b _ (VD.mono bQ r) bY fun ay u_ cC u_=>wpAny_deleteEach_nil (fL (pp.after (le.trans (bQ.trans cC)))))))
theorem xA(hy:jw e y=true)(hz:jw e z=true)(hl:(q.line==p.line)=true)(n12:ah y z=false)(h1:bx xa=false)(h2:bx xb=false)(hf:[xa,xb].all (foldedForSure 8)=false)(hc:[xa,xb].all (constantsAlone 8)=false)(hsy:bF e y)(hsz:bF e z)
  (hx:cP e n [xa,xb] σ (.ok [a,b] σ₁)):SS e n (.Assign [.Tuple [.Name y p,.Name z q] k tp] (.Tuple [xa,xb] k' p') pos) σ (.ok .next {σ₁ with l:=ag (ag σ₁.l z b) y a}):=
 yQ (ys:=[y,z]) hx rfl (show 2<=3 by decide) (fun u m=>by
  rcases List.mem_cons.mp m with rfl|m
  ·exact hsy
  ·cases List.mem_singleton.mp m;exact hsz) (Iq hy hz hl n12 h1 h2 hf hc)
theorem gk:aQ .Eq (.f (.str (sg a))) (.f (.str (sg b))) σ (a==b):=by haveI:=bS (σ:=σ) (neg:=false) (iH (n:=6) (x:=sg a) (y:=sg b));rw[fJ,Bool.bne_false]at this;exact this
theorem w7:aQ .NotEq (.f (.str (sg a))) (.f (.str (sg b))) σ (!(a==b)):=by haveI:=bS (σ:=σ) (neg:=true) (iH (n:=6) (x:=sg a) (y:=sg b));rw[fJ,Bool.bne_true]at this;exact this
theorem gV{a b:Nat}:aQ .Lt (.f (.int (a:Int))) (.f (.int (b:Int))) σ (decide (a < b)):=by haveI:=qo (σ:=σ) (i:=(a:Int)) (j:=(b:Int));rw[show decide ((a:Int) < (b:Int))=decide (a < b)from decide_eq_decide.mpr (by lia)]at this;exact this
theorem J0{a b:Nat}:aQ .GtE (.f (.int (a:Int))) (.f (.int (b:Int))) σ (decide (b<=a)):=by haveI:=ur (σ:=σ) (i:=(a:Int)) (j:=(b:Int));rw[show decide ((b:Int)<=(a:Int))=decide (b<=a)from decide_eq_decide.mpr (by lia)]at this;exact this
end
section
variable{ks mid rest:List Nat}{i j:Nat}
theorem tW(h:ks.drop i=mid++rest)(hm:mid≠[])(hj:j=i+mid.length):dH (tx ks) (some (i:Int)) (some (j:Int))=tx mid:=by haveI hl:=congrArg List.length h;rw[List.length_drop,List.length_append]at hl;haveI:0 < mid.length:=List.length_pos_iff.mpr hm;show(⟨((ks.take (Nat.min j ks.length)).drop (Nat.min i ks.length)).toArray⟩:Str)=_;rw[show Nat.min j ks.length=j from Nat.min_eq_left (by lia),show Nat.min i ks.length=i from Nat.min_eq_left (by lia),List.drop_take,h,hj,Nat.add_sub_cancel_left,List.take_left'];rfl
theorem xg{t:Nat}(h:ks.drop i=rest):ks[i+t]?=rest[t]?:=by rw[<- h,List.getElem?_drop]
theorem r8{l i:Nat}:fromIndex l (i:Int)=i:=by unfold fromIndex;lia
open StrLaws in
theorem Co{a:Nat}(h:ks[i]?=some a)(hj:i < j)(hl:j<=ks.length):iX (tx ks) (sg a) (i:Int) (j:Int)=(i:Int):=by
 unfold iX;have zl:(tx ks).length=ks.length:=List.size_toArray ..;rw[zl];show(match occurrences (tx ks) (sg a) (fromIndex ks.length (i:Int)) (Nat.min (fromIndex ks.length (j:Int)) ks.length) 1 with|k::_=>(k:Int)|[]=>-1)=_;rw[show fromIndex ks.length (i:Int)=i from r8,show fromIndex ks.length (j:Int)=j from r8,show Nat.min j ks.length=j from Nat.min_eq_left hl,occ_eq];have hat:At (tx ks) (sg a) j i:=⟨hj,((subAt_one (tx ks) a i).mpr h).2⟩;have hr:List.range' i (j+1-i)=i::List.range' (i+1) (j-i):=by rw[show j+1-i=(j-i)+1 by lia];rfl
 rcases occ_first (tx ks) (sg a) j 1 (Nat.le_refl 1) (List.range' i (j+1-i)) i (fun u hu=>by have:=List.mem_range'_1.mp hu;lia)with⟨_,hn⟩|⟨pre,u,post,e,h0,_,hn⟩
 ·exact absurd hat (hn i (by rw[hr];exact .head _))
 ·rw[hr]at e;cases pre with
 |cons b l=> have e2:i=b:=(List.cons.inj e).1;exact absurd hat (hn i (by rw[e2];exact .head _))
 |nil=>
   have e2:i=u:=(List.cons.inj e).1;rw[<- e2]at h0;generalize(forIn (List.range' i (j+1-i)) ((#[]:Array Nat),i) (occBody (tx ks) (sg a) j 1)).run.fst=arr at h0;cases hL:arr.toList with
  |nil=>rw[show arr=#[]from Array.toList_eq_nil_iff.mp hL]at h0;cases h0
  |cons b t=>
    have:arr.toList[0]?=some i:=by rw[Array.getElem?_toList];exact h0
    rw[hL]at this;cases this;rfl
open StrLaws in
theorem Cy{a:Nat}(hl:j<=ks.length):iX (tx ks) (sg a) (j:Int) (j:Int)=-1:=by
 unfold iX;haveI zl:(tx ks).length=ks.length:=List.size_toArray ..;rw[zl];show(match occurrences (tx ks) (sg a) (fromIndex ks.length (j:Int)) (Nat.min (fromIndex ks.length (j:Int)) ks.length) 1 with|k::_=>(k:Int)|[]=>-1)=_;rw[show fromIndex ks.length (j:Int)=j from r8,show Nat.min j ks.length=j from Nat.min_eq_left hl,occ_eq];rcases occ_first (tx ks) (sg a) j 1 (Nat.le_refl 1) (List.range' j (j+1-j)) j (fun u hu=>by haveI:=List.mem_range'_1.mp hu;lia)with⟨h0,_⟩|⟨pre,u,post,e,_,ha,_⟩
 ·rw[h0]
 ·haveI h1:u∈List.range' j (j+1-j):=by rw[e];exact List.mem_append_right _ (.head _)
  haveI h2:=List.mem_range'_1.mp h1;haveI h3:u+1<=j:=ha.1;lia
end
inductive lX:Nat->Str->Prop
|one (k:Nat):k=33\/k=97->lX k (sg k)
|two (k:Nat):k=93\/k=124->lX k (tx [92,k])
noncomputable abbrev Cz:List (Str×NameKind):=[("pattern",.local),("isinstance",.globalImplicit),("str",.globalImplicit),("_special_chars_map",.globalImplicit)]
theorem Jk:ci (bp "escape") ["pattern"] none Cz:=⟨by kernel_rfl,by kernel_rfl,by kernel_rfl⟩
theorem FG(h:lX k t):bo (n+1) 14 [.f (.str (sg k))] σ (.ok (.f (.str t)) σ):=by
 haveI H:ky "str.translate" (.f (.str (sg k))) [.f (.bi "_special_chars_map")] ⟨[("pattern",.f (.str (sg k)))],σ.q,[],σ.st⟩ (.ok (.f (.str t)) ⟨[("pattern",.f (.str (sg k)))],σ.q,[],σ.st⟩):=by
  cases h with
 |one h=>exact B4 h
 |two h=>exact(H6 h).up
 refine' eC (σ:=σ) rfl (dn:="escape") rfl rfl Jk (fun h1 h2=>bd.pl h2 h1 rfl) rfl ?hB;exact cu (dY (fun u_=>rfl) (bf (.glob rfl rfl) rfl (ai rfl (ae (.loc rfl rfl)) (ai rfl (ae (.glob rfl rfl)) an)) (cx (by decide +kernel) CN)) jH) (cN (ba (fun u_=>rfl) rfl rfl (ae (.loc rfl rfl)) (bL Gy rfl (ai rfl (ae (.glob rfl rfl)) an) H)) (bZ (.same _ rfl) rfl))
noncomputable abbrev Pt:=Option Str
noncomputable def pf(k:Nat):Pt->F
|none=>.star k
|some t=>.str t
noncomputable def lD(x:Nat):Str:=match x==91 with
|true=>tx [91,92,91,93]
|false=>tx [91,x,93]
noncomputable def jv(res:List Pt):List Pt:=match res.getLast? with
|none=>res++[none]
|some p=>match p with
 |none=>res
 |some _=>res++[none]
inductive kz:List Nat->Nat->Prop
|one (x:Nat):x∈[42,63,91,93]->kz [x] x
|two (x:Nat):x∈[42,63,91]->kz [98,45,97,x] x
inductive Tr:List Nat->List Pt->List Pt->Prop
|nil (res:List Pt):Tr [] res res
|star (r:List Nat) (res fin:List Pt):Tr r (jv res) fin->Tr (42::r) res fin
|brk (mid:List Nat) (x:Nat) (r:List Nat) (res fin:List Pt):kz mid x->Tr r (res++[some (lD x)]) fin->Tr (91::(mid++93::r)) res fin
|esc (k:Nat) (t:Str) (r:List Nat) (res fin:List Pt):lX k t->Tr r (res++[some t]) fin->Tr (k::r) res fin
noncomputable abbrev jN:List (Str×NameKind):=[("pat",.local),("STAR",.local),("QUESTION_MARK",.local),("res",.local),("add",.local),("i",.local),("n",.local),("c",.local),("j",.local),("stuff",.local),("chunks",.local),("k",.local),("chunk",.local),("len",.globalImplicit),("range",.globalImplicit),("_twin_re_1",.globalImplicit),("escape",.globalImplicit)]
theorem Ec:ci (bp "_translate") ["pat","STAR","QUESTION_MARK"] none jN:=⟨by kernel_rfl,by kernel_rfl,by kernel_rfl⟩
structure cK(k:Nat)(ks:List Nat)(i:Nat)(l:List (Str×V)):Prop where
 p:ad l "pat"=some (.f (.str (tx ks)))
 s:ad l "STAR"=some (.f (.star k))
 r:ad l "res"=some (.p (.loc 0))
 a:ad l "add"=some (.bnd 0)
 i:ad l "i"=some (.f (.int (i:Int)))
 n:ad l "n"=some (.f (.int (ks.length:Int)))
theorem cK.put{i:Nat}(h:cK k ks i l)(h1:((ah "pat" y||ah "STAR" y||ah "res" y)||(ah "add" y||ah "i" y||ah "n" y))=false):cK k ks i (ag l y v):=by obtain⟨a,b⟩:=Bool.or_eq_false_iff.mp h1;obtain⟨a,a3⟩:=Bool.or_eq_false_iff.mp a;obtain⟨a1,a2⟩:=Bool.or_eq_false_iff.mp a;obtain⟨b,b3⟩:=Bool.or_eq_false_iff.mp b;obtain⟨b1,b2⟩:=Bool.or_eq_false_iff.mp b;exact⟨(aj a1).trans h.p,(aj a2).trans h.s,(aj a3).trans h.r,(aj b1).trans h.a,(aj b2).trans h.i,(aj b3).trans h.n⟩
theorem cK.at{i j:Nat}(h:cK k ks i l):cK k ks j (ag l "i" (.f (.int (j:Int)))):=⟨(aj rfl).trans h.p,(aj rfl).trans h.s,(aj rfl).trans h.r,(aj rfl).trans h.a,aF,(aj rfl).trans h.n⟩
inductive yH(q:Option bW)(st k:Nat)(ks:List Nat)(fin:List Pt)(m:Nat)(τ:Sx):Prop
|mk (l:List (Str×V)) (i:Nat) (res:List Pt) (rest:List Nat) (hx:List AO):τ=⟨l,q,.list (res.map (pf k))::hx,st⟩->cK k ks i l->ks.drop i=rest->Tr rest res fin->rest.length=m->res.length<=i->i<=ks.length->yH q st k ks fin m τ
section
variable{n k st:Nat}{σ:Sx}{ks:List Nat}{fin res:List Pt}{l:List (Str×V)}{q:Option bW}{hx:List AO}{p:Pt}
theorem lX.ne(h:lX k t):(k==42)=false/\(k==63)=false/\(k==91)=false:=by
 cases h with
|one h=>rcases h with rfl|rfl<;>decide
|two h=>rcases h with rfl|rfl<;>decide
theorem qK{a b:Nat}(h:a=b):aQ .Eq (.f (.int (a:Int))) (.f (.int (b:Int))) σ true:=by subst h;haveI:=bS (σ:=σ) (neg:=false) (iu (n:=6) (i:=(a:Int)) (j:=(a:Int)));rw[show((a:Int)==(a:Int))=true from beq_self_eq_true _]at this;exact this
noncomputable def tS(x:Nat):Str:=match x==91 with
|true=>tx [92,x]
|false=>sg x
theorem Et:∀x∈[42,63,91,93],(x==33)=false/\((([94,91].map fun y=>y==x).any id != false)=(x==91))/\Str.empty++"["++tS x++"]"=lD x/\Nat.ble (tS x).length aw=true/\Nat.ble (Str.empty++"["++tS x).length aw=true/\Nat.ble (Str.empty++"["++tS x++"]").length aw=true:=by decide +kernel
theorem kz.in4(B:kz mid x):x∈[42,63,91,93]:=by
 cases B with
|one=>assumption
|two=>exact List.mem_append_left [93] (by assumption)
theorem yZ:fB (.f (.str (sg x))) (.f (.int 0)) σ (.ok (.f (.str (sg x))) σ):=nU (lZ (i:=0) (by decide)) rfl
theorem ID(h:((([94,91].map fun y=>y==x).any id != false)=b)):aQ .In (.f (.str (sg x))) (.f (.tup [.str "^",.str "["])) σ b:=h▸Cj (neg:=false) (uw (ys:=[94,91]))
structure uR(k:Nat)(ks:List Nat)(c j ii kk:Nat)(l:List (Str×V)):Prop where
 t:cK k ks ii l
 j:ad l "j"=some (.f (.int (j:Int)))
 k:ad l "k"=some (.f (.int (kk:Int)))
 c:ad l "chunks"=some (.p (.loc c))
structure qf(k:Nat)(ks:List Nat)(c j ii:Nat)(l:List (Str×V)):Prop where
 t:cK k ks ii l
 j:ad l "j"=some (.f (.int (j:Int)))
 c:ad l "chunks"=some (.p (.loc c))
theorem E7:(("range",.type "range"):Str×Value)∈kU:=by decide +kernel
theorem J1:∀x∈[42,63,91],(kF "\\" (sg x)=true/\kF "-" (sg x)=true)/\JoinOk "-" [sg x]=true/\Txt.join "-" [sg x]=sg x:=by decide +kernel
theorem D4(hk:Nat.blt k cs.length=true)(hz:Nat.ble cs.length aw=true):jQ (.p (.loc H.length)) (.f (.int (k:Int))) (.f y) ⟨l,q,H++[.list cs],st⟩ (.ok () ⟨l,q,H++[.list (bc cs k y)],st⟩):=by haveI:=Fw (σ:=⟨l,q,H++[.list cs],st⟩) (x:=y) fR hk hz;rw[show(⟨l,q,H++[.list (bc cs k y)],st⟩:Sx)=⟨l,q,bc (H++[.list cs]) H.length (.list (bc cs k y)),st⟩from by rw[lC]];exact this
theorem E4(hk:Nat.blt k cs.length=true)(hz:Nat.ble cs.length aw=true):pP (.p (.loc H.length)) (.f (.int (k:Int))) ⟨l,q,H++[.list cs],st⟩ (.ok () ⟨l,q,H++[.list (lG cs k)],st⟩):=by haveI:=Fv (σ:=⟨l,q,H++[.list cs],st⟩) fR hk hz;rw[show(⟨l,q,H++[.list (lG cs k)],st⟩:Sx)=⟨l,q,bc (H++[.list cs]) H.length (.list (lG cs k)),st⟩from by rw[lC]];exact this
theorem CD:aQ .Gt (.f (.str (sg 98))) (.f (.str (sg 97))) σ true:=by haveI:=CA (σ:=σ) (i:=sg 98) (j:=sg 97);rw[show decide ((sg 97).cps.toList < (sg 98).cps.toList)=true from by decide]at this;exact this
theorem vN(hv:ad l "chunks"=some (.p (.loc H.length)))(hs:g6 [x]=true)(hn:iO (.Call (.Attribute (.Name "chunks" p1) "append" p2) [x] [] p3)=true)(hl:(p2.endLine==p3.line)=true)(hx:cP ⟨jN,[]⟩ n [x] ⟨l,q,H++[.list cs],st⟩ (.ok [.f y] ⟨l,q,H++[.list cs],st⟩))(hz:cs.length<=1000):
  SS ⟨jN,[]⟩ n (.Expr (.Call (.Attribute (.Name "chunks" p1) "append" p2) [x] [] p3) p4) ⟨l,q,H++[.list cs],st⟩ (.ok .next ⟨l,q,H++[.list (cs++[y])],st⟩):=by
 haveI:=fu (pos:=p4) (ba (fun u_=>rfl) hl rfl (ae (pos:=p1) (.loc rfl hv)) (bL (gG (.p _ (.loc _ fR)) PySem.F.slot_list_append PySem.F.type_list_append) hs hx (jY (.loc _ fR) (.loc _ _ fR) (bA hz (by decide))).up)) hn;rw[show(⟨l,q,H++[.list (cs++[y])],st⟩:Sx)=⟨l,q,bc (H++[.list cs]) H.length (.list (cs++[y])),st⟩from by rw[lC]];exact this
theorem Hs(h:(a==b)=false):aQ .NotEq (.f (.str (sg a))) (.f (.str (sg b))) σ true:=by haveI:=w7 (σ:=σ) (a:=a) (b:=b);rw[h]at this;exact this
theorem kz.head(B:kz mid x):∃a,mid[0]?=some a/\(a==33)=false/\∀u y,(match a==93 with|true=>1|false=>0)<=u->mid[u]?=some y->(y==93)=false:=by
 haveI H:∀x∈[42,63,91],(x==93)=false/\(x==33)=false:=by decide
 cases B with
|two h=>
  refine⟨98,rfl,rfl,fun u y u_ hu=>?_⟩;have:y∈[98,45,97,x]:=List.mem_of_getElem? hu;simp only[List.mem_cons,List.not_mem_nil,or_false]at this;rcases this with rfl|rfl|rfl|rfl
  ·rfl
  ·rfl
  ·rfl
  ·exact(H _ (by assumption)).1
|one h=>
  refine⟨x,rfl,?_,fun u y h1 hu=>?_⟩
  ·exact(show ∀x∈[42,63,91,93],(x==33)=false by decide) _ (by assumption)
  ·haveI hy:y=x:=List.mem_singleton.mp (List.mem_of_getElem? hu);haveI hu0:u=0:=by
    cases u with
   |zero=>rfl
   |succ u=>cases hu
   subst hy;subst hu0;cases q:y==93 with
  |false=>rfl
  |true=>rw[q]at h1;cases h1
theorem qq(ha:bt e "add" ⟨l,q,.list (res.map (pf k))::hx,st⟩ (.bnd 0))(hs:ka [x]=true)(hn:iO (.Call (.Name "add" p1) [x] [] p2)=true)(h:cP e n [x] ⟨l,q,.list (res.map (pf k))::hx,st⟩ (.ok [.f (pf k p)] ⟨l,q,.list (res.map (pf k))::hx,st⟩))(hz:res.length<=1000):
  SS e n (.Expr (.Call (.Name "add" p1) [x] [] p2) p3) ⟨l,q,.list (res.map (pf k))::hx,st⟩ (.ok .next ⟨l,q,.list ((res++[p]).map (pf k))::hx,st⟩):=by
 haveI:=fu (pos:=p3) (bf ha hs h (yE (n:=n) (i:=0) rfl (by rw[List.length_map];exact bA hz (by decide)))) hn;rw[List.map_append];exact this
set_option maxHeartbeats 1000000 in
set_option tactic.hygienic true in
theorem Jg(T:Tr ks [] fin)(hz:ks.length<=900):bo (n+2) 12 [.f (.str (tx ks)),.f (.star k),.f (.str ".")] σ (.ok (.f (.list (fin.map (pf k)))) σ):=by
 refine' eC (σ:=σ) rfl (dn:="_translate") rfl rfl Ec (fun h1 h2=>bd.pl h2 h1 rfl) rfl ?hB;refine' aC (aS (.loc rfl) rfl mO) (aC (aS (.loc rfl) rfl (bB (fun u_=>rfl) (ae (.loc rfl rfl)) (An rfl))) (aC (xA rfl rfl rfl rfl rfl rfl rfl rfl (.loc rfl) (.loc rfl) (ai rfl aL (ai rfl (bf (.glob rfl rfl) rfl (ai rfl (ae (.loc rfl rfl)) an) (cx (.head _) (rj (jK hz (by decide))))) an))) ?_));generalize hC:(fun r=>dC false σ r (aG.ok (V.f (F.list (List.map (pf k) fin))) σ))=C;refine' jP (J:=yH σ.q σ.st k ks fin) ks.length (.mk _ 0 [] ks [] rfl ⟨rfl,rfl,rfl,rfl,rfl,rfl⟩ rfl T rfl (Nat.le_refl _) (Nat.zero_le _)) ?w
 case w=>
  clear T;intro m τ o_;obtain⟨l,i,res,rest,hx,rfl,K,hd,T,rfl,zr,zi⟩:=o_;refine⟨_,_,az rfl (ae (.loc rfl K.i)) (ae (.loc rfl K.n)) gV,?_⟩;cases rest with
 |nil=> have hi:ks.length<=i:=List.drop_eq_nil_iff.mp hd;cases T;rw[show decide (i < ks.length)=false from decide_eq_false (Nat.not_lt.mpr hi)];refine aD (gO (xR (rt:=.ok true _) (az rfl (ae (.loc rfl K.i)) (ae (.loc rfl K.n)) (qK (Nat.le_antisymm zi hi)))) (cN (ae (.loc rfl K.r)) ?_));subst hC;exact bZ (.list 0 _ rfl rfl) rfl
 |cons c r=>
   have hc:ks[i]?=some c:=xg (t:=0) hd;have hi:i < ks.length:=(List.getElem?_eq_some_iff.mp hc).1;have hd1:ks.drop (i+1)=r:=by rw[<- List.drop_drop,hd];rfl
   rw[show decide (i < ks.length)=true from decide_eq_true hi];refine mn fun D hD=>?_;have hD':∀l hx res' r' i',cK k ks i' l->ks.drop i'=r'->Tr r' res' fin->r'.length<=r.length->res'.length<=i'->i'<=ks.length->D (.ok .next ⟨l,σ.q,.list (res'.map (pf k))::hx,σ.st⟩):=fun l hx res' r' i' K hd T z1 z2 z3=>hD _ ⟨r'.length,Nat.lt_succ_of_le z1,.mk l i' res' r' hx rfl K hd T rfl z2 z3⟩;refine aC (aS (.loc rfl) rfl (bh (ae (.loc rfl K.p)) (ae (.loc rfl K.i)) (hJ hc (Nat.le_trans hz (by decide))))) (aC (aS (.loc rfl) rfl (aR (ae (.loc rfl ((aj rfl).trans K.i))) aL eB)) ?_);have K1:cK k ks (i+1) (ag (ag l "c" (.f (.str (sg c)))) "i" (.f (.int ((i+1:Nat):Int)))):=(K.put rfl).at;have hcc:ad (ag (ag l "c" (.f (.str (sg c)))) "i" (.f (.int ((i+1:Nat):Int)))) "c"=some (.f (.str (sg c))):=(aj rfl).trans aF;show EB _ _ _ ⟨ag (ag l "c" (.f (.str (sg c)))) "i" (.f (.int ((i+1:Nat):Int))),_,_,_⟩ D;generalize ag (ag l "c" (.f (.str (sg c)))) "i" (.f (.int ((i+1:Nat):Int)))=l at K1 hcc ⊢;clear hD K hd;cases T with
  |star r res fin T=>
    refine cu (az rfl (ae (.loc rfl hcc)) aJ gk) ?_;have zb:Nat.ble (res.map (pf k)).length aw=true:=by rw[List.length_map];exact bA (k:=900) (by lia) (by decide)
    have zr2:res.length<=1000:=by lia
    rcases List.eq_nil_or_concat res with rfl|⟨r0,p,e⟩
    ·exact cu (dZ (A8 (lN (dY (fun u_=>rfl) (ae (.loc rfl K1.r)) (ki (.p _ (.loc 0 rfl)) zb))))) (aC (qq (p:=none) (.loc rfl K1.a) rfl rfl (ai rfl (ae (.loc rfl K1.s)) an) zr2) (aD (aD (aD (hD' l hx [none] r (i+1) K1 hd1 T (Nat.le_refl _) (Nat.succ_le_succ zr) hi)))))
    ·rw[List.concat_eq_append]at e;subst e;have eM:(r0++[p]).map (pf k)=r0.map (pf k)++[pf k p]:=List.map_append;have TL:fX (.p (.loc 0)) ⟨l,σ.q,.list ((r0++[p]).map (pf k))::hx,σ.st⟩ _:=ki (.p _ (.loc 0 rfl)) zb;rw[show(!((r0++[p]).map (pf k)).isEmpty)=true from by rw[eM];exact uA]at TL;have Tn:∀{p1 p2:Pos},ST ⟨jN,[]⟩ (n+1) (.UnaryOp .Not (.Name "res" p1) p2) ⟨l,σ.q,.list ((r0++[p]).map (pf k))::hx,σ.st⟩ (.ok false ⟨l,σ.q,.list ((r0++[p]).map (pf k))::hx,σ.st⟩):=lN (dY (fun u_=>rfl) (ae (.loc rfl K1.r)) TL);have L:∀{p1 p2 p3 p4:Pos}{j:Nat},SE ⟨jN,[]⟩ (n+1) (.Subscript (.Name "res" p1) (.UnaryOp .USub (.Constant (.int 1) j p2) p3) p4) ⟨l,σ.q,.list ((r0++[p]).map (pf k))::hx,σ.st⟩ (.ok (.f (pf k p)) ⟨l,σ.q,.list ((r0++[p]).map (pf k))::hx,σ.st⟩):=bh (ae (.loc rfl K1.r)) (gD aL) (tD (.p _ (.loc 0 (by rw[<- eM];rfl))));unfold jv at T;rw[List.getLast?_append,show[p].getLast?.or r0.getLast?=some p from rfl]at T;dsimp only at T;cases p with
    |none=>exact bM (dZ (eZ Tn (eZ (az rfl L (ae (.loc rfl K1.s)) (qu (neg:=true) (Nat.beq_refl k))) kL))) (aD (aD (aD (hD' l hx (r0++[none]) r (i+1) K1 hd1 T (Nat.le_refl _) (Nat.le_succ_of_le zr) hi))))
    |some t=>exact cu (dZ (eZ Tn (A8 (az rfl L (ae (.loc rfl K1.s)) (sM (neg:=true)))))) (aC (qq (p:=none) (.loc rfl K1.a) rfl rfl (ai rfl (ae (.loc rfl K1.s)) an) zr2) (aD (aD (aD (hD' l hx _ r (i+1) K1 hd1 T (Nat.le_refl _) (by rw[List.length_append];exact Nat.succ_le_succ zr) hi)))))
  |brk mid x r res fin B T=>
    refine bM (az rfl (ae (.loc rfl hcc)) aJ gk) (bM (az rfl (ae (.loc rfl hcc)) aJ gk) (cu (az rfl (ae (.loc rfl hcc)) aJ gk) (aC (aS (.loc rfl) rfl (ae (.loc rfl K1.i))) ?_)));have K:cK k ks (i+1) (ag l "j" (.f (.int ((i+1:Nat):Int)))):=K1.put rfl;have hj:ad (ag l "j" (.f (.int ((i+1:Nat):Int)))) "j"=some (.f (.int ((i+1:Nat):Int))):=aF;show EB _ _ _ ⟨ag l "j" (.f (.int ((i+1:Nat):Int))),_,_,_⟩ _;generalize ag l "j" (.f (.int ((i+1:Nat):Int)))=l at K hj ⊢;clear K1 hcc;haveI zl:(mid++93::r).length=ks.length-(i+1):=by rw[<- hd1,List.length_drop]
    rw[List.length_append,List.length_cons]at zl;have hat:∀t y,(mid++93::r)[t]?=some y->ks[i+1+t]?=some y:=fun t y h=>(xg hd1).trans h;have hend:ks[i+1+mid.length]?=some 93:=hat _ _ (by rw[List.getElem?_append_right (Nat.le_refl _),Nat.sub_self];rfl);have hlen:i+1+mid.length < ks.length:=(List.getElem?_eq_some_iff.mp hend).1;obtain⟨a,ha,ha33,hm93⟩:=B.head;have hmid:mid≠[]:=fun z=>by rw[z]at ha;cases ha
    have h0:ks[i+1]?=some a:=hat 0 a (by rw[List.getElem?_append_left (List.getElem?_eq_some_iff.mp ha).1];exact ha);refine mn fun D2 hD2=>?_;have hD2:∀l hx i',cK k ks i' l->ks.drop i'=r->i'<=ks.length->i+1<=i'->D2 (.ok .next ⟨l,σ.q,.list ((res++[some (lD x)]).map (pf k))::hx,σ.st⟩):=fun l hx i' K hd z1 z2=>hD2 _ (aD (aD (aD (hD' l hx _ r i' K hd T (by rw[List.length_append,List.length_cons];lia) (by rw[List.length_append];show res.length+1<=i';lia) z1))));clear hD';refine bM (dZ (jC (az rfl (ae (.loc rfl hj)) (ae (.loc rfl K.n)) (decide_eq_true (show i+1 < ks.length by lia)▸gV)) (sV (az rfl (bh (ae (.loc rfl K.p)) (ae (.loc rfl hj)) (hJ h0 (Nat.le_trans hz (by decide)))) aJ (ha33▸gk))))) (aD ?_);refine oL (k:=a==93) (fun τ=>∃l jj,τ=⟨l,σ.q,.list (res.map (pf k))::hx,σ.st⟩/\cK k ks (i+1) l/\ad l "j"=some (.f (.int ((i+1+jj:Nat):Int)))/\jj<=mid.length/\∀u y,jj<=u->mid[u]?=some y->(y==93)=false) (dZ (jC (az rfl (ae (.loc rfl hj)) (ae (.loc rfl K.n)) (decide_eq_true (show i+1 < ks.length by lia)▸gV)) (lx (az rfl (bh (ae (.loc rfl K.p)) (ae (.loc rfl hj)) (hJ h0 (Nat.le_trans hz (by decide)))) aJ gk)))) ?s1 (fun q=>?s2) (fun q=>?s3)
    case s2=> have q:a==93:=q;rw[q]at hm93;exact aC (aS (.loc rfl) rfl (aR (ae (.loc rfl hj)) aL eB)) (aD ⟨_,1,rfl,K.put rfl,aF,List.length_pos_iff.mpr fun z=>(by rw[z]at ha;cases ha),hm93⟩)
    case s3=> rw[q]at hm93;exact aD ⟨_,0,rfl,K,hj,Nat.zero_le _,hm93⟩
    case s1=>
     intro τ o_;obtain⟨l,jj,rfl,K,hj,zj,hno⟩:=o_;refine jP (J:=fun m τ=>∃l jj,τ=⟨l,σ.q,.list (res.map (pf k))::hx,σ.st⟩/\cK k ks (i+1) l/\ad l "j"=some (.f (.int ((i+1+jj:Nat):Int)))/\jj+m=mid.length/\∀u y,jj<=u->mid[u]?=some y->(y==93)=false) (mid.length-jj) ⟨l,jj,rfl,K,hj,by lia,hno⟩ ?_;clear K hj zj hno hm93 h0 ha;intro m τ o_;obtain⟨l,jj,rfl,K,hj,zj,hno⟩:=o_;have zlt:i+1+jj < ks.length:=by lia
     cases m with
    |succ m=> have hy:mid[jj]?=some (mid[jj]'(by lia)):=List.getElem?_eq_getElem _;generalize mid[jj]'(by lia)=y at hy;haveI hy2:ks[i+1+jj]?=some y:=hat _ _ (by rw[List.getElem?_append_left (by lia)];exact hy);haveI e93:=hno jj y (Nat.le_refl _) hy;refine⟨true,_,dZ (jC (az rfl (ae (.loc rfl hj)) (ae (.loc rfl K.n)) (decide_eq_true zlt▸gV)) (lx (az rfl (bh (ae (.loc rfl K.p)) (ae (.loc rfl hj)) (hJ hy2 (Nat.le_trans hz (by decide)))) aJ (Hs e93)))),?_⟩;exact aC (aS (.loc rfl) rfl (aR (ae (.loc rfl hj)) aL eB)) (aD ⟨m,Nat.lt_succ_self m,_,jj+1,rfl,K.put rfl,aF,by lia,fun u y h=>hno u y (Nat.le_of_succ_le h)⟩)
    |zero=>
      have zj:jj=mid.length:=zj;subst zj;refine⟨false,_,dZ (jC (az rfl (ae (.loc rfl hj)) (ae (.loc rfl K.n)) (decide_eq_true zlt▸gV)) (lx (az rfl (bh (ae (.loc rfl K.p)) (ae (.loc rfl hj)) (hJ hend (Nat.le_trans hz (by decide)))) aJ w7))),?_⟩;dsimp only;refine aD (bM (az rfl (ae (.loc rfl hj)) (ae (.loc rfl K.n)) (decide_eq_false (show ¬(ks.length<=i+1+mid.length) by lia)▸J0)) ?_);have hs:dH (tx ks) (some ((i+1:Nat):Int)) (some ((i+1+mid.length:Nat):Int))=tx mid:=tW hd1 (fun z=>by rw[z]at hmid;exact hmid rfl) rfl;refine aC (aS (.loc rfl) rfl (cR (ae (.loc rfl K.p)) (cc (ae (.loc rfl K.i))) (cc (ae (.loc rfl hj))) (hs▸gN rfl rfl (jK hz (by decide))))) ?_;have K:cK k ks (i+1) (ag l "stuff" (.f (.str (tx mid)))):=K.put rfl;have hj:ad (ag l "stuff" (.f (.str (tx mid)))) "j"=some (.f (.int ((i+1+mid.length:Nat):Int))):=(aj rfl).trans hj;have hst:ad (ag l "stuff" (.f (.str (tx mid)))) "stuff"=some (.f (.str (tx mid))):=aF;show EB _ _ _ ⟨ag l "stuff" (.f (.str (tx mid))),_,_,_⟩ _;generalize ag l "stuff" (.f (.str (tx mid)))=l at K hj hst ⊢;have hin:∀τ,aQ .NotIn (.f (.str "-")) (.f (.str (tx mid))) τ (!decide (45∈mid)):=fun τ=>by have:=AA (σ:=τ) (neg:=true) (t:=tx mid) (u:=sg 45);rw[vQ,Bool.bne_true]at this;exact this
      refine oL (fun τ=>∃l i' hx,τ=⟨l,σ.q,.list (res.map (pf k))::hx,σ.st⟩/\cK k ks i' l/\ad l "j"=some (.f (.int ((i+1+mid.length:Nat):Int)))/\ad l "stuff"=some (.f (.str (sg x)))) (az rfl aJ (ae (.loc rfl hst)) (hin _)) ?t1 (fun q=>?t2) (fun q=>?t3)
      case t2=>
       cases B with
      |two h=>cases q
      |one h=>exact aC (aS (.loc rfl) rfl (ba (fun u_=>rfl) rfl rfl (ae (.loc rfl hst)) (bL CG rfl (ai rfl aJ (ai rfl aJ an)) (Hz ((show ∀x∈[42,63,91,93],kF "\\" (tx [x])=true by decide +kernel) _ (by assumption))).up))) (aD ⟨_,i+1,hx,rfl,K.put rfl,(aj rfl).trans hj,aF⟩)
      case t3=>
       cases B with
      |one h=>exact absurd q (by rw[(show ∀x∈[42,63,91,93],(!decide (45∈[x]))=true by decide) _ (by assumption)];exact fun z=>by cases z)
      |two h=>
        have hx3:x∈[42,63,91]:=by assumption
        haveI h1:ks[i+1]?=some 98:=hat 0 98 rfl;haveI h2:ks[i+2]?=some 45:=hat 1 45 rfl;haveI hk1:dH (tx ks) (some ((i+1:Nat):Int)) (some ((i+2:Nat):Int))=sg 98:=tW (mid:=[98]) hd1 (fun z=>by cases z) rfl;haveI hk2:dH (tx ks) (some ((i+3:Nat):Int)) (some ((i+1+4:Nat):Int))=tx [97,x]:=tW (mid:=[97,x]) (rest:=93::r) (by rw[show i+3=i+1+2 from rfl,<-List.drop_drop,hd1];rfl) (fun z=>by cases z) rfl;haveI hf1:iX (tx ks) "-" ((i+2:Nat):Int) ((i+1+4:Nat):Int)=((i+2:Nat):Int):=Co h2 (by lia) (Nat.le_of_lt hlen);haveI hf2:iX (tx ks) "-" ((i+1+4:Nat):Int) ((i+1+4:Nat):Int)=-1:=Cy (Nat.le_of_lt hlen);have hj:ad l "j"=some (.f (.int ((i+1+4:Nat):Int))):=hj
        suffices hM:∀C:aG Fl->Prop,(∀l hx,cK k ks (i+3) l->ad l "j"=some (.f (.int ((i+1+4:Nat):Int)))->ad l "stuff"=some (.f (.str (sg x)))->C (.ok .next ⟨l,σ.q,.list (res.map (pf k))::hx,σ.st⟩))->EB ⟨jN,[]⟩ (n+1) _ ⟨l,σ.q,.list (res.map (pf k))::hx,σ.st⟩ C from hM _ fun l hx a b c=>⟨l,i+3,hx,rfl,a,b,c⟩
        intro C hC;have hC:∀(l:List (Str×V))(cs:List F),cK k ks (i+3) l->ad l "j"=some (.f (.int ((i+1+4:Nat):Int)))->ad l "stuff"=some (.f (.str (sg x)))->C (.ok .next ⟨l,σ.q,(.list (res.map (pf k))::hx)++[.list cs],σ.st⟩):=fun l cs=>hC l (hx++[AO.list cs]);generalize(AO.list (res.map (pf k))::hx)=H at hC ⊢;clear hin hs hst hd1 hat hend T hD2 hc hmid;refine aC (aS (.loc rfl) rfl mO) (aC (aS (.loc rfl) rfl (g9 (k:=false) (az rfl (bh (ae (.loc rfl ((aj rfl).trans K.p))) (ae (.loc rfl ((aj rfl).trans K.i))) (hJ h1 (Nat.le_trans hz (by decide)))) aJ gk) (fun q=>by cases q) (fun u_=>aR (ae (.loc rfl ((aj rfl).trans K.i))) aL eB))) ?_);have U:uR k ks H.length (i+1+4) (i+1) (i+2) (ag (ag l "chunks" (.p (.loc H.length))) "k" (.f (.int ((i+2:Nat):Int)))):=⟨(K.put rfl).put rfl,(aj rfl).trans ((aj rfl).trans hj),aF,(aj rfl).trans aF⟩;refine jP (J:=fun m τ=>∃l cs ii kk,τ=⟨l,σ.q,H++[.list cs],σ.st⟩/\uR k ks H.length (i+1+4) ii kk l/\((m=1/\ii=i+1/\kk=i+2/\cs=[])\/(m=0/\ii=i+3/\kk=i+1+4/\cs=[.str (sg 98)]))) 1 ⟨_,[],i+1,i+2,rfl,U,.inl ⟨rfl,rfl,rfl,rfl⟩⟩ ?_;clear U K hj;intro m τ o_;obtain⟨l,cs,ii,kk,rfl,U,hm⟩:=o_;refine⟨true,_,Ao,?_⟩;rcases hm with⟨rfl,rfl,rfl,rfl⟩|⟨rfl,rfl,rfl,rfl⟩
        ·refine aC (aS (.loc rfl) rfl (ba (fun u_=>rfl) rfl rfl (ae (.loc rfl U.t.p)) (bL yi rfl (ai rfl aJ (ai rfl (ae (.loc rfl U.k)) (ai rfl (ae (.loc rfl U.j)) an))) (hf1▸zJ.up)))) ?_;have U:uR k ks H.length (i+1+4) (i+1) (i+2) (ag l "k" (.f (.int ((i+2:Nat):Int)))):=⟨U.t.put rfl,(aj rfl).trans U.j,aF,(aj rfl).trans U.c⟩;show EB _ _ _ ⟨ag l "k" (.f (.int ((i+2:Nat):Int))),σ.q,H++[.list []],σ.st⟩ _;generalize ag l "k" (.f (.int ((i+2:Nat):Int)))=l at U ⊢;refine bM (az rfl (ae (.loc rfl U.k)) aL (decide_eq_false (show ¬(((i+2:Nat):Int) < 0) by lia)▸qo)) (aD (aC (vN (y:=.str (sg 98)) U.c rfl rfl rfl (ai rfl (cR (ae (.loc rfl U.t.p)) (cc (ae (.loc rfl U.t.i))) (cc (ae (.loc rfl U.k))) (hk1▸gN rfl rfl (jK hz (by decide)))) an) (by decide)) ?_));refine aC (aS (.loc rfl) rfl (aR (ae (.loc rfl U.k)) aL eB)) (aC (aS (.loc rfl) rfl (aR (ae (.loc rfl ((aj rfl).trans U.k))) aL eB)) (aD ⟨0,by decide,_,_,i+3,i+1+4,rfl,⟨(U.t.at (j:=i+3)).put rfl,(aj rfl).trans ((aj rfl).trans U.j),aF,(aj rfl).trans ((aj rfl).trans U.c)⟩,.inr ⟨rfl,rfl,rfl,rfl⟩⟩))
        ·refine aC (aS (.loc rfl) rfl (ba (fun u_=>rfl) rfl rfl (ae (.loc rfl U.t.p)) (bL yi rfl (ai rfl aJ (ai rfl (ae (.loc rfl U.k)) (ai rfl (ae (.loc rfl U.j)) an))) (hf2▸zJ.up)))) ?_;refine cu (az rfl (ae (.loc rfl aF)) aL qo) (sP ?_);have U:qf k ks H.length (i+1+4) (i+3) (ag l "k" (.f (.int (-1)))):=⟨U.t.put rfl,(aj rfl).trans U.j,(aj rfl).trans U.c⟩;show EB _ _ _ ⟨ag l "k" (.f (.int (-1))),σ.q,H++[.list [.str (sg 98)]],σ.st⟩ _;generalize ag l "k" (.f (.int (-1)))=l at U ⊢;refine aC (aS (.loc rfl) rfl (cR (ae (.loc rfl U.t.p)) (cc (ae (.loc rfl U.t.i))) (cc (ae (.loc rfl U.j))) (hk2▸gN rfl rfl (jK hz (by decide))))) ?_;refine cu (dY (fun u_=>rfl) (ae (.loc rfl aF)) (zY rfl)) (aC (vN (y:=.str (tx [97,x])) ((aj rfl).trans U.c) rfl rfl rfl (ai rfl (ae (.loc rfl aF)) an) (show 1<=1000 by decide)) (aD ?_));have U:qf k ks H.length (i+1+4) (i+3) (ag l "chunk" (.f (.str (tx [97,x])))):=⟨U.t.put rfl,(aj rfl).trans U.j,(aj rfl).trans U.c⟩;show EB _ _ _ ⟨ag l "chunk" (.f (.str (tx [97,x]))),σ.q,H++[.list [.str (sg 98),.str (tx [97,x])]],σ.st⟩ _;generalize ag l "chunk" (.f (.str (tx [97,x])))=l at U ⊢;haveI IT:∀τ,bX (.f (.rng 1 0 (-1))) τ (bw [.int 1]):=fun τ=>wz (n:=1) rfl rfl;refine' nu (xs:=[.int 1]) (J:=fun xs τ=>∃l cs,τ=⟨l,σ.q,H++[.list cs],σ.st⟩/\qf k ks H.length (i+1+4) (i+3) l/\((xs=[.int 1]/\cs=[.str (sg 98),.str (tx [97,x])])\/(xs=[]/\cs=[.str (sg x)]))) ?vx (fun u_ u_=>rfl) ?vs (.loc rfl) ⟨_,_,rfl,U,.inl ⟨rfl,rfl⟩⟩ ?v0 ?v1
         case vx=>exact bf (.glob rfl rfl) rfl (ai rfl (aR (bf (.glob rfl rfl) rfl (ai rfl (ae (.loc rfl U.c)) an) (cx (.head _) (kM (.p _ (.loc _ fR)) rfl))) aL qX) (ai rfl aL (ai rfl (gD aL) an))) (cx E7 (B1 (.inr rfl)))
         case vs=>exact IT _
         case v0=>
          rintro τ ⟨l,cs,rfl,U,⟨z,_⟩|⟨_,rfl⟩⟩
          ·cases z
          ·refine' aC (aS (.loc rfl) rfl (ba (fun u_=>rfl) rfl rfl aJ (Ew (ls:=[sg x]) (.loc rfl U.c) fR (fun y m=>by cases List.mem_singleton.mp m;exact(J1 x hx3).1) (show 1<=1000 by decide) (J1 x hx3).2.1 rfl rfl rfl rfl ?w1 ?w2 ?w3 ?w4 rfl))) (aD (hC _ [.str (sg x)] (U.t.put rfl) ((aj rfl).trans U.j) ((J1 x hx3).2.2▸aF)))
           case w1=>
            intro p m;rcases List.mem_cons.mp m with rfl|m
            ·exact fun z=>by cases z
            ·cases List.mem_singleton.mp m;exact fun z=>by cases z
           case w2=>decide +kernel
           case w3=>decide +kernel
           case w4=>decide +kernel
         case v1=>
          clear U
          rintro b xs τ ⟨l,cs,rfl,U,⟨z,rfl⟩|⟨z,_⟩⟩
          ·cases(z);have U:qf k ks H.length (i+1+4) (i+3) (ag l "k" (.f (.int 1))):=⟨U.t.put rfl,(aj rfl).trans U.j,(aj rfl).trans U.c⟩;have hk:ad (ag l "k" (.f (.int 1))) "k"=some (.f (.int 1)):=aF;show EB _ _ _ ⟨ag l "k" (.f (.int 1)),σ.q,H++[.list [.str (sg 98),.str (tx [97,x])]],σ.st⟩ _;generalize ag l "k" (.f (.int 1))=l at U hk ⊢;have s0:∀{p1 p2 p3 p4 p5:Pos}{j:Nat},SE ⟨jN,[]⟩ (n+1) (.Subscript (.Name "chunks" p1) (.BinOp (.Name "k" p2) .Sub (.Constant (.int 1) j p3) p4) p5) ⟨l,σ.q,H++[.list [.str (sg 98),.str (tx [97,x])]],σ.st⟩ (.ok (.f (.str (sg 98))) ⟨l,σ.q,H++[.list [.str (sg 98),.str (tx [97,x])]],σ.st⟩):=bh (ae (.loc rfl U.c)) (aR (ae (.loc rfl hk)) aL qX) (iF (j:=0) (.p _ (.loc _ fR)) rfl rfl);have s1:∀{p1 p2 p3:Pos},SE ⟨jN,[]⟩ (n+1) (.Subscript (.Name "chunks" p1) (.Name "k" p2) p3) ⟨l,σ.q,H++[.list [.str (sg 98),.str (tx [97,x])]],σ.st⟩ (.ok (.f (.str (tx [97,x]))) ⟨l,σ.q,H++[.list [.str (sg 98),.str (tx [97,x])]],σ.st⟩):=bh (ae (.loc rfl U.c)) (ae (.loc rfl hk)) (iF (j:=1) (.p _ (.loc _ fR)) rfl rfl);refine cu (az rfl (bh s0 (gD aL) (nU (j:=0) (y:=98) rfl rfl)) (bh s1 aL (nU (j:=0) (y:=97) rfl rfl)) CD) ?_;refine aC (tL rfl (aR (cR s0 er (cc (gD aL)) (gN rfl rfl rfl)) (cR s1 (cc aL) er (gN rfl rfl rfl)) (gd (x:=tx []) (y:=sg x) rfl)) (ae (.loc rfl U.c)) (aR (ae (.loc rfl hk)) aL qX) (D4 (k:=0) rfl rfl)) ?_;exact aC (En (ae (.loc rfl U.c)) (ae (.loc rfl hk)) (E4 (k:=1) rfl rfl)) (aD (aD ⟨_,_,rfl,U,.inr ⟨rfl,rfl⟩⟩))
          ·cases z
      case t1=>
       intro τ o_;obtain⟨l,i',hx,rfl,K,hj,hst⟩:=o_;have hx4:=B.in4;have F:=Et x hx4;refine aC (aS (.loc rfl) rfl (ba (fun u_=>rfl) rfl rfl (ae (.glob rfl rfl)) (bL DW rfl (ai rfl (Ir ⟨rfl,rfl,rfl⟩ rfl) (ai rfl (ae (.loc rfl hst)) an)) (JJ hx4).up))) (aC (aS (.loc rfl) rfl (aR (ae (.loc rfl ((aj rfl).trans hj))) aL eB)) ?_);have K:cK k ks (i+1+mid.length+1) (ag (ag l "stuff" (.f (.str (sg x)))) "i" (.f (.int ((i+1+mid.length+1:Nat):Int)))):=(K.put rfl).at;have hst:ad (ag (ag l "stuff" (.f (.str (sg x)))) "i" (.f (.int ((i+1+mid.length+1:Nat):Int)))) "stuff"=some (.f (.str (sg x))):=(aj rfl).trans aF;show EB _ _ _ ⟨ag (ag l "stuff" (.f (.str (sg x)))) "i" (.f (.int ((i+1+mid.length+1:Nat):Int))),σ.q,.list (res.map (pf k))::hx,σ.st⟩ _;generalize ag (ag l "stuff" (.f (.str (sg x)))) "i" (.f (.int ((i+1+mid.length+1:Nat):Int)))=l at K hst ⊢;haveI hd2:ks.drop (i+1+mid.length+1)=r:=by rw[Nat.add_assoc (i+1),<-List.drop_drop,hd1,<-List.drop_drop,List.drop_left];rfl
       refine bM (lN (dY (k:=true) (fun u_=>rfl) (ae (.loc rfl hst)) (zY rfl))) (bM (az rfl (ae (.loc rfl hst)) aJ (F.1▸gk)) ?_);refine bM (az rfl (bh (ae (.loc rfl hst)) aL yZ) aJ (F.1▸gk)) ?_;refine' oL (k:=x==91) (fun τ=>∃l,τ=⟨l,σ.q,.list (res.map (pf k))::hx,σ.st⟩/\cK k ks (i+1+mid.length+1) l/\ad l "stuff"=some (.f (.str (tS x)))) ?ht ?u1 (fun q=>?u2) (fun q=>?u3)
       case ht=>exact az rfl (bh (ae (.loc rfl hst)) aL yZ) (sG (ai rfl aJ (ai rfl aJ an)) rfl rfl) (ID F.2.1)
       case u2=>
        have et:tS x=tx [92,x]:=by unfold tS;rw[q]
        rw[et];exact aC (aS (.loc rfl) rfl (aR aJ (ae (.loc rfl hst)) (gd rfl))) (aD ⟨_,rfl,K.put rfl,aF⟩)
       case u3=>
        haveI et:tS x=sg x:=by unfold tS;rw[q]
        rw[et];exact aD ⟨_,rfl,K,hst⟩
       case u1=> intro τ o_;obtain⟨l,rfl,K,hst⟩:=o_;exact aD (aC (qq (p:=some (lD x)) (.loc rfl K.a) rfl rfl (ai rfl (F.2.2.1▸rq (gj aJ (by decide +kernel) (gj (td (ae (.loc rfl hst)) F.2.2.2.1) F.2.2.2.2.1 (gj aJ F.2.2.2.2.2 qG)))) an) (by lia)) (aD (aD (aD (aD (hD2 l hx _ K hd2 (by lia) (by lia)))))))
  |esc c t r res fin E T=> obtain⟨e1,e2,e3⟩:=E.ne;refine bM (az rfl (ae (.loc rfl hcc)) aJ (e1▸gk)) (bM (az rfl (ae (.loc rfl hcc)) aJ (e2▸gk)) (bM (az rfl (ae (.loc rfl hcc)) aJ (e3▸gk)) (aC (qq (p:=some t) (.loc rfl K1.a) rfl rfl (ai rfl (bf (.glob rfl rfl) rfl (ai rfl (ae (.loc rfl hcc)) an) (dD (nm:="escape") rfl rfl (FG E))) an) (by lia)) (aD (aD (aD (aD (hD' l hx _ r (i+1) K1 hd1 T (Nat.le_refl _) (by rw[List.length_append];exact Nat.succ_le_succ zr) hi))))))))
end
section
variable{e:Ev}{n:Nat}{σ:Sx}{C:aG Fl->Prop}
theorem Ab(h2:∀af,Mid af->EB e n rest af C)(r:aG Fl)(j:ll Mid C r):dK e n rest C r:=by
 cases r with
|ok fl af=>cases fl<;>first|exact h2 af j|exact j
|_=>exact j
set_option tactic.hygienic true in
theorem zu{J:Nat->Sx->Prop}(Mid:Sx->Prop)(m:Nat)(j:J m σ)(h:∀m σ,J m σ->∃k σ₁,ST e n t σ (.ok k σ₁)/\match k with
 |false=>EB e n orelse σ₁ (ll Mid C)
 |true=>EB e n body σ₁ (gr (fun af=>∃m',m' < m/\J m' af) (ll Mid C) C))(h2:∀af,Mid af->EB e n rest af C):EB e n (.While t body orelse pos::rest) σ C:=by
 refine jP m j fun m σ j=>?_;obtain⟨k,σ₁,h1,h3⟩:=h m σ j;refine⟨k,σ₁,h1,?_⟩;cases k with
|false=>exact h3.mono (Ab h2)
|true=>
  refine h3.mono fun r q=>?_;cases r with
 |ok fl af=>cases fl with
  |brk=>exact Ab h2 (.ok .next af) q
  |_=>exact q
 |_=>exact q
theorem sW(ht:ST e n t σ (.ok true σ₁))(h:EB e n rest σ₁ C):EB e n (.Assert t m pos::rest) σ C:=gO (xR ht) h
end
noncomputable def dQ(ps:List Str)(last:Option Str):List Pt:=match ps with
|[]=>match last with
 |none=>[none]
 |some p=>[none,some p]
|p::ps=>none::some p::dQ ps last
noncomputable def l5(p:Str):Str:=Str.empty++"(?>.*?"++p++")"
noncomputable def eI(ps:List Str)(last:Option Str):List Str:=match ps with
|[]=>match last with
 |none=>[".*"]
 |some p=>[".*",p]
|p::ps=>l5 p::eI ps last
noncomputable def lO(ps:List Str)(last:Option Str):Str:=Str.empty++"(?s:"++Txt.join "" (eI ps last)++")\\Z"
noncomputable abbrev lY(p:Str):Prop:=JoinOk "" [p]=true/\Txt.join "" [p]=p/\Nat.ble p.length aw=true/\Nat.ble (Str.empty++"(?>.*?"++p).length aw=true/\Nat.ble (l5 p).length aw=true
structure rS(ps:List Str)(last:Option Str):Prop where
 p:∀p,p∈ps\/last=some p->lY p
 j:JoinOk "" (eI ps last)=true
 r1:Nat.ble (Txt.join "" (eI ps last)).length aw=true
 r2:Nat.ble (Str.empty++"(?s:"++Txt.join "" (eI ps last)).length aw=true
 r3:Nat.ble (lO ps last).length aw=true
 z:ps.length<=100
noncomputable abbrev oK:List (Str×NameKind):=[("inp",.local),("STAR",.local),("res",.local),("add",.local),("i",.local),("n",.local),("fixed",.local),("len",.globalImplicit)]
theorem JY:ci (bp "_join_translated_parts") ["inp","STAR"] none oK:=⟨by kernel_rfl,by kernel_rfl,by kernel_rfl⟩
structure eG(k:Nat)(all:List F)(i:Nat)(l:List (Str×V)):Prop where
 p:ad l "inp"=some (.f (.list all))
 s:ad l "STAR"=some (.f (.star k))
 r:ad l "res"=some (.p (.loc 0))
 a:ad l "add"=some (.bnd 0)
 i:ad l "i"=some (.f (.int (i:Int)))
 n:ad l "n"=some (.f (.int (all.length:Int)))
theorem eG.put{i:Nat}(h:eG k all i l)(h1:((ah "inp" y||ah "STAR" y||ah "res" y)||(ah "add" y||ah "i" y||ah "n" y))=false):eG k all i (ag l y v):=by obtain⟨a,b⟩:=Bool.or_eq_false_iff.mp h1;obtain⟨a,a3⟩:=Bool.or_eq_false_iff.mp a;obtain⟨a1,a2⟩:=Bool.or_eq_false_iff.mp a;obtain⟨b,b3⟩:=Bool.or_eq_false_iff.mp b;obtain⟨b1,b2⟩:=Bool.or_eq_false_iff.mp b;exact⟨(aj a1).trans h.p,(aj a2).trans h.s,(aj a3).trans h.r,(aj b1).trans h.a,(aj b2).trans h.i,(aj b3).trans h.n⟩
theorem eG.at{i j:Nat}(h:eG k all i l):eG k all j (ag l "i" (.f (.int (j:Int)))):=⟨(aj rfl).trans h.p,(aj rfl).trans h.s,(aj rfl).trans h.r,(aj rfl).trans h.a,aF,(aj rfl).trans h.n⟩
inductive t0(q:Option bW)(st k:Nat)(all:List F)(fin:List Str)(last:Option Str)(m:Nat)(τ:Sx):Prop
|on (l:List (Str×V)) (i:Nat) (rs ps:List Str) (hx:List AO):τ=⟨l,q,.list (rs.map F.str)::hx,st⟩->eG k all i l->m=ps.length+1->all.drop i=(dQ ps last).map (pf k)->rs++eI ps last=fin->rs.length<=i->(∀p,p∈ps\/last=some p->lY p)->t0 q st k all fin last m τ
|off (l:List (Str×V)) (hx:List AO):τ=⟨l,q,.list (fin.map F.str)::hx,st⟩->eG k all all.length l->m=0->t0 q st k all fin last m τ
section
variable{n k st:Nat}{σ:Sx}{ps rs:List Str}{last:Option Str}{l:List (Str×V)}{hx:List AO}{p:Str}
theorem x0{a b:Nat}(h:a≠b):aQ .Eq (.f (.int (a:Int))) (.f (.int (b:Int))) σ false:=by haveI:=bS (σ:=σ) (neg:=false) (iu (n:=6) (i:=(a:Int)) (j:=(b:Int)));rw[show((a:Int)==(b:Int))=false from beq_eq_false_iff_ne.mpr fun z=>h (by lia)]at this;exact this
theorem rF{all r:List F}(h:all.drop i=x::r):all[i]?=some x:=by haveI:=congrArg (fun l=>l[0]?) h;rw[List.getElem?_drop]at this;exact this
theorem Dz(hp:∀p,p∈ps\/last=some p->lY p):(dQ ps last=[none]/\eI ps last=([".*"]:List Str))\/∃p tl,dQ ps last=none::some p::tl/\lY p /\
  ((tl=[]/\eI ps last=[(".*":Str),p])\/∃ps',tl=dQ ps' last/\ps.length=ps'.length+1/\eI ps last=l5 p::eI ps' last/\∀p,p∈ps'\/last=some p->lY p):=by
 cases ps with
|nil=>cases last with
 |none=>exact .inl ⟨rfl,rfl⟩
 |some p=>exact .inr ⟨p,[],rfl,hp p (.inr rfl),.inl ⟨rfl,rfl⟩⟩
|cons p ps=>exact .inr ⟨p,_,rfl,hp p (.inl (.head _)),.inr ⟨ps,rfl,rfl,rfl,fun y h=>hp y (h.imp (.tail _) id)⟩⟩
theorem oX:aq (A::(hx++[.list cs])) (hx.length+1)=some (.list cs):=fR (h:=hx)
theorem IL(hv:ad l "fixed"=some (.p (.loc (hx.length+1))))(hs:g6 [x]=true)(hn:iO (.Call (.Attribute (.Name "fixed" p1) "append" p2) [x] [] p3)=true)(hl:(p2.endLine==p3.line)=true)(hX:cP ⟨oK,[]⟩ n [x] ⟨l,q,A::(hx++[.list []]),st⟩ (.ok [.f y] ⟨l,q,A::(hx++[.list []]),st⟩)):
  SS ⟨oK,[]⟩ n (.Expr (.Call (.Attribute (.Name "fixed" p1) "append" p2) [x] [] p3) p4) ⟨l,q,A::(hx++[.list []]),st⟩ (.ok .next ⟨l,q,A::(hx++[.list [y]]),st⟩):=by
 haveI:=fu (pos:=p4) (ba (fun u_=>rfl) hl rfl (ae (pos:=p1) (.loc rfl hv)) (bL (gG (.p _ (.loc _ oX)) PySem.F.slot_list_append PySem.F.type_list_append) hs hX (jY (.loc _ oX) (.loc _ _ oX) rfl).up)) hn;rw[show(⟨l,q,A::(hx++[.list [y]]),st⟩:Sx)=⟨l,q,bc (A::(hx++[.list []])) (hx.length+1) (.list ([]++[y])),st⟩from by show _=(⟨l,q,A::bc (hx++[.list []]) hx.length (.list [y]),st⟩:Sx);rw[lC]];exact this
theorem pV(ha:bt e "add" ⟨l,q,.list (rs.map F.str)::hx,st⟩ (.bnd 0))(hs:ka [x]=true)(hn:iO (.Call (.Name "add" p1) [x] [] p2)=true)(h:cP e n [x] ⟨l,q,.list (rs.map F.str)::hx,st⟩ (.ok [.f (.str p)] ⟨l,q,.list (rs.map F.str)::hx,st⟩))(hz:rs.length<=1000):
  SS e n (.Expr (.Call (.Name "add" p1) [x] [] p2) p3) ⟨l,q,.list (rs.map F.str)::hx,st⟩ (.ok .next ⟨l,q,.list ((rs++[p]).map F.str)::hx,st⟩):=by
 haveI:=fu (pos:=p3) (bf ha hs h (yE (n:=n) (i:=0) rfl (by rw[List.length_map];exact bA hz (by decide)))) hn;rw[List.map_append];exact this
theorem EE:∀{ps:List Str},(dQ ps last).length<=2*ps.length+2:=by
 intro ps
 induction ps with
|nil=> cases last<;>exact Nat.le_of_ble_eq_true rfl
|cons p ps ih=> show(dQ ps last).length+1+1<=2*(ps.length+1)+2;haveI:=ih;lia
theorem nP:∀{ps:List Str},∃r,dQ ps last=none::r:=@fun a=>match a with
|[]=>by cases last<;>exact⟨_,rfl⟩
|p::ps=>⟨_,rfl⟩
set_option maxHeartbeats 1000000 in
set_option tactic.hygienic true in
theorem ES(H:rS ps last):bo (n+1) 13 [.f (.list ((dQ ps last).map (pf k))),.f (.star k)] σ (.ok (.f (.str (lO ps last))) σ):=by
 have zA:((dQ ps last).map (pf k)).length<=202:=by rw[List.length_map];have:=EE (ps:=ps) (last:=last);have:=H.z;lia
 have zAl:Nat.ble ((dQ ps last).map (pf k)).length aw=true:=bA zA (by decide);obtain⟨r0,e0⟩:=nP (ps:=ps) (last:=last);have h0:aq ((dQ ps last).map (pf k)) 0=some (.star k):=by rw[e0];rfl
 have hpos:0 < ((dQ ps last).map (pf k)).length:=by rw[e0];exact Nat.succ_pos _
 have hp:=H.p;refine' eC (σ:=σ) rfl (dn:="_join_translated_parts") rfl rfl JY (fun h1 h2=>bd.pl h2 h1 rfl) rfl ?hB;generalize hall:(dQ ps last).map (pf k)=all at zA zAl h0 hpos;generalize hC:(fun r=>dC false σ r (aG.ok (V.f (F.str (lO ps last))) σ))=C;refine' aC (aS (.loc rfl) rfl mO) (aC (aS (.loc rfl) rfl (bB (fun u_=>rfl) (ae (.loc rfl rfl)) (An rfl))) (aC (xA rfl rfl rfl rfl rfl rfl rfl rfl (.loc rfl) (.loc rfl) (ai rfl aL (ai rfl (bf (.glob rfl rfl) rfl (ai rfl (ae (.loc rfl rfl)) an) (cx (.head _) (kM .f zAl))) an))) ?_));have nIn:∀{l:List (Str×V)}{i:Nat}{x:F}{h:List AO}{p1 p2 p3:Pos},eG k all i l->aq all i=some x->SE ⟨oK,[]⟩ n (.Subscript (.Name "inp" p1) (.Name "i" p2) p3) ⟨l,σ.q,h,σ.st⟩ (.ok (.f x) ⟨l,σ.q,h,σ.st⟩):=fun K hx=>bh (ae (.loc rfl K.p)) (ae (.loc rfl K.i)) (iF .f (lZ (by have:=(List.getElem?_eq_some_iff.mp (bC.symm.trans hx)).1;exact Nat.le_trans (Nat.le_of_lt this) (Nat.le_trans zA (by decide)))) hx);refine' jP (J:=fun u_ τ=>τ=⟨[("inp",.f (.list all)),("STAR",.f (.star k)),("res",.p (.loc 0)),("add",.bnd 0),("n",.f (.int (all.length:Int))),("i",.f (.int 0))],σ.q,[.list []],σ.st⟩) 0 rfl ?w1
 case w1=>
  rintro m τ rfl
  refine⟨false,_,dZ (jC (az rfl (ae (.loc rfl rfl)) (ae (.loc rfl rfl)) (decide_eq_true hpos▸gV (a:=0))) (lx (az rfl (nIn (i:=0) ⟨rfl,rfl,rfl,rfl,rfl,rfl⟩ h0) (ae (.loc rfl rfl)) (qu (neg:=true) (Nat.beq_refl k))))),aD ?_⟩;refine' zu (J:=t0 σ.q σ.st k all (eI ps last) last) (fun τ=>∃l hx,τ=⟨l,σ.q,.list ((eI ps last).map F.str)::hx,σ.st⟩/\eG k all all.length l) (ps.length+1) (.on _ 0 [] ps [] rfl ⟨rfl,rfl,rfl,rfl,rfl,rfl⟩ rfl hall.symm rfl (Nat.le_refl _) hp) ?w2 ?w3
  case w3=> intro τ o_;obtain⟨l,hx,rfl,K⟩:=o_;refine sW (az rfl (ae (.loc rfl K.i)) (ae (.loc rfl K.n)) (qK rfl)) (aC (aS (.loc rfl) rfl (ba (fun u_=>rfl) rfl rfl aJ (bL nR rfl (ai rfl (ae (.loc rfl K.r)) an) (qH (.p _ (.loc 0 rfl)) H.j).up))) (cN (rq (gj aJ (by decide +kernel) (gj (td (ae (.loc rfl aF)) H.r1) H.r2 (gj aJ H.r3 qG)))) ?_));subst hC;exact bZ (.same _ rfl) rfl
  case w2=>
   clear hC hall hp h0 hpos e0
   rintro m τ (⟨l,i,rs,ps,hx,rfl,K,rfl,hd,hf,zr,hp⟩|⟨l,hx,rfl,K,rfl⟩)
   ·have hi:i < all.length:=by refine Nat.lt_of_not_le fun z=>?_;rw[List.drop_eq_nil_of_le z]at hd;obtain⟨r,e⟩:=nP (ps:=ps) (last:=last);rw[e]at hd;cases hd
    have z1:rs.length<=1000:=by lia
    have h1:aq all i=some (.star k):=by obtain⟨r,e⟩:=nP (ps:=ps) (last:=last);rw[e]at hd;rw[bC];exact rF hd
    refine⟨true,_,az rfl (ae (.loc rfl K.i)) (ae (.loc rfl K.n)) (decide_eq_true hi▸gV),?_⟩;refine sW (az rfl (nIn K h1) (ae (.loc rfl K.s)) (qu (neg:=false) (Nat.beq_refl k))) (aC (qQ (u:=.f (.int ((i+1:Nat):Int))) (.loc rfl K.i) (.loc rfl) aL nZ) ?_);have K1:eG k all (i+1) (ag l "i" (.f (.int ((i+1:Nat):Int)))):=K.at;show EB _ _ _ ⟨ag l "i" (.f (.int ((i+1:Nat):Int))),σ.q,.list (rs.map F.str)::hx,σ.st⟩ _;generalize ag l "i" (.f (.int ((i+1:Nat):Int)))=l at K1 ⊢;clear K h1;refine mn fun D hD=>?_;rcases Dz hp with⟨e1,e2⟩|⟨p,tl,e1,hpp,e2⟩
    ·rw[e1]at hd;rw[e2]at hf;have hl:all.length=i+1:=by have:=congrArg List.length hd;rw[List.length_drop]at this;show _=_;have:all.length-i=1:=this;lia
     exact cu (az rfl (ae (.loc rfl K1.i)) (ae (.loc rfl K1.n)) (qK hl.symm)) (aC (pV (p:=".*") (.loc rfl K1.a) rfl rfl (ai rfl aJ an) z1) (sP (hD _ ⟨l,hx,by rw[<- hf],hl▸K1⟩)))
    ·rw[e1]at hd;have hd1:all.drop (i+1)=.str p::tl.map (pf k):=by rw[<- List.drop_drop,hd];rfl
     have hd2:all.drop (i+2)=tl.map (pf k):=by rw[show i+2=i+1+1 from rfl,<-List.drop_drop,hd1];rfl
     have h1:aq all (i+1)=some (.str p):=by rw[bC];exact rF hd1
     have hi1:i+1 < all.length:=(List.getElem?_eq_some_iff.mp (bC.symm.trans h1)).1;refine bM (az rfl (ae (.loc rfl K1.i)) (ae (.loc rfl K1.n)) (x0 (Nat.ne_of_lt hi1))) (aD (sW (az rfl (nIn K1 h1) (ae (.loc rfl K1.s)) (sM (neg:=true))) (aC (aS (.loc rfl) rfl mO) ?_)));have K2:eG k all (i+1) (ag l "fixed" (.p (.loc (hx.length+1)))):=K1.put rfl;have hfx:ad (ag l "fixed" (.p (.loc (hx.length+1)))) "fixed"=some (.p (.loc (hx.length+1))):=aF;show EB _ _ _ ⟨ag l "fixed" (.p (.loc (hx.length+1))),σ.q,.list (rs.map F.str)::(hx++[.list []]),σ.st⟩ _;generalize ag l "fixed" (.p (.loc (hx.length+1)))=l at K2 hfx ⊢;clear K1;refine zu (J:=fun m τ=>∃l ii cs,τ=⟨l,σ.q,.list (rs.map F.str)::(hx++[.list cs]),σ.st⟩/\eG k all ii l/\ad l "fixed"=some (.p (.loc (hx.length+1)))/\((m=1/\ii=i+1/\cs=[])\/(m=0/\ii=i+2/\cs=[.str p]))) (fun τ=>∃l,τ=⟨l,σ.q,.list (rs.map F.str)::(hx++[.list [.str p]]),σ.st⟩/\eG k all (i+2) l/\ad l "fixed"=some (.p (.loc (hx.length+1)))) 1 ⟨l,i+1,[],rfl,K2,hfx,.inl ⟨rfl,rfl,rfl⟩⟩ ?_ ?_
     ·clear K2 hfx hD;intro m τ o_;obtain⟨l,ii,cs,rfl,K,hfx,hm⟩:=o_;rcases hm with⟨rfl,rfl,rfl⟩|⟨rfl,rfl,rfl⟩
      ·refine⟨true,_,dZ (jC (az rfl (ae (.loc rfl K.i)) (ae (.loc rfl K.n)) (decide_eq_true hi1▸gV)) (lx (az rfl (nIn K h1) (ae (.loc rfl K.s)) (sM (neg:=true))))),?_⟩;exact aC (IL (y:=.str p) hfx rfl rfl rfl (ai rfl (nIn K h1) an)) (aC (qQ (u:=.f (.int ((i+2:Nat):Int))) (.loc rfl K.i) (.loc rfl) aL nZ) (aD ⟨0,by decide,_,i+2,_,rfl,K.at,(aj rfl).trans hfx,.inr ⟨rfl,rfl,rfl⟩⟩))
      ·rcases e2 with⟨rfl,_⟩|⟨ps',rfl,_⟩
       ·refine⟨false,_,dZ (sV (az rfl (ae (.loc rfl K.i)) (ae (.loc rfl K.n)) (decide_eq_false (show ¬(i+2 < all.length)from fun z=>by have:=List.drop_eq_nil_iff.mp (show all.drop (i+2)=[]from hd2);lia)▸gV))),?_⟩;exact aD ⟨l,rfl,K,hfx⟩
       ·obtain⟨r,e⟩:=nP (ps:=ps') (last:=last);rw[e]at hd2;have h2:aq all (i+2)=some (.star k):=by rw[bC];exact rF hd2
        have hi2:i+2 < all.length:=(List.getElem?_eq_some_iff.mp (bC.symm.trans h2)).1;exact⟨false,_,dZ (jC (az rfl (ae (.loc rfl K.i)) (ae (.loc rfl K.n)) (decide_eq_true hi2▸gV)) (lx (az rfl (nIn K h2) (ae (.loc rfl K.s)) (qu (neg:=true) (Nat.beq_refl k))))),aD ⟨l,rfl,K,hfx⟩⟩
     ·clear K2 hfx;intro τ o_;obtain⟨l,rfl,K,hfx⟩:=o_;refine aC (aS (.loc rfl) rfl (ba (fun u_=>rfl) rfl rfl aJ (bL nR rfl (ai rfl (ae (.loc rfl hfx)) an) (qH (ss:=[p]) (.p _ (.loc _ oX)) hpp.1).up))) ?_;rw[hpp.2.1];have K3:eG k all (i+2) (ag l "fixed" (.f (.str p))):=K.put rfl;have hfx:ad (ag l "fixed" (.f (.str p))) "fixed"=some (.f (.str p)):=aF;show EB _ _ _ ⟨ag l "fixed" (.f (.str p)),σ.q,.list (rs.map F.str)::(hx++[.list [.str p]]),σ.st⟩ _;generalize ag l "fixed" (.f (.str p))=l at K3 hfx ⊢;clear K;rcases e2 with⟨rfl,e3⟩|⟨ps',rfl,e3,e4,e5⟩
      ·have hl:all.length=i+2:=by have:=List.drop_eq_nil_iff.mp (show all.drop (i+2)=[]from hd2);lia
       exact cu (az rfl (ae (.loc rfl K3.i)) (ae (.loc rfl K3.n)) (qK hl.symm)) (aC (pV (p:=".*") (.loc rfl K3.a) rfl rfl (ai rfl aJ an) z1) (aC (pV (p:=p) (.loc rfl K3.a) rfl rfl (ai rfl (ae (.loc rfl hfx)) an) (by rw[List.length_append,List.length_singleton];lia)) (aD (aD (hD _ ⟨0,Nat.succ_pos _,.off l _ (by rw[<- hf,e3,List.append_assoc];rfl) (hl▸K3) rfl⟩)))))
      ·have hne:i+2≠all.length:=fun z=>by obtain⟨r,e⟩:=nP (ps:=ps') (last:=last);rw[e,z,List.drop_length]at hd2;cases hd2
       exact bM (az rfl (ae (.loc rfl K3.i)) (ae (.loc rfl K3.n)) (x0 hne)) (aC (pV (p:=l5 p) (.loc rfl K3.a) rfl rfl (ai rfl (rq (gj aJ (by decide +kernel) (gj (td (ae (.loc rfl hfx)) hpp.2.2.1) hpp.2.2.2.1 (gj aJ hpp.2.2.2.2 qG)))) an) z1) (aD (aD (hD _ ⟨ps'.length+1,by lia,.on l (i+2) (rs++[l5 p]) ps' _ rfl K3 rfl hd2 (by rw[<- hf,e4,List.append_assoc];rfl) (by rw[List.length_append,List.length_singleton];lia) e5⟩))))
   ·exact⟨false,_,az rfl (ae (.loc rfl K.i)) (ae (.loc rfl K.n)) (decide_eq_false (Nat.lt_irrefl _)▸gV),aD ⟨l,hx,rfl,K⟩⟩
end
noncomputable abbrev Gz:List (Str×NameKind):=[("pat",.local),("STAR",.local),("parts",.local),("object",.globalImplicit),("_translate",.globalImplicit),("_join_translated_parts",.globalImplicit)]
theorem DE:ci (bp "translate") ["pat"] none Gz:=⟨by kernel_rfl,by kernel_rfl,by kernel_rfl⟩
theorem Kx:(("object",.type "object"):Str×Value)∈kU:=by decide +kernel
theorem BE(T:Tr ks [] (dQ ps last))(hz:ks.length<=900)(H:rS ps last):bo (n+3) 11 [.f (.str (tx ks))] σ (.ok (.f (.str (lO ps last))) {σ with st:=σ.st+1}):=by refine' eC (σ:=σ) rfl (dn:="translate") rfl rfl DE (fun h1 h2=>bd.pl h2 h1 rfl) rfl ?hB;exact aC (aS (.loc rfl) rfl (bf (.glob rfl rfl) rfl an (cx Kx G2))) (aC (aS (.loc rfl) rfl (bf (.glob rfl rfl) rfl (ai rfl (ae (.loc rfl rfl)) (ai rfl (ae (.loc rfl rfl)) (ai rfl aJ an))) (dD (nm:="_translate") rfl rfl (Jg T hz)))) (cN (bf (.glob rfl rfl) rfl (ai rfl (ae (.loc rfl rfl)) (ai rfl (ae (.loc rfl rfl)) an)) (dD (nm:="_join_translated_parts") rfl rfl (ES H))) (bZ (.same _ rfl) rfl)))
noncomputable def w8:List (Str×Str):=[("a","a"),("[*]","*"),("[?]","?"),("[\\[]","["),("\\]","]"),("[]]","]"),("!","!"),("\\|","|"),("","")]
noncomputable def nK:List (Str×F):=qI w8 []
noncomputable def nF(r:Str):F:=match ad nK r with
|some x=>x
|none=>.none
noncomputable def l6:List Str->List Str->Bool
|[],[]=>true
|r::rs,o::os=>match ad nK r with
 |some (.str s)=>ah s o&&l6 rs os
 |_=>false
|_,_=>false
theorem wo:∀{rs os:List Str},l6 rs os=true->(∀r∈rs,ad nK r=some (nF r))/\rs.map nF=os.map F.str:=@fun a b c=>match a,b,c with
|[],[],_=>⟨fun u_ m=>(List.not_mem_nil m).elim,rfl⟩
|r::rs,o::os,h=>by
  haveI h:(match ad nK r with|some (.str s)=>ah s o&&l6 rs os|_=>false)=true:=h;cases hl:ad nK r with
 |none=>rw[hl]at h;cases h
 |some x=>
   rw[hl]at h;cases x with
  |str s=>
    obtain⟨h1,h2⟩:=(Bool.and_eq_true _ _).mp h;obtain⟨i1,i2⟩:=wo h2;haveI hv:nF r=.str s:=by unfold nF;rw[hl]
    refine⟨fun y m=>?_,?_⟩
    ·rcases List.mem_cons.mp m with rfl|m
     ·rw[hl,hv]
     ·exact i1 y m
    ·rw[List.map_cons,List.map_cons,hv,i2,bD.mp h1]
  |_=>cases h
|[],_::_,h=>by cases h
|_::_,[],h=>by cases h
noncomputable def kD(t:Str):Str:=dH t (some 10) (some (-3))
structure Az(t:Str)(out:List Str):Prop where
 z:Nat.ble t.length aw=true
 c1:ah (dH t none (some 10)) "(?s:(?>.*?"=true
 c2:ah (dH t (some (-3)) none) ")\\Z"=true
 z1:Nat.ble (kD t).length 1000=true
 h:∃h0 h1,Txt.split (kD t) ").*"=[h0,h1]/\Nat.ble h0.length 1000=true/\Nat.ble (Txt.split h0 ")(?>.*?").length 900=true/\l6 (Txt.split h0 ")(?>.*?"++[h1]) out=true
noncomputable abbrev Cp:List (Str×NameKind):=[("text",.local),("signs",.cell),("halves",.local),("runs",.local),("len",.globalImplicit)]
theorem HY:ci (bp "_law_runs") ["text"] none Cp:=⟨by kernel_rfl,by kernel_rfl,by kernel_rfl⟩
theorem AG(h:ah x y=true):aQ .NotEq (.f (.str x)) (.f (.str y)) σ false:=by haveI:=bS (σ:=σ) (neg:=true) (iH (n:=6) (x:=x) (y:=y));rw[h]at this;exact this
theorem BA(h:ad es r=some x):aQ .NotIn (.f (.str r)) (.f (.dict es)) σ false:=by haveI:=xO (σ:=σ) (neg:=true) (u:=r) (es:=es) .f;rw[show gZ es r=true from by unfold gZ;rw[h]]at this;exact this
set_option tactic.hygienic true in
theorem GS(H:Az t out):bo (n+1) 3 [.f (.str t)] σ (.ok (.f (aH out)) σ):=by
 obtain⟨h0,h1,e1,z2,z3,e2⟩:=H.h;obtain⟨i1,i2⟩:=wo e2;haveI zr:(Txt.split h0 ")(?>.*?").length<=900:=Nat.le_of_ble_eq_true z3;generalize hrs:Txt.split h0 ")(?>.*?"=rs at e2 i1 i2 zr z3;haveI SP1:∀τ,M1 "str.split" (.f (.str (kD t))) (.f (.str ").*")) τ (.ok (.f (.list [.str h0,.str h1])) τ):=fun τ=>by haveI:=yj (σ:=τ) (t:=kD t) (u:=").*") rfl H.z1 (by rw[e1];rfl);rw[e1]at this;exact this
 haveI SP2:∀τ,M1 "str.split" (.f (.str h0)) (.f (.str ")(?>.*?")) τ (.ok (.f (.list (rs.map F.str))) τ):=fun τ=>by haveI:=yj (σ:=τ) (t:=h0) (u:=")(?>.*?") rfl z2 (by rw[hrs];exact Nat.ble_eq_true_of_le (Nat.le_trans zr (by decide)));rw[hrs]at this;exact this
 haveI Z:∀τ,hH (.f (.list [.str h0,.str h1])) (some (.f (.int 1))) none τ (.ok (.f (.list [.str h1])) τ):=fun τ=>by haveI:=j8 (σ:=τ) (a:=some (.f (.int 1))) (b:=none) (l:=some ((1:Nat):Int)) (u:=none) (xs:=[.str h0,.str h1]) rfl rfl .f rfl;rw[jp]at this;exact this
 haveI ADD:∀τ,ds .Add (.f (.list (rs.map F.str))) (.f (.list [.str h1])) τ (.ok (.f (.list ((rs++[h1]).map F.str))) τ):=fun τ=>by haveI:=jr (σ:=τ) (xs:=rs.map F.str) (ys:=[.str h1]) .f .f (by rw[List.length_map];exact lz (k:=901) (Nat.succ_le_succ zr) (by decide));rw[List.map_append];exact this
 refine' eC (σ:=σ) rfl (dn:="_law_runs") rfl rfl HY (fun h1 h2=>bd.pl h2 h1 rfl) rfl ?hB;refine' aC (aS (.cell rfl) rfl (EW (es:=w8) ?cp (by decide) (by decide))) ?_
 case cp=>exact .cons _ _ _ _ _ _ (.cons _ _ _ _ _ _ (.cons _ _ _ _ _ _ (.cons _ _ _ _ _ _ (.cons _ _ _ _ _ _ (.cons _ _ _ _ _ _ (.cons _ _ _ _ _ _ (.cons _ _ _ _ _ _ (.cons _ _ _ _ _ _ .nil))))))))
 refine(aC (aS (.loc rfl) rfl (ba (fun u_=>rfl) rfl rfl (cR (ae (.loc rfl rfl)) (cc aL) (cc (gD aL)) (gN rfl rfl H.z)) (bL Aa rfl (ai rfl aJ an) (SP1 _).up))) ?_);refine aC (aS (.loc rfl) rfl (aR (ba (fun u_=>rfl) rfl rfl (bh (ae (.loc rfl rfl)) aL (iF (j:=0) .f rfl rfl)) (bL Aa rfl (ai rfl aJ an) (SP2 _).up)) (cR (ae (.loc rfl rfl)) (cc aL) er (Z _)) (ADD _))) ?_;haveI zx:(rs++[h1]).length<=1000:=by rw[List.length_append,List.length_singleton];lia
 generalize rs++[h1]=xs at i1 i2 zx;haveI nx:∀i τ,bw (xs.map F.str) i τ=some (xs[i]?.map fun r=>V.f (.str r)):=fun i τ=>fy rfl i τ;refine bM (dZ (eZ (az rfl (cR (ae (.loc rfl rfl)) er (cc aL) (gN rfl rfl H.z)) aJ (AG H.c1)) (eZ (az rfl (cR (ae (.loc rfl rfl)) (cc (gD aL)) er (gN rfl rfl H.z)) aJ (AG H.c2)) (eZ (az rfl (bf (.glob rfl rfl) rfl (ai rfl (ae (.loc rfl rfl)) an) (cx (.head _) (kM .f rfl))) aL (bS (neg:=true) (iu (n:=6) (i:=2) (j:=2)))) (eZ (az rfl (iw (xs:=xs) (item:=fun r=>.f (.str r)) (keep:=fun u_=>false) (val:=F.str) (ys:=[]) (fun u_ u_=>rfl) (.of rfl) (ae (.loc rfl rfl)) dc (fun i τ h=>nx i τ) ⟨fun r hr acc=>gT (az rfl (ae (.loc rfl rfl)) (ae (cS rfl rfl rfl)) (BA (i1 r hr))),fun r hr h u_=>absurd h Bool.false_ne_true,zx⟩ rfl ?k2) (bq an rfl rfl) iI) kL))))) (aD (cN (iw (xs:=xs) (item:=fun r=>.f (.str r)) (keep:=fun u_=>true) (val:=nF) (ys:=out.map F.str) (fun u_ u_=>rfl) (.of rfl) (ae (.loc rfl rfl)) dc (fun i τ h=>nx i τ) ⟨fun u_ u_ u_=>gK,fun r hr u_ acc=>bh (ae (cS rfl rfl rfl)) (ae (.loc rfl rfl)) (fM .f (i1 r hr)),zx⟩ rfl (by rw[gB,i2])) (bZ (.same _ rfl) rfl)))
 case k2=>rw[List.filter_eq_nil_iff.mpr fun u_ u_=>Bool.false_ne_true];rfl
end
section
open PySem
noncomputable def tG(b:Bool)(y:Nat):List Nat:=match y==42||y==63||y==91 with
|true=>match b with
 |false=>[91,y,93]
 |true=>[91,98,45,97,y,93]
|false=>match y==93 with
 |false=>[y]
 |true=>match b with
  |false=>[93]
  |true=>[91,93,93]
noncomputable def g0(b:Bool)(y:Nat):Str:=match y==42||y==63||y==91 with
|true=>lD y
|false=>match y==93 with
 |false=>match y==124 with
  |true=>tx [92,124]
  |false=>sg y
 |true=>match b with
  |false=>tx [92,93]
  |true=>lD 93
noncomputable abbrev di:List Nat:=[97,42,63,91,93,33]
noncomputable def iR(b:Bool):Option Nat->List Nat
|none=>[]
|some y=>tG b y
noncomputable def mh(c:Nat)(b:Bool)(ys:List Nat)(last:Option Nat):List Nat:=(ys.flatMap fun y=>List.replicate (c+1) 42++tG b y)++(List.replicate (c+1) 42++iR b last)
theorem yo(h:y∈124::di){res fin:List Pt}(T:Tr r (res++[some (g0 b y)]) fin):Tr (tG b y++r) res fin:=by
 simp only[di,List.mem_cons,List.not_mem_nil,or_false]at h;rcases h with rfl|rfl|rfl|rfl|rfl|rfl|rfl
 ·exact .esc _ _ _ _ _ (.two _ (.inr rfl)) T
 ·exact .esc _ _ _ _ _ (.one _ (.inr rfl)) T
 ·cases b with
 |false=>exact .brk [42] 42 r _ _ (.one _ (by decide)) T
 |true=>exact .brk [98,45,97,42] 42 r _ _ (.two _ (by decide)) T
 ·cases b with
 |false=>exact .brk [63] 63 r _ _ (.one _ (by decide)) T
 |true=>exact .brk [98,45,97,63] 63 r _ _ (.two _ (by decide)) T
 ·cases b with
 |false=>exact .brk [91] 91 r _ _ (.one _ (by decide)) T
 |true=>exact .brk [98,45,97,91] 91 r _ _ (.two _ (by decide)) T
 ·cases b with
 |false=>exact .esc _ _ _ _ _ (.two _ (.inl rfl)) T
 |true=>exact .brk [93] 93 r _ _ (.one _ (by decide)) T
 ·exact .esc _ _ _ _ _ (.one _ (.inl rfl)) T
theorem DK:jv (res++[none])=res++[none]:=by unfold jv;rw[List.getLast?_append];rfl
theorem Am{res fin:List Pt}(T:Tr r (res++[none]) fin):∀c:Nat,Tr (List.replicate c 42++r) (res++[none]) fin:=@fun a=>match a with
|0=>T
|c+1=>.star _ _ _ (by rw[DK];exact Am T c)
theorem vm{res fin:List Pt}(h:jv res=res++[none])(T:Tr r (res++[none]) fin):Tr (List.replicate (c+1) 42++r) res fin:=
 .star _ _ _ (by rw[h];exact Am T c)
theorem J9:jv (res++[some t])=(res++[some t])++[none]:=by unfold jv;rw[List.getLast?_append];rfl
theorem GV(hl:∀y,last=some y->y∈124::di):∀{ys:List Nat}{res:List Pt},(∀y∈ys,y∈124::di)->jv res=res++[none]->Tr (mh c b ys last) res (res++dQ (ys.map (g0 b)) (last.map (g0 b))):=by
 intro ys
 induction ys with
|nil=>
  intro res _ h;refine vm h ?_;cases last with
 |none=>exact .nil _
 |some y=> haveI:=yo (b:=b) (r:=[]) (res:=res++[none]) (hl y rfl) (.nil _);rw[List.append_nil,List.append_assoc]at this;exact this
|cons y ys ih_=> intro res hy h;haveI ih:=ih_ (res:=res++[none]++[some (g0 b y)]) (fun z m=>hy z (.tail _ m)) J9;haveI:=vm (c:=c) h (yo (b:=b) (hy y (.head _)) ih);rw[List.append_assoc,List.append_assoc]at this;unfold mh;rw[List.flatMap_cons,List.append_assoc,List.append_assoc];exact this
noncomputable def d0:List (List Nat×Option Nat):=([124],none)::di.flatMap fun x=>[([x],none),([x],some x),([x,124],none)]
noncomputable def rp(p:Str):Bool:=JoinOk "" [p]&&ah (Txt.join "" [p]) p&&Nat.ble p.length aw&&Nat.ble (Str.empty++"(?>.*?"++p).length aw&&Nat.ble (l5 p).length aw
noncomputable def Ht(f:Str->Bool):Option Str->Bool
|none=>true
|some p=>f p
noncomputable def tQ(ps:List Str)(last:Option Str):Bool:=(ps.all rp&&Ht rp last)&&(JoinOk "" (eI ps last)&&Nat.ble (Txt.join "" (eI ps last)).length aw&&Nat.ble (Str.empty++"(?s:"++Txt.join "" (eI ps last)).length aw&&Nat.ble (lO ps last).length aw&&Nat.ble ps.length 100)
theorem yq(h:rp p=true):lY p:=by unfold rp at h;simp only[Bool.and_eq_true]at h;exact⟨h.1.1.1.1,bD.mp h.1.1.1.2,h.1.1.2,h.1.2,h.2⟩
theorem Gg(h:tQ ps last=true):rS ps last:=by
 unfold tQ at h;simp only[Bool.and_eq_true]at h;refine⟨fun p m=>?_,h.2.1.1.1.1,h.2.1.1.1.2,h.2.1.1.2,h.2.1.2,Nat.le_of_ble_eq_true h.2.2⟩;rcases m with m|rfl
 ·exact yq (List.all_eq_true.mp h.1.1 p m)
 ·exact yq h.1.2
noncomputable def Fs(l:List Str)(f:Str->Str->Bool):Bool:=match l with
|a::r=>match r with
 |b::r2=>match r2 with
  |[]=>f a b
  |_::_=>false
 |[]=>false
|[]=>false
noncomputable def tB(t:Str)(out:List Str):Bool:=(Nat.ble t.length aw&&ah (dH t none (some 10)) "(?s:(?>.*?"&&ah (dH t (some (-3)) none) ")\\Z"&&Nat.ble (kD t).length 1000)&&Fs (Txt.split (kD t) ").*") fun h0 h1=>Nat.ble h0.length 1000&&Nat.ble (Txt.split h0 ")(?>.*?").length 900&&l6 (Txt.split h0 ")(?>.*?"++[h1]) out
theorem F2(h:tB t out=true):Az t out:=by
 unfold tB at h;simp only[Bool.and_eq_true]at h;refine⟨h.1.1.1.1,h.1.1.1.2,h.1.1.2,h.1.2,?_⟩;haveI h2:=h.2;generalize Txt.split (kD t) ").*"=l at h2
 match l,h2 with
|[h0,h1],h2=> haveI h2:(Nat.ble h0.length 1000&&Nat.ble (Txt.split h0 ")(?>.*?").length 900&&l6 (Txt.split h0 ")(?>.*?"++[h1]) out)=true:=h2;simp only[Bool.and_eq_true]at h2;exact⟨h0,h1,rfl,h2.1.1,h2.1.2,h2.2⟩
noncomputable def oJ(b:Bool)(r:List Nat×Option Nat):Bool:=tQ (r.1.map (g0 b)) (r.2.map (g0 b))&&tB (lO (r.1.map (g0 b)) (r.2.map (g0 b))) (dT r.1 r.2)
theorem Hh:(d0.all (oJ false)&&d0.all (oJ true))=true:=by decide +kernel
end
section
open PySem PySem.W PyProof.Rows PySem.SeqAt PySem.Builtin.Str
section
variable{α:Type}{σ σ₁:Sx}{y z:Str}{xs:List α}{item:α->V}{zs:α->List F}{nx:Nx}
noncomputable abbrev dO(σ:Sx)(l:List (Str×V))(acc:List F):Sx:=⟨l,σ.q,σ.h++[.list acc],σ.st⟩
inductive sC(σ:Sx)(z:Str)(τ cJ:Sx):Prop
|mk (l:List (Str×V)) (acc:List F) (r:F):ad l z=some (.f r)->acc.length<=1000->τ=dO σ l acc->cJ=dO σ l (acc++[r])->sC σ z τ cJ
theorem BP:∀(rs:List F)(i:Nat)(acc:List F)(l:List (Str×V)),all.drop i=rs->acc.length+rs.length<=1000->∃l',SLoop (bw all) z (fun τ k cJ=>cJ=τ/\k=true) (sC σ z) (rs.length+1) i (dO σ l acc) (dO σ l' (acc++rs)):=by
 intro rs
 induction rs with
|nil=> intro i acc l hd _;refine⟨l,?_⟩;rw[js];unfold bw;rw[bC,List.getElem?_eq_none_iff.mpr (List.drop_eq_nil_iff.mp hd),List.append_nil]
|cons r rs ih=>
  intro i acc l hd hz;haveI hx:aq all i=some r:=by rw[bC];exact rF hd
  haveI hd':all.drop (i+1)=rs:=by rw[<- List.drop_drop,hd];rfl
  rw[List.length_cons]at hz;obtain⟨l',H⟩:=ih (i+1) (acc++[r]) (ag l z (.f r)) hd' (by rw[List.length_append,List.length_singleton];lia);refine⟨l',?_⟩;rw[js];unfold bw;rw[hx];refine⟨true,_,⟨rfl,rfl⟩,_,.mk (ag l z (.f r)) acc r aF (by lia) rfl rfl,?_⟩;rw[show acc++r::rs=acc++[r]++rs from by rw[List.append_assoc];rfl];exact H
inductive xG(σ:Sx)(y z:Str)(xs:List α)(item:α->V)(zs:α->List F)(τ cJ:Sx):Prop
|mk (a:α) (l l':List (Str×V)) (acc:List F):a∈xs->ad l y=some (item a)->τ=dO σ l acc->cJ=dO σ l' (acc++zs a)->SLoop (bw (zs a)) z (fun τ k cJ=>cJ=τ/\k=true) (sC σ z) ((zs a).length+1) 0 τ cJ->xG σ y z xs item zs τ cJ
theorem out2(hnx:∀i τ,τ.q=σ.q->nx i τ=some (xs[i]?.map item)):∀(as:List α)(i:Nat)(acc:List F)(l:List (Str×V)),xs.drop i=as->acc.length+(as.flatMap zs).length<=1000->∃l',SLoop nx y (fun τ k cJ=>cJ=τ/\k=true) (xG σ y z xs item zs) (as.length+1) i (dO σ l acc) (dO σ l' (acc++as.flatMap zs)):=by
 intro as
 induction as with
|nil=> intro i acc l hd _;refine⟨l,?_⟩;rw[js];rw[hnx i (dO σ l acc) rfl,List.getElem?_eq_none_iff.mpr (List.drop_eq_nil_iff.mp hd),List.flatMap_nil,List.append_nil];rfl
|cons a as ih=>
  intro i acc l hd hz;haveI hlt:xs[i]?=some a:=by haveI:=congrArg (fun l=>l[0]?) hd;rw[List.getElem?_drop]at this;exact this
  haveI hd':xs.drop (i+1)=as:=by rw[<- List.drop_drop,hd];rfl
  rw[List.flatMap_cons,List.length_append]at hz;obtain⟨l1,H1⟩:=BP (σ:=σ) (z:=z) (all:=zs a) (zs a) 0 acc (ag l y (item a)) rfl (by lia);obtain⟨l',H⟩:=ih (i+1) (acc++zs a) l1 hd' (by rw[List.length_append];lia);refine⟨l',?_⟩;rw[js];rw[hnx i (dO σ l acc) rfl,hlt];refine⟨true,_,⟨rfl,rfl⟩,_,.mk a (ag l y (item a)) l1 acc (List.mem_of_getElem? hlt) aF rfl rfl H1,?_⟩;rw[List.flatMap_cons,<-List.append_assoc];exact H
theorem Fu(hset:∀(env:Env)v,foldedSetIterable it env v=pure v)(hset2:∀(env:Env)v,foldedSetIterable it2 env v=pure v)(S:eE sc e y)(hz:ad sc.names z=some .local)(hx:SE e n it σ (.ok v σ₁))(hs:bX v σ₁ nx)(hnx:∀i τ,τ.q=σ₁.q->nx i τ=some (xs[i]?.map item))
  (h2:∀a∈xs,∀l acc,ad l y=some (item a)->SE (kK sc e σ₁.l) n it2 (dO σ₁ l acc) (.ok (.f (.list (zs a))) (dO σ₁ l acc))) (hd:ew σ₁.h.length σ₁.h=true) (hlen:(xs.flatMap zs).length<=1000) {ys:List F} (he:xs.flatMap zs=ys) :
  SE e n (.ListComp (.Name z pe) [⟨.Name y py,it,[],0⟩,⟨.Name z pz,it2,[],0⟩] sc pos) σ (.ok (.f (.list ys)) σ₁):=
 pZ (rx:=.ok v σ₁) (f:=fun u_ u_=>.ok (.f (.list ys)) σ₁) hset S hx fun w τ q=>by
  cases(q);subst he;obtain⟨l',H⟩:=out2 (y:=y) (z:=z) (zs:=zs) hnx xs 0 [] [] rfl (by rw[List.length_nil,Nat.zero_add];exact hlen);refine .ok (dO σ₁ l' (xs.flatMap zs)) σ₁.h _ (.mk nx _ _ _ hs (fun τ k cJ h=>?_) (fun τ cJ h=>?_) H) rfl rfl hd
  ·obtain⟨rfl,rfl⟩:=h;exact gK
  ·cases h with|mk a l l1 acc ha hl e1 e2 hL=>
   subst e1;refine Jx rfl hset2 (h2 a ha l acc hl) dc (.loc hz) (fun τ k cJ h=>by obtain⟨rfl,rfl⟩:=h;exact gK) (fun τ cJ h=>?_) hL;cases h with|mk l acc r hr hz' e1 e2=>
   subst e1 e2;haveI:=yJ (gens:=[⟨.Name y py,it,[],0⟩,⟨.Name z pz,it2,[],0⟩]) (sc:=sc) (pos:=pos) (dep:=1) (j:=σ₁.h.length) rfl (ae (e:=kK sc e σ₁.l) (n:=n) (σ:=dO σ₁ l acc) (pos:=pe) (.loc hz hr)) fR (bA hz' (by decide));rw[show({dO σ₁ l acc with h:=bc (dO σ₁ l acc).h σ₁.h.length (.list (acc++[r]))}:Sx)=dO σ₁ l (acc++[r])from by show(⟨_,_,bc (σ₁.h++[.list acc]) σ₁.h.length _,_⟩:Sx)=_;rw[lC]]at this
   exact this
end
noncomputable abbrev fw:=List Nat×Option Nat
noncomputable abbrev fD(r:fw):List (Option Nat):=r.1.map some++[r.2]
noncomputable def bE(r:fw):List Str:=(fD r).map ey
noncomputable def dJ(r:fw):Str:=Txt.join "" (bE r)
noncomputable def gE(p:Nat×List Nat):List fw:=[([p.1],none),([p.1],some p.1)]++p.2.map fun a=>([a,124],none)
noncomputable def ju(A:Ah):List fw:=([124],none)::A.flatMap gE
noncomputable def gh(A:Ah):Rd:=(ju A).foldl (fun R r=>ag R (dJ r) (bE r)) []
noncomputable abbrev km:List (Option Nat):=[some 97,some 42,some 63,some 91,some 93,some 33,some 124,none]
noncomputable def iK(b:Bool):List Str:=km.map fun o=>tx (iR b o)
noncomputable abbrev jO(c:Nat)(b:Bool)(o:Option Nat):Str:=tx (List.replicate (c+1) 42++iR b o)
noncomputable def qV(c:Nat)(b:Bool)(r:fw):Bool:=JoinOk "" ((fD r).map (jO c b))&&ah (Txt.join "" ((fD r).map (jO c b))) (tx (mh c b r.1 r.2))&&Nat.ble (mh c b r.1 r.2).length 900
theorem Io:([0,1,2].all fun c=>d0.all (qV c false)&&d0.all (qV c true))=true:=by decide +kernel
noncomputable def qU(r:fw):Bool:=JoinOk "" (bE r)&&(r.1.all fun y=>(124::di).contains y)&&(match r.2 with|none=>true|some y=>di.contains y)
theorem EI:d0.all qU=true:=by decide +kernel
theorem wH:bE r=dT r.1 r.2:=by unfold bE dT;rw[List.map_append,List.map_map];rfl
noncomputable abbrev Ch:List (Str×NameKind):=[("ahead",.cell),("count",.local),("reads",.local),("star",.cell),("signs",.cell),("dress",.cell),("row",.local),("runs",.local),("_law_runs",.globalImplicit),("translate",.globalImplicit)]
theorem F6:ci (bp "_law_reads") ["ahead","count"] none Ch:=⟨by kernel_rfl,by kernel_rfl,by kernel_rfl⟩
structure AV(c:Nat)(b:Bool)(l:List (Str×V)):Prop where
 r:ad l "reads"=some (.p (.loc 0))
 s:ad l "star"=some (.f (.str (tx (List.replicate (c+1) 42))))
 g:ad l "signs"=some (.f (aH (km.map ey)))
 d:ad l "dress"=some (.f (aH (iK b)))
inductive vY(q:Option bW)(c:Nat)(b:Bool)(fin:Rd)(xs:List F)(τ:Sx):Prop
|mk (l:List (Str×V)) (R:Rd) (st:Nat) (rest:List fw):τ=⟨l,q,[.dict (bJ R)],st⟩->AV c b l->xs=rest.map (fun r=>aH (bE r))->rest.foldl (fun R r=>ag R (dJ r) (bE r)) R=fin->(∀r∈rest,r∈d0)->R.length+rest.length<=900->vY q c b fin xs τ
theorem HF:bJ (ag R k row)=ag (bJ R) k (aH row):=by
 induction R with
|nil=>rfl
|cons p R ih=>
  obtain⟨y,b⟩:=p;rw[show bJ ((y,b)::R)=(y,aH b)::bJ R from rfl];rw[gf,gf];cases ah k y with
 |true=>rfl
 |false=>exact congrArg ((y,aH b)::·) ih
theorem Jt:aH ["a","*","?","[","]","!","|",""]=aH (km.map ey):=by kernel_rfl
theorem CS{l:List (Str×V)}(h:ad l y=some (.f (aH ["a","*","?","[","]","!","|",""]))):ad l y=some (.f (aH (km.map ey))):=h.trans (congrArg (fun v=>some (V.f v)) Jt)
theorem C6:aH ["a","[*]","[?]","[[]","]","!","|",""]=aH (iK false):=by kernel_rfl
theorem Fo:aH ["a","[b-a*]","[b-a?]","[b-a[]","[]]","!","|",""]=aH (iK true):=by kernel_rfl
noncomputable abbrev sA:List F:=[aH ["a","[*]","[?]","[[]","]","!","|",""],aH ["a","[b-a*]","[b-a?]","[b-a[]","[]]","!","|",""]]
theorem xr(hA:fb A ns)(hs:∀a∈ns,a∈di):∀r∈ju A,r∈d0:=fun r m=>by
 have q:∀a∈di,(([a],none):fw)∈d0/\(([a],some a):fw)∈d0/\(([a,124],none):fw)∈d0:=by decide +kernel
 rcases List.mem_cons.mp m with rfl|m
 ·exact .head _
 ·obtain⟨p,hp,m⟩:=List.mem_flatMap.mp m;have h1:=q p.1 (hs _ (by rw[<- hA.keys];exact List.mem_map.mpr ⟨p,hp,rfl⟩));rcases List.mem_append.mp m with m|m
  ·rcases List.mem_cons.mp m with rfl|m
   ·exact h1.1
   ·cases List.mem_singleton.mp m;exact h1.2.1
  ·obtain⟨a,ha,rfl⟩:=List.mem_map.mp m;exact(q a (hs a (hA.sub p hp a ha))).2.2
section
variable{n:Nat}{σ:Sx}{A:Ah}{ns:List Nat}{m c:Nat}
theorem Ia(hc:c < 3)(hr:r∈d0):qV c b r=true/\oJ b r=true/\qU r=true/\Tr (mh c b r.1 r.2) [] (dQ (r.1.map (g0 b)) (r.2.map (g0 b))):=by
 haveI h1:=List.all_eq_true.mp Io c (by match c,hc with|0,_=>exact .head _|1,_=>exact .tail _ (.head _)|2,_=>exact .tail _ (.tail _ (.head _)));obtain⟨a1,a2⟩:=(Bool.and_eq_true _ _).mp h1;obtain⟨b1,b2⟩:=(Bool.and_eq_true _ _).mp Hh;haveI hk:=List.all_eq_true.mp EI r hr;haveI k:=hk;unfold qU at k;simp only[Bool.and_eq_true]at k;refine⟨?_,?_,hk,GV (res:=[]) (fun y e=>?_) (fun y m=>?_) rfl⟩
 ·cases b with
 |false=>exact List.all_eq_true.mp a1 r hr
 |true=>exact List.all_eq_true.mp a2 r hr
 ·cases b with
 |false=>exact List.all_eq_true.mp b1 r hr
 |true=>exact List.all_eq_true.mp b2 r hr
 ·haveI:=k.2;rw[e]at this;exact .tail _ (List.contains_iff_mem.mp this)
 ·exact List.contains_iff_mem.mp (List.all_eq_true.mp k.1.2 y m)
theorem B8:(d0.all fun r=>Nat.ble (fD r).length 1000)=true:=by decide +kernel
noncomputable def qx(b:Bool)(o:Option Nat):Bool:=Nat.ble (iR b o).length 50&&match(km.map ey).findIdx? (fun y=>ah y (ey o))with
|some j=>Nat.ble j 50&&match aq (iK b) j with
 |some t=>ah t (tx (iR b o))
 |none=>false
|none=>false
theorem D6:(d0.all fun r=>(fD r).all (qx false)&&(fD r).all (qx true))=true:=by decide +kernel
theorem CE(b:Bool)(hr:r∈d0):∀o∈fD r,∃j,(km.map ey).findIdx? (fun y=>ah y (ey o))=some j/\aq ((iK b).map F.str) j=some (.str (tx (iR b o)))/\j<=aw/\(iR b o).length<=50:=fun o ho=>by
 haveI h:=List.all_eq_true.mp D6 r hr;obtain⟨h1,h2⟩:=(Bool.and_eq_true _ _).mp h;haveI h3:qx b o=true:=by cases b with
 |false=>exact List.all_eq_true.mp h1 o ho
 |true=>exact List.all_eq_true.mp h2 o ho
 unfold qx at h3;obtain⟨z,h3⟩:=(Bool.and_eq_true _ _).mp h3;cases q:(km.map ey).findIdx? (fun y=>ah y (ey o))with
|none=>rw[q]at h3;cases h3
|some j=>
  rw[q]at h3;obtain⟨z2,h3⟩:=(Bool.and_eq_true _ _).mp h3;cases w:aq (iK b) j with
 |none=>rw[w]at h3;cases h3
 |some t=> rw[w]at h3;refine⟨j,rfl,?_,Nat.le_trans (Nat.le_of_ble_eq_true z2) (by decide),Nat.le_of_ble_eq_true z⟩;rw[bC]at w ⊢;rw[List.getElem?_map,w,<-bD.mp (show ah t (tx (iR b o))=true from h3)];rfl
theorem GC{f:α->List fw}:∀{l:List α},(∀a∈l,(f a).length<=k)->(l.map fun a=>(f a).length).sum<=l.length*k:=by
 intro l
 induction l with
|nil=> intro _;exact Nat.zero_le _
|cons a l ih=> intro h;haveI:=ih fun b m=>h b (.tail _ m);haveI:=h a (.head _);rw[List.map_cons,List.sum_cons,List.length_cons,Nat.succ_mul];lia
theorem st3(h1:bx dW=false:=by rfl)(h2:bx dX=false:=by rfl)(h3:bx ir=false:=by rfl):∀x∈[dW,dX,ir],bx x=false:=fun x m=>by
 rcases List.mem_cons.mp m with rfl|m
 ·exact h1
 ·rcases List.mem_cons.mp m with rfl|m
  ·exact h2
  ·cases List.mem_singleton.mp m;exact h3
inductive kY:List Expr->List Str->Prop
|nil:kY [] []
|cons {es:List Expr} {ss:List Str} (u:Str) (a:Nat) (p:Pos):kY es ss->kY (.Constant (.str u) a p::es) (u::ss)
theorem kY.args(h:kY es ss):cP e n es σ (.ok (ss.map fun s=>V.f (.str s)) σ):=by
 induction h with
|nil=>exact an
|cons u a p _ ih=>exact ai rfl aJ ih
theorem jo(h:kY es ss)(hz:Nat.ble ss.length aw=true):SE e n (.List es pos) σ (.ok (.f (aH ss)) σ):=bq h.args mT (by rw[List.length_map];exact hz)
theorem Jn(s1:bx x1=false)(s2:bx x2=false)(h1:SE e n x1 σ (.ok (.f a) σ))(h2:SE e n x2 σ (.ok (.f b) σ))(hi:SE e n i σ (.ok w σ))(hs:fB (.f (.list [a,b])) w σ (.ok v σ)):SE e n (.Subscript (.List [x1,x2] p1) i p2) σ (.ok v σ):=bh (bq (ai s1 h1 (ai s2 h2 an)) rfl rfl) hi hs
theorem c8:kY [.Constant (.str u1) a1 p1,.Constant (.str u2) a2 p2,.Constant (.str u3) a3 p3,.Constant (.str u4) a4 p4,.Constant (.str u5) a5 p5,.Constant (.str u6) a6 p6,.Constant (.str u7) a7 p7,.Constant (.str u8) a8 p8] [u1,u2,u3,u4,u5,u6,u7,u8]:=.cons _ _ _ (.cons _ _ _ (.cons _ _ _ (.cons _ _ _ (.cons _ _ _ (.cons _ _ _ (.cons _ _ _ (.cons _ _ _ .nil)))))))
set_option maxHeartbeats 1000000 in
set_option tactic.hygienic true in
theorem D1(hA:fb A ns)(hs:∀a∈ns,a∈di)(hz:ns.length<=6)(hz2:∀p∈A,p.2.length<=7):∃r',bo (n+5) 4 [.f (.dict (bg A)),.f (.int (m:Int))] σ r'/\∃st',r'=.ok (.f (.dict (bJ (gh A)))) {σ with st:=st'}:=by
 refine' wX (σ:=σ) rfl (dn:="_law_reads") rfl rfl F6 (fun h1 h2=>bd.pl h2 h1 rfl) rfl ?hB;haveI hc:m % 3 < 3:=Nat.mod_lt _ (by decide);haveI SB:∀τ,ds .Mult (.f (.str "*")) (.f (.int (1+((m % 3:Nat):Int)))) τ (.ok (.f (.str (tx (List.replicate (m % 3+1) 42)))) τ):=fun τ=>by
  generalize m % 3=c at hc
  match c,hc with
 |0,_=>exact tR rfl rfl rfl
 |1,_=>exact tR rfl rfl rfl
 |2,_=>exact tR rfl rfl rfl
 haveI SD:∀τ,fB (.f (.list sA)) (.f (.int ((m % 2:Nat):Int))) τ (.ok (.f (aH (iK (m % 2==1)))) τ):=fun τ=>by
  haveI h2:m % 2 < 2:=Nat.mod_lt _ (by decide);generalize m % 2=c at h2
  match c,h2 with
 |0,_=>exact C6.subst (motive:=fun v=>fB (.f (.list sA)) (.f (.int ((0:Nat):Int))) τ (.ok (.f v) τ)) (iF (j:=0) .f rfl rfl)
 |1,_=>exact Fo.subst (motive:=fun v=>fB (.f (.list sA)) (.f (.int ((1:Nat):Int))) τ (.ok (.f v) τ)) (iF (j:=1) .f rfl rfl)
 refine' aC ?g1 ?_
 case g1=>
  with_reducible refine' Ad ?q3 ?q4 ?q5 ?q0 ?q6
  case q3=>exact rfl
  case q4=>exact .loc rfl
  case q5=>exact .cell rfl
  case q0=>exact st3
  case q6=>
   with_reducible refine' ai ?i1 wx (ai ?i2 ?q1 (ai ?i3 ?q2 an))
   case i1=>rfl
   case i2=>rfl
   case i3=>rfl
   case q1=>exact aR aJ (aR aL (aR (ae (.loc rfl rfl)) aL (kT (b:=3) rfl (by decide))) eB) (SB _)
   case q2=>
    with_reducible refine' jo ?d1 ?d2
    case d1=>exact c8
    case d2=>rfl
 with_reducible refine' aC (aS (rx:=.ok _ _) ?c1 ?ns ?nx) ?_
 case c1=>exact .cell rfl
 case ns=>rfl
 case nx=>
  with_reducible refine' Jn ?n7 ?n8 (jo ?n1 ?n2) (jo ?n3 ?n4) ?n5 ?n6
  case n1=>exact c8
  case n2=>rfl
  case n3=>exact c8
  case n4=>rfl
  case n5=>exact aR (ae (.loc rfl rfl)) aL (kT (b:=2) rfl (by decide))
  case n6=>exact SD _
  case n7=>rfl
  case n8=>rfl
 change EB _ _ _ ⟨[("ahead",.f (.dict (bg A))),("count",.f (.int (m:Int))),("reads",.p (.loc 0)),("star",.f (.str (tx (List.replicate (m % 3+1) 42)))),("signs",.f (aH ["a","*","?","[","]","!","|",""])),("dress",.f (aH (iK (m % 2==1))))],σ.q,[.dict []],σ.st⟩ _;generalize hb:(m % 2==1)=b;generalize m % 3=c at hc;clear SB SD;haveI zA:A.length<=6:=by rw[<- List.length_map (f:=(·.1)),hA.keys];exact hz
 haveI zP:∀p∈A,(gE p).length<=9:=fun p hp=>by unfold gE;rw[List.length_append,List.length_map];haveI:=hz2 p hp;show 2+_<=9;lia
 haveI zF:(A.flatMap gE).length<=54:=by rw[List.length_flatMap];exact Nat.le_trans (GC zP) (by lia)
 haveI eF:A.flatMap (fun p=>(gE p).map fun r=>aH (bE r))=(A.flatMap gE).map fun r=>aH (bE r):=List.map_flatMap.symm;refine' nu (σ₁:=⟨[("ahead",.f (.dict (bg A))),("count",.f (.int (m:Int))),("reads",.p (.loc 0)),("star",.f (.str (tx (List.replicate (c+1) 42)))),("signs",.f (aH ["a","*","?","[","]","!","|",""])),("dress",.f (aH (iK b)))],σ.q,[.dict []],σ.st⟩) (J:=vY σ.q c b (gh A)) (xs:=(ju A).map fun r=>aH (bE r)) ?vx (fun u_ u_=>rfl) dc (.loc rfl) (.mk _ [] σ.st (ju A) rfl ⟨rfl,rfl,CS rfl,rfl⟩ rfl rfl (xr hA hs) (by unfold ju;rw[List.length_cons];show 0+_<=_;lia)) ?h0 ?h1
 case vx=>
  haveI eX:(.list ((ju A).map fun r=>aH (bE r)):F)=.list ([aH ["|",""]]++A.flatMap fun p=>(gE p).map fun r=>aH (bE r)):=by rw[eF];rfl
  rw[eX]
  with_reducible refine' aR (bq (ai ?a1 (jo ?a2 ?a3) an) ?a4 ?a5) (Fu (xs:=A) (item:=fun p:Nat×List Nat=>.f (.str (sg p.1))) (zs:=fun p=>(gE p).map fun r=>aH (bE r)) ?a6 ?a7 ?a8 ?a9 ?a10 oZ ?a11 ?a12 ?a13 ?a14 rfl) (jr .f .f ?a15)
  case a1=>rfl
  case a2=>exact .cons _ _ _ (.cons _ _ _ .nil)
  case a3=>rfl
  case a4=>rfl
  case a5=>rfl
  case a6=>exact fun u_ u_=>rfl
  case a7=>exact fun u_ u_=>rfl
  case a8=>exact .of rfl
  case a9=>rfl
  case a10=>exact ae (.cell rfl rfl)
  case a11=>exact fun i τ h=>fy (f:=fun p:Nat×List Nat=>F.str (sg p.1)) (by unfold bg;rw[List.map_map,List.map_map];rfl) i τ
  case a13=>rfl
  case a14=>rw[eF,List.length_map];lia
  case a15=>rw[eF,List.length_map];exact bA (k:=55) (by show 1+_<=_;lia) (by decide)
  case a12=>
   intro p hp l acc hl;haveI eP:(.list ((gE p).map fun r=>aH (bE r)):F)=.list ([aH [sg p.1,""],aH [sg p.1,sg p.1]]++p.2.map fun a=>aH [sg a,"|",""]):=by unfold gE;rw[List.map_append,List.map_map];rfl
   rw[eP];haveI zp:=hz2 p hp
   with_reducible refine' aR (bq (ai ?b1 (bq (ai ?b2 (ae ?b3) (ai ?b4 aJ an)) ?b5 ?b6) (ai ?b7 (bq (ai ?b8 (ae ?b9) (ai ?b10 (ae ?b11) an)) ?b12 ?b13) an)) ?b14 ?b15) (iw (xs:=p.2) (item:=fun a=>.f (.str (sg a))) (keep:=fun u_=>true) (val:=fun a=>aH [sg a,"|",""]) (ys:=p.2.map fun a=>aH [sg a,"|",""]) ?b16 ?b17 (bh (ae ?b18) (ae ?b19) (fM .f (hA.at hp))) dc ?b20 ⟨?b21,?b22,?b23⟩ ?b24 ?b25) (jr .f .f ?b26)
   case b3=>exact .loc rfl hl
   case b9=>exact .loc rfl hl
   case b11=>exact .loc rfl hl
   case b16=>exact fun u_ u_=>rfl
   case b17=>exact .of rfl
   case b18=>exact cS rfl rfl rfl
   case b19=>exact .loc rfl hl
   case b20=>exact fun i τ h=>fy (f:=fun a=>F.str (sg a)) (List.map_map ..) i τ
   case b21=>exact fun u_ u_ u_=>gK
   case b22=>exact fun a ha u_ acc2=>bq (ai rfl (ae (.loc rfl rfl)) (ai rfl aJ (ai rfl aJ an))) rfl rfl
   case b23=>exact Nat.le_trans zp (by decide)
   case b25=>rw[gB]
   case b26=>rw[List.length_map];exact bA (k:=9) (by show 2+_<=_;lia) (by decide)
   case b1=>rfl
   case b2=>rfl
   case b4=>rfl
   case b7=>rfl
   case b8=>rfl
   case b10=>rfl
   case b5=>rfl
   case b6=>rfl
   case b12=>rfl
   case b13=>rfl
   case b14=>rfl
   case b15=>rfl
   case b24=>rfl
 case h0=>
  intro τ o_;obtain⟨l,R,st,rest,rfl,K,e,hf,_,_⟩:=o_;cases rest with
 |cons r rest=>cases(e)
 |nil=> cases(show R=gh A from hf);exact cN (ae (.loc rfl K.r)) ⟨_,bZ (.dict 0 _ rfl rfl) rfl,_,rfl⟩
 case h1=>
  intro x xs τ o_;obtain⟨l,R,st,rest,rfl,K,e,hf,hq,zR⟩:=o_;cases rest with
 |nil=>cases(e)
 |cons r rest=>
   cases(e);haveI hr:=hq r (.head _);obtain⟨f1,f2,f3,f4⟩:=Ia (c:=c) (b:=b) hc hr;rw[List.length_cons]at zR;haveI K:AV c b (ag l "row" (.f (aH (bE r)))):=⟨(aj rfl).trans K.r,(aj rfl).trans K.s,(aj rfl).trans K.g,(aj rfl).trans K.d⟩;haveI hw:ad (ag l "row" (.f (aH (bE r)))) "row"=some (.f (aH (bE r))):=aF;show EB _ _ _ ⟨ag l "row" (.f (aH (bE r))),σ.q,[.dict (bJ R)],st⟩ _;generalize ag l "row" (.f (aH (bE r)))=l at K hw ⊢;unfold qV at f1;simp only[Bool.and_eq_true]at f1;obtain⟨o0_,j3⟩:=f1;obtain⟨j1,j2⟩:=o0_;unfold oJ at f2;obtain⟨r1,r2⟩:=(Bool.and_eq_true _ _).mp f2;unfold qU at f3;simp only[Bool.and_eq_true]at f3;haveI j4:=f3.1.1;haveI eO:((fD r).map fun o=>F.str (jO c b o))=((fD r).map (jO c b)).map F.str:=by rw[List.map_map];rfl
   haveI J:∀τ,M1 "str.join" (.f (.str "")) (.f (.list ((fD r).map fun o=>F.str (jO c b o)))) τ (.ok (.f (.str (tx (mh c b r.1 r.2)))) τ):=fun τ=>by haveI:=qH (σ:=τ) (t:="") (ss:=(fD r).map (jO c b)) .f j1;rw[bD.mp j2]at this;rw[eO];exact this
   haveI J2:∀τ,M1 "str.join" (.f (.str "")) (.f (aH (bE r))) τ (.ok (.f (.str (dJ r))) τ):=fun τ=>qH .f j4;haveI KR:=fun τ=>GS (n:=n+3) (σ:=τ) (F2 r2);rw[<- wH]at KR;haveI KT:=fun τ=>BE (n:=n+1) (σ:=τ) f4 (Nat.le_of_ble_eq_true j3) (Gg r1);haveI IX:=CE b hr;haveI eq1:aQ .Eq (.f (aH (bE r))) (.f (aH (bE r))) ⟨ag l "runs" (.f (aH (bE r))),σ.q,[.dict (bJ R)],st+1⟩ true:=by haveI:=bS (σ:=⟨ag l "runs" (.f (aH (bE r))),σ.q,[.dict (bJ R)],st+1⟩) (neg:=false) (ij (n:=5) (mY (n:=5) (xs:=bE r)));rw[tU]at this;exact this
   haveI zE:Nat.ble (bJ R).length aw=true:=by unfold bJ;rw[List.length_map];exact bA (k:=900) (by lia) (by decide)
   with_reducible refine' aC (aS (rx:=.ok _ _) ?t1 ?t2 (bf ?t3 ?t4 (ai ?t5 (bf ?t6 ?t7 (ai ?t8 (ba ?t9 ?t10 ?t11 aJ (bL nR ?t12 (ai ?t13 (iw (xs:=fD r) (item:=fun o=>.f (.str (ey o))) (keep:=fun u_=>true) (val:=fun o=>.str (jO c b o)) (ys:=(fD r).map fun o=>F.str (jO c b o)) ?t14 ?t15 (ae ?t16) dc ?t17 ⟨?t18,?t19,?t20⟩ ?t21 ?t22) an) (J _).up)) an) (dD (nm:="translate") ?t23 ?t24 (KT _))) an) (dD (nm:="_law_runs") ?t25 ?t26 (KR _)))) ?_
   case t1=>exact .loc rfl
   case t3=>exact .glob rfl rfl
   case t6=>exact .glob rfl rfl
   case t9=>exact fun u_=>rfl
   case t14=>exact fun u_ u_=>rfl
   case t15=>exact .of rfl
   case t16=>exact .loc rfl hw
   case t17=>exact fun i τ h=>fy (f:=fun o=>F.str (ey o)) (by unfold bE;rw[List.map_map];rfl) i τ
   case t18=>exact fun u_ u_ u_=>gK
   case t19=> intro o ho _ acc;obtain⟨j,i1,i2,i3⟩:=IX o ho;exact aR (ae (cS rfl rfl K.s)) (bh (ae (cS rfl rfl K.d)) (ba (fun u_=>rfl) rfl rfl (ae (cS rfl rfl K.g)) (bL (gG .f PySem.F.slot_list_index PySem.F.type_list_index) rfl (ai rfl (ae (.loc rfl rfl)) an) (xV .f i1 rfl).up)) (iF .f (lZ i3.1) i2)) (gd (by rw[List.length_replicate];exact bA (k:=100) (by haveI:=i3.2;show c+1+(iR b o).length<=100;lia) (by decide)))
   case t20=>exact Nat.le_of_ble_eq_true (List.all_eq_true.mp B8 r hr)
   case t22=>rw[gB]
   case t2=>rfl
   case t4=>rfl
   case t5=>rfl
   case t7=>rfl
   case t8=>rfl
   case t10=>rfl
   case t11=>rfl
   case t12=>rfl
   case t13=>rfl
   case t21=>rfl
   case t23=>rfl
   case t24=>rfl
   case t25=>rfl
   case t26=>rfl
   with_reducible refine' aC (tL ?v1 (g9 (k:=true) (az ?v2 (ae ?v3) (ae ?v4) eq1) (fun u_=>ae ?v5) (fun q=>?v6)) (ae ?v7) (ba ?v8 ?v9 ?v10 aJ (bL nR ?v11 (ai ?v12 (ae ?v13) an) (J2 _).up)) (xy ?v14 zE)) (aD ?_)
   case v3=>exact .loc rfl aF
   case v4=>exact .loc rfl ((aj rfl).trans hw)
   case v5=>exact .loc rfl aF
   case v6=>cases(q)
   case v7=>exact .loc rfl ((aj rfl).trans K.r)
   case v8=>exact fun u_=>rfl
   case v13=>exact .loc rfl ((aj rfl).trans hw)
   case v1=>rfl
   case v2=>rfl
   case v9=>rfl
   case v10=>rfl
   case v11=>rfl
   case v12=>rfl
   case v14=>rfl
   refine .mk (ag l "runs" (.f (aH (bE r)))) (ag R (dJ r) (bE r)) (st+1) rest ?_ ⟨(aj rfl).trans K.r,(aj rfl).trans K.s,(aj rfl).trans K.g,(aj rfl).trans K.d⟩ rfl hf (fun y m=>hq y (.tail _ m)) ?_
   ·rw[HF];rfl
   ·haveI:=putL_len (l:=R) (x:=dJ r) (a:=bE r);lia
end
end
section
open PySem
theorem Gd:ad (bJ R) k=(ad R k).map aH:=by
 induction R with
|nil=>rfl
|cons p R ih=>
  show(match ah k p.1 with|true=>some (aH p.2)|false=>ad (bJ R) k)=(match ah k p.1 with|true=>some p.2|false=>ad R k).map aH;cases ah k p.1 with
 |true=>rfl
 |false=>exact ih
theorem DM:∀{rows:List fw}{R:Rd},(∀r∈rows,dJ r=k->bE r=v)->(ad R k=some v\/∃r∈rows,dJ r=k)->ad (rows.foldl (fun R r=>ag R (dJ r) (bE r)) R) k=some v:=by
 intro rows
 induction rows with
|nil=> intro R _ h;exact h.elim id fun⟨_,m,_⟩=>(List.not_mem_nil m).elim
|cons r rows ih=>
  intro R hk h;rw[List.foldl_cons];refine ih (fun y m=>hk y (.tail _ m)) ?_;by_cases q:k=dJ r
  ·exact .inl (by rw[dB,if_pos q,hk r (.head _) q.symm])
  ·rcases h with h|⟨y,m,e⟩
   ·exact .inl (by rw[dB,if_neg q,h])
   ·rcases List.mem_cons.mp m with rfl|m
    ·exact absurd e.symm q
    ·exact .inr ⟨y,m,e⟩
theorem BO:(d0.all fun r=>d0.all fun r'=>!ah (dJ r) (dJ r')||decide (r=r'))=true:=by decide +kernel
theorem Iu:(di.all fun a=>ah (dJ ([a],none)) (sg a)&&ah (dJ ([a],some a)) (tx [a,a])&&ah (dJ ([a,124],none)) (tx [a,124]))&&ah (dJ ([124],none)) (tx [124])=true:=by decide +kernel
theorem qg(hA:fb A ns)(hs:∀a∈ns,a∈di)(m:r∈ju A)(e:ah (dJ r) k=true):ad (bJ (gh A)) k=some (aH (dT r.1 r.2)):=by
 haveI hq:=xr hA hs;cases bD.mp e;rw[Gd];unfold gh;rw[DM (v:=bE r) (fun y my q=>?_) (.inr ⟨r,m,rfl⟩),wH]
 ·rfl
 ·haveI:=List.all_eq_true.mp (List.all_eq_true.mp BO y (hq y my)) r (hq r m);rw[q,bU,Bool.not_true,Bool.false_or]at this;rw[of_decide_eq_true this]
theorem Dn(hA:fb A ns)(hs:∀a∈ns,a∈di):j0 A (gh A) ns:=by
 obtain⟨h1,h2⟩:=(Bool.and_eq_true _ _).mp Iu;have hk:∀a∈ns,_:=fun a m=>List.all_eq_true.mp h1 a (hs a m);have inA:∀a∈ns,∃p∈A,p.1=a:=fun a m=>by rw[<- hA.keys]at m;obtain⟨p,hp,e⟩:=List.mem_map.mp m;exact⟨p,hp,e⟩
 have row:∀p∈A,∀r∈gE p,r∈ju A:=fun p hp r m=>.tail _ (List.mem_flatMap.mpr ⟨p,hp,m⟩);refine⟨fun a m=>?_,fun a m=>?_,fun p hp a ha=>?_,qg hA hs (r:=([124],none)) (.head _) h2⟩
 ·obtain⟨p,hp,rfl⟩:=inA a m;exact qg hA hs (r:=([p.1],none)) (row p hp _ (.head _)) ((Bool.and_eq_true _ _).mp ((Bool.and_eq_true _ _).mp (hk _ m)).1).1
 ·obtain⟨p,hp,rfl⟩:=inA a m;exact qg hA hs (r:=([p.1],some p.1)) (row p hp _ (.tail _ (.head _))) ((Bool.and_eq_true _ _).mp ((Bool.and_eq_true _ _).mp (hk _ m)).1).2
 ·exact qg hA hs (r:=([a,124],none)) (row p hp _ (List.mem_append_right _ (List.mem_map.mpr ⟨a,ha,rfl⟩))) ((Bool.and_eq_true _ _).mp (hk a (hA.sub p hp a ha))).2
theorem Gl:∀{R:List (Str×α)},p∈ag R k v->p∈R\/p.2=v:=by
 intro R
 induction R with
|nil=> intro m;exact .inr (by cases List.mem_singleton.mp m;rfl)
|cons p_ R ih=>
  obtain⟨y,b⟩:=p_;intro m;rw[gf]at m;cases q:ah k y with
 |true=>rw[q]at m;exact(List.mem_cons.mp m).elim (fun e=>.inr (by rw[e])) fun m=>.inl (.tail _ m)
 |false=>rw[q]at m;exact(List.mem_cons.mp m).elim (fun e=>.inl (by rw[e];exact .head _)) fun m=>(ih m).imp (.tail _) id
theorem Fc:∀{rows:List fw}{R:Rd},(∀p∈R,p.2≠[])->∀p∈rows.foldl (fun R r=>ag R (dJ r) (bE r)) R,p.2≠[]:=by
 intro rows
 induction rows with
|nil=> intro _ h;exact h
|cons r rows ih=> intro R h;exact ih fun p m=>(Gl m).elim (h p) fun e=>by rw[e];unfold bE;intro z;haveI:=congrArg List.length z;rw[List.length_map,List.length_append]at this;cases this
theorem JB:∀{R:Rd},(∀p∈R,p.2≠[])->cT (n+1) ((bJ R).map (·.2)) (((bJ R).map (·.2)).map fun u_=>F.list []) (R.map fun u_=>false):=by
 intro R
 induction R with
|nil=> intro _;exact .nil
|cons p R ih=>
  intro h;exact .cons _ _ _ _ _ _ (qb (by
   haveI:=h p (.head _);cases q:p.2 with
  |nil=>exact absurd q this
  |cons a l=>rfl)) (ih fun y m=>h y (.tail _ m))
section
variable{A:Ah}{ns ps done:List Nat}{np:Nat->Int}{sc:Nat->List Nat}{y:Nat}
theorem GB:∀{l:List (Str×α)},ad l k=none->ag (l++[(k,v)]) k w=l++[(k,w)]:=by
 intro l
 induction l with
|nil=> intro _;show(match ah k k with|true=>[(k,w)]|false=>_)=_;rw[bU];rfl
|cons p_ l ih=>
  obtain⟨z,b⟩:=p_;intro h;haveI h:(match ah k z with|true=>some b|false=>ad l k)=none:=h;cases q:ah k z with
 |true=>rw[q]at h;cases h
 |false=> rw[q]at h;show(match ah k z with|true=>(z,w)::(l++[(k,v)])|false=>(z,b)::ag (l++[(k,v)]) k w)=_;rw[q];exact congrArg ((z,b)::·) (ih h)
theorem Aq(h:y∉done):ig (aM done (fun u_=>0) fun u_=>[]) (sg y) []=aM (done++[y]) (fun u_=>0) fun u_=>[]:=by haveI hl:=oM (np:=fun u_=>0) (sc:=fun u_=>[]) h;unfold ig touch aT;rw[hl];dsimp only;rw[GB hl];unfold aM;rw[List.map_append];rfl
theorem vI:∀{L done:List Nat},(done++L).Nodup->(L.map sg).foldl (fun N x=>ig N x []) (aM done (fun u_=>0) fun u_=>[])=aM (done++L) (fun u_=>0) fun u_=>[]:=by
 intro L
 induction L with
|nil=> intro done _;rw[List.append_nil];rfl
|cons y L ih=>
  intro done nd;haveI hy:y∉done:=fun m=>(List.nodup_append.mp nd).2.2 y m y (.head _) rfl;rw[List.map_cons,List.foldl_cons,Aq hy];haveI e:done++y::L=done++[y]++L:=by rw[List.append_assoc];rfl
  rw[e]at nd ⊢;exact ih nd
theorem BI:upd np y (np y)=np:=by
 funext x;by_cases h:x=y
 ·rw[h,dP]
 ·rw[cm h]
theorem Ie(nd:ns.Nodup)(hp:p∈ns):addP (sg y) (aM ns np sc) (sg p)=aM ns np (upd sc p (sc p++[y])):=by unfold addP touch;rw[gI hp,jD hp];dsimp only;haveI:=ut (np:=np) (sc:=sc) (w:=np p) (l:=sc p++[y]) nd hp;rw[BI,List.map_append]at this;exact this
theorem DU(nd:ns.Nodup):∀{ps:List Nat}{sc:Nat->List Nat},(∀p∈ps,p∈ns)->(ps.map sg).foldl (addP (sg y)) (aM ns np sc)=aM ns np fun a=>sc a++List.replicate (ps.count a) y:=by
 intro ps
 induction ps with
|nil=> intro sc _;exact dS fun x u_=>⟨rfl,(List.append_nil _).symm⟩
|cons p ps ih=>
  intro sc h;rw[List.map_cons,List.foldl_cons,Ie nd (h p (.head _)),ih fun q m=>h q (.tail _ m)];refine dS fun x u_=>⟨rfl,?_⟩;by_cases e:x=p
  ·subst e;rw[dP,List.count_cons_self,List.replicate_succ,List.append_assoc];rfl
  ·rw[cm e,List.count_cons_of_ne (fun z=>e z.symm)]
theorem sR(nd:ns.Nodup)(hy:y∈ns)(hp:∀p∈ps,p∈ns):ig (aM ns np sc) (sg y) (ps.map sg)=aM ns (upd np y (np y+(ps.length:Int))) fun a=>sc a++List.replicate (ps.count a) y:=by unfold ig touch;rw[gI hy];dsimp only;rw[qw nd hy,DU nd hp,jD hy,List.length_map]
noncomputable def jq(A:Ah)(N:List (Str×aZ))(x:Nat):List (Str×aZ):=ig (ig N (sg x) (((aA A x).take 1).map sg)) (sg x) (((aA A x).drop 1).map sg)
theorem Gf(nd:ns.Nodup)(hy:y∈ns)(hp:∀p∈aA A y,p∈ns):jq A (aM ns np sc) y=aM ns (upd np y (np y+((aA A y).length:Int))) fun a=>sc a++List.replicate ((aA A y).count a) y:=by
 unfold jq;rw[sR nd hy fun p m=>hp p (List.mem_of_mem_take m),sR nd hy fun p m=>hp p (List.mem_of_mem_drop m)];haveI e1:((aA A y).length:Int)=(((aA A y).take 1).length:Int)+(((aA A y).drop 1).length:Int):=by haveI:=congrArg List.length (List.take_append_drop 1 (aA A y));rw[List.length_append]at this;lia
 refine dS fun x u_=>⟨?_,?_⟩
 ·by_cases e:x=y
  ·subst e;rw[dP,dP,dP,e1,Int.add_assoc]
  ·rw[cm e,cm e,cm e]
 ·haveI:=congrArg (List.count x) (List.take_append_drop 1 (aA A y));rw[List.count_append]at this;rw[List.append_assoc,List.replicate_append_replicate,this]
theorem xm(nd:ns.Nodup)(hp:∀y∈ns,∀p∈aA A y,p∈ns):∀{L:List Nat}{np:Nat->Int}{sc:Nat->List Nat},L.Nodup->(∀y∈L,y∈ns)->L.foldl (jq A) (aM ns np sc)=aM ns (fun x=>match decide (x∈L)with|true=>np x+((aA A x).length:Int)|false=>np x) fun a=>sc a++L.flatMap fun y=>List.replicate ((aA A y).count a) y:=by
 intro L
 induction L with
|nil=> intro np sc _ _;exact dS fun x u_=>⟨rfl,(List.append_nil _).symm⟩
|cons y L ih=>
  intro np sc nl hl;obtain⟨n1,n2⟩:=List.nodup_cons.mp nl;rw[List.foldl_cons,Gf nd (hl y (.head _)) (hp y (hl y (.head _))),ih n2 fun z m=>hl z (.tail _ m)];refine dS fun x u_=>⟨?_,?_⟩
  ·by_cases e:x=y
   ·subst e;rw[decide_eq_false n1,decide_eq_true (List.mem_cons_self ..)];dsimp only;rw[dP]
   ·rw[cm e,show decide (x∈y::L)=decide (x∈L)from decide_eq_decide.mpr ⟨fun m=>(List.mem_cons.mp m).resolve_left e,.tail _⟩]
  ·rw[List.flatMap_cons,List.append_assoc]
theorem Jw(N:dv A ns):ns.foldl (jq A) ((ns.map sg).foldl (fun N x=>ig N x []) [])=aM ns (bK A [] []) (bP A ns):=by rw[show([]:List (Str×aZ))=aM [] (fun u_=>0) fun u_=>[]from rfl,vI (L:=ns) (done:=[]) N.a.nd,List.nil_append,xm N.a.nd N.sub N.a.nd fun u_ m=>m];refine dS fun x m=>⟨?_,List.nil_append _⟩;rw[decide_eq_true m];unfold bK dG;rw[show decide (x∈([]:List Nat))=false from decide_eq_false List.not_mem_nil];dsimp only;rw[show((aA A x).filter fun a=>!([]:List Nat).contains a)=aA A x from List.filter_eq_self.mpr fun u_ u_=>rfl,Int.zero_add]
theorem bO.start(N:dv A ns):bO A ns ((aM ns (bK A [] []) (bP A ns),gw (aM ns (bK A [] []) (bP A ns))),0) [] 0 (fc A []):=by
 haveI fr:∀y,y∈fc A []↔y∈ns/\aA A y=[]:=fun y=>by
  rw[jE N.a,List.mem_filter,List.all_eq_true];refine and_congr_right fun u_=>⟨fun h=>?_,fun h a m=>?_⟩
  ·cases q:aA A y with
  |nil=>rfl
  |cons a l=>exact absurd (of_decide_eq_true (h a (by rw[q];exact .head _))) List.not_mem_nil
  ·rw[h]at m;exact(List.not_mem_nil m).elim
 refine⟨?_,?_,rfl,Nat.zero_le _,?_,fun y hy=>?_,fun y hy=>((fr y).mp hy).1,fun y hy=>(List.not_mem_nil hy).elim,.nil,fun y hy=>?_⟩
 ·rw[List.take_zero]
 ·rw[List.drop_zero,jE N.a];unfold gw aM;rw[List.filter_map,List.map_map];refine congrArg (List.map sg) (List.filter_congr fun y hy=>?_);show decide (bK A [] [] y=0)=_;rw[Bool.eq_iff_iff,decide_eq_true_iff,List.all_eq_true];haveI e:bK A [] [] y=((aA A y).length:Int):=by unfold bK dG;rw[show decide (y∈([]:List Nat))=false from decide_eq_false List.not_mem_nil];dsimp only;rw[show((aA A y).filter fun a=>!([]:List Nat).contains a)=aA A y from List.filter_eq_self.mpr fun u_ u_=>rfl]
  rw[e];constructor
  ·intro h a m;haveI h0:(aA A y).length=0:=by lia
   rw[List.length_eq_zero_iff.mp h0]at m;exact(List.not_mem_nil m).elim
  ·intro h;cases q:aA A y with
  |nil=>rfl
  |cons a l=>exact absurd (of_decide_eq_true (h a (by rw[q];exact .head _))) List.not_mem_nil
 ·rw[jE N.a];exact List.filter_sublist.nodup N.a.nd
 ·rw[fr];constructor
  ·intro o_;obtain⟨_,h⟩:=o_;intro a m;rw[h]at m;exact m
  ·intro h;refine⟨hy,?_⟩;cases q:aA A y with
  |nil=>rfl
  |cons a l=>exact absurd (h a (by rw[q];exact .head _)) List.not_mem_nil
 ·constructor
  ·intro h;rw[List.take_zero]at h;exact(List.not_mem_nil h).elim
  ·intro h;haveI:=h [124] (.head _);cases this
end
noncomputable def WS(sc:Str->List Str)(l:List Str):Nat:=(l.map fun x=>(sc x).length).sum
structure lr(sc:Str->List Str)(lf:Str->Bool)(rk:Str->Nat):Prop where
 o:∀x,lf x=false->∀y∈sc x,lf y=false/\rk y < rk x
theorem vq:∀{l:List Str}{k:Nat},u∉l->bT u l k=none:=by
 intro l
 induction l with
|nil=> intro _ _;exact rfl
|cons x l ih=> intro k h;unfold bT;rw[gQ fun e=>h (by rw[e];exact .head _)];exact ih fun m=>h (.tail _ m)
theorem AC:WS sc (a++b)=WS sc a+WS sc b:=by unfold WS;rw[List.map_append,List.sum_append]
theorem vM(h:u∉sn):aO sn u=false:=by
 cases q:aO sn u with
|true=>exact absurd (lJ.mp q) h
|false=>rfl
theorem ua(h:u∉sn):dj sc (m+1) rs sn u=da sc m ((u,0)::rs) (sn++[u]):=tN (vM h)
theorem Cd(h:u∈sn)(hs:u∉bj rs):dj sc (m+1) rs sn u=da sc m rs sn:=uj (lJ.mpr h) (vq hs)
theorem vl{kp:Str->Prop}(E:lr sc lf rk)(hk:∀x,kp x->∀y∈sc x,kp y):∀(r:Nat)(u:Str)(rs:fk)(sn:List Str),rk u < r->lf u=false->kp u->(∀x∈bj rs,lf x=true\/rk u < rk x)->∃nw,(∀x∈nw,(lf x=false/\kp x)/\x∉sn)/\nw.Nodup/\∀m,dj sc (m+(1+WS sc nw)) rs sn u=da sc m rs (sn++nw):=by
 intro r
 induction r with
|zero=> intro u _ _ h _ _ _;exact absurd h (Nat.not_lt_zero _)
|succ r ih_=>
  intro u rs sn hr hl hp0 hs;have hu:u∉bj rs:=fun m=>(hs u m).elim (fun h=>by rw[hl]at h;cases h) fun h=>Nat.lt_irrefl _ h;by_cases hm:u∈sn
  ·refine⟨[],fun x m=>(List.not_mem_nil m).elim,.nil,fun m=>?_⟩;rw[List.append_nil];exact Cd hm hu
  ·have scan:∀(k p:Nat)(sn:List Str),p+k=(sc u).length->∃nw,(∀x∈nw,(lf x=false/\kp x)/\x∉sn)/\nw.Nodup/\∀m,da sc (m+(k+WS sc nw)) ((u,p)::rs) sn=da sc m rs (sn++nw):=by
    intro k
    induction k with
   |zero=> intro p sn hp;refine⟨[],fun x m=>(List.not_mem_nil m).elim,.nil,fun m=>?_⟩;rw[List.append_nil];exact wD (by rw[bC,List.getElem?_eq_none_iff];lia)
   |succ k ih=>
     intro p sn hp;have hlt:p < (sc u).length:=by lia
     have hw:aq (sc u) p=some ((sc u)[p]):=by rw[bC,List.getElem?_eq_getElem hlt]
     obtain⟨w1,w2⟩:=E.o u hl _ (List.getElem_mem hlt);have w3:=hk u hp0 _ (List.getElem_mem hlt);generalize(sc u)[p]=w at hw w1 w2 w3;obtain⟨n1,a1,a2,a3⟩:=ih_ w ((u,p+1)::rs) sn (by lia) w1 w3 fun x m=>by
      unfold bj at m;rw[List.map_cons,List.reverse_cons]at m;rcases List.mem_append.mp m with m|m
      ·exact(hs x m).imp id fun h=>Nat.lt_trans w2 h
      ·cases List.mem_singleton.mp m;exact .inr w2
     obtain⟨n2,b1,b2,b3⟩:=ih (p+1) (sn++n1) (by lia);refine⟨n1++n2,fun x m=>?_,List.nodup_append.mpr ⟨a2,b2,fun x m1 y m2 e=>?_⟩,fun m=>?_⟩
     ·rcases List.mem_append.mp m with m|m
      ·exact a1 x m
      ·exact⟨(b1 x m).1,fun z=>(b1 x m).2 (List.mem_append_left _ z)⟩
     ·exact(b1 y m2).2 (List.mem_append_right _ (e▸m1))
     ·rw[oA hw,AC,show m+(k+1+(WS sc n1+WS sc n2))=(m+(k+WS sc n2))+(1+WS sc n1) by lia,a3,b3,List.append_assoc]
   obtain⟨nw,a1,a2,a3⟩:=scan (sc u).length 0 (sn++[u]) (Nat.zero_add _);refine⟨u::nw,fun x m=>?_,List.nodup_cons.mpr ⟨fun m=>(a1 u m).2 (List.mem_append_right _ (.head _)),a2⟩,fun m=>?_⟩
   ·rcases List.mem_cons.mp m with rfl|m
    ·exact⟨⟨hl,hp0⟩,hm⟩
    ·exact⟨(a1 x m).1,fun z=>(a1 x m).2 (List.mem_append_left _ z)⟩
   ·rw[show WS sc (u::nw)=(sc u).length+WS sc nw from by unfold WS;rw[List.map_cons,List.sum_cons],show m+(1+((sc u).length+WS sc nw))=(m+((sc u).length+WS sc nw))+1 by lia,ua hm,a3,List.append_assoc];rfl
noncomputable def gl(sc:Str->List Str)(lf:Str->Bool):Nat->List Str->Option (List Str)
|0,_=>none
|m+1,ws=>match ws.getLast? with
 |none=>none
 |some w=>match(sc w).find? lf with
  |none=>none
  |some a=>match bT a ws 0 with
   |some i=>some (ws.drop i++[a])
   |none=>gl sc lf m (ws++[a])
theorem Gm{kp:Str->Prop}(E:lr sc lf rk)(hk:∀x,kp x->∀y∈sc x,kp y):∀(f:Nat)(ws:List Str)(rs:fk)(w a:Str)(ring:List Str),(match bT a ws 0 with|some i=>some (ws.drop i++[a])|none=>gl sc lf f (ws++[a]))=some ring->kp w->∀(k p:Nat)(sn:List Str),p+k=(sc w).length->bj ((w,p)::rs)=ws->((sc w).drop p).find? lf=some a->(∀x∈ws,lf x=true/\x∈sn)->(∀x∈sn,lf x=true->x∈ws) ->
  ∃nw,(∀x∈nw,kp x/\x∉sn)/\nw.Nodup/\∀m,∃sn',da sc (m+(k+WS sc nw)) ((w,p)::rs) sn=some (sn',some ring):=by
 intro f
 induction f using Nat.strongRecOn with
|ind f ihf=>
  intro ws rs w a ring hr hw k
  induction k with
 |zero=> intro p sn hp hst hf h1 h2;rw[List.drop_eq_nil_of_le (by lia)]at hf;cases hf
 |succ k ih=>
   intro p sn hp hst hf h1 h2;haveI hlt:p < (sc w).length:=by lia
   haveI hx:aq (sc w) p=some ((sc w)[p]):=by rw[bC,List.getElem?_eq_getElem hlt]
   haveI hmem:=List.getElem_mem hlt;rw[List.drop_eq_getElem_cons hlt,List.find?_cons]at hf;generalize(sc w)[p]=x at hx hf hmem;haveI hst':bj ((w,p+1)::rs)=ws:=hst;cases hl:lf x with
  |false=>
    rw[hl]at hf;obtain⟨n1,a1,a2,a3⟩:=vl E hk (rk x+1) x ((w,p+1)::rs) sn (Nat.lt_succ_self _) hl (hk w hw x hmem) fun y m=>.inl (h1 y (hst'▸m)).1;obtain⟨n2,b1,b2,b3⟩:=ih (p+1) (sn++n1) (by lia) hst' hf (fun y m=>⟨(h1 y m).1,List.mem_append_left _ (h1 y m).2⟩) fun y m h=>(List.mem_append.mp m).elim (fun m=>h2 y m h) fun m=>by rw[((a1 y m).1).1]at h;cases h
    refine⟨n1++n2,fun y m=>?_,List.nodup_append.mpr ⟨a2,b2,fun y m1 z m2 e=>(b1 z m2).2 (List.mem_append_right _ (e▸m1))⟩,fun m=>?_⟩
    ·rcases List.mem_append.mp m with m|m
     ·exact⟨(a1 y m).1.2,(a1 y m).2⟩
     ·exact⟨(b1 y m).1,fun z=>(b1 y m).2 (List.mem_append_left _ z)⟩
    ·obtain⟨sn',e⟩:=b3 m;refine⟨sn',?_⟩;rw[oA hx,AC,show m+(k+1+(WS sc n1+WS sc n2))=(m+(k+WS sc n2))+(1+WS sc n1) by lia,a3,e]
  |true=>
    rw[hl]at hf;haveI hf:x=a:=Option.some.inj hf;subst hf;cases hi:bT x ws 0 with
   |some i=>
     rw[hi]at hr;haveI hr:ws.drop i++[x]=ring:=Option.some.inj hr;haveI hxs:x∈ws:=by refine Classical.byContradiction fun z=>?_;rw[vq z]at hi;cases hi
     refine⟨[],fun y m=>(List.not_mem_nil m).elim,.nil,fun m=>⟨sn,?_⟩⟩;rw[oA hx,show m+(k+1+WS sc [])=(m+k)+1 by unfold WS;simp;lia];show(match aO sn x with|true=>_|false=>_)=_;rw[lJ.mpr (h1 x hxs).2];dsimp only;rw[hst',hi,<-hr]
   |none=>
     rw[hi]at hr;haveI hxw:x∉ws:=fun m=>by haveI:=AR (u:=x) (S:=ws) (k:=0);rw[hi,lJ.mpr m]at this;cases this
     haveI hxn:x∉sn:=fun m=>hxw (h2 x m hl);cases f with
    |zero=>cases hr
    |succ f=>
      haveI hr:(match(ws++[x]).getLast? with|none=>none|some w=>match(sc w).find? lf with|none=>none|some a=>match bT a (ws++[x]) 0 with|some i=>some ((ws++[x]).drop i++[a])|none=>gl sc lf f (ws++[x]++[a]))=some ring:=hr;rw[List.getLast?_append,show[x].getLast?.or ws.getLast?=some x from rfl]at hr;dsimp only at hr;cases hb:(sc x).find? lf with
     |none=>rw[hb]at hr;cases hr
     |some b=>
       rw[hb]at hr;obtain⟨nw,b1,b2,b3⟩:=ihf f (Nat.lt_succ_self f) (ws++[x]) ((w,p+1)::rs) x b ring hr (hk w hw x hmem) (sc x).length 0 (sn++[x]) (Nat.zero_add _) (by rw[<- hst'];unfold bj;rw[List.map_cons,List.reverse_cons]) hb (fun y m=>by
         rcases List.mem_append.mp m with m|m
         ·exact⟨(h1 y m).1,List.mem_append_left _ (h1 y m).2⟩
         ·cases List.mem_singleton.mp m;exact⟨hl,List.mem_append_right _ (.head _)⟩) fun y m h=>by
         rcases List.mem_append.mp m with m|m
         ·exact List.mem_append_left _ (h2 y m h)
         ·exact List.mem_append_right _ m
       refine⟨x::nw,fun y m=>?_,List.nodup_cons.mpr ⟨fun m=>(b1 x m).2 (List.mem_append_right _ (.head _)),b2⟩,fun m=>?_⟩
       ·rcases List.mem_cons.mp m with rfl|m
        ·exact⟨hk w hw _ hmem,hxn⟩
        ·exact⟨(b1 y m).1,fun z=>(b1 y m).2 (List.mem_append_left _ z)⟩
       ·obtain⟨sn',e⟩:=b3 (m+k);refine⟨sn',?_⟩;rw[oA hx,show WS sc (x::nw)=(sc x).length+WS sc nw from by unfold WS;rw[List.map_cons,List.sum_cons],show m+(k+1+((sc x).length+WS sc nw))=(m+k+((sc x).length+WS sc nw))+1 by lia,ua hxn,e]
theorem E5{kp:Str->Prop}(E:lr sc lf rk)(hk:∀x,kp x->∀y∈sc x,kp y)(hM:∀nw:List Str,nw.Nodup->(∀x∈nw,kp x)->1+WS sc nw<=M)(hl:lf u=false)(hu:kp u)(hs:∀x∈sn,lf x=false):∃sn',dh sc M (u::us) sn=dh sc M us sn'/\∀x∈sn',lf x=false:=by
 cases hm:aO sn u with
|true=>exact⟨sn,yU hm,hs⟩
|false=>
  obtain⟨nw,a1,a2,a3⟩:=vl E hk (rk u+1) u [] sn (Nat.lt_succ_self _) hl hu fun x m=>by cases m
  haveI e:=a3 (M-(1+WS sc nw));rw[Nat.sub_add_cancel (hM nw a2 fun x m=>(a1 x m).1.2)]at e;exact⟨sn++nw,wp hm e,fun x m=>(List.mem_append.mp m).elim (hs x) fun m=>(a1 x m).1.1⟩
theorem EU(hw:gl sc lf (f+1) [u]=some ring):∃b,(sc u).find? lf=some b/\(match bT b [u] 0 with|some i=>some ([u].drop i++[b])|none=>gl sc lf f ([u]++[b]))=some ring:=by
 haveI hw:(match(sc u).find? lf with|none=>none|some a=>match bT a [u] 0 with|some i=>some ([u].drop i++[a])|none=>gl sc lf f ([u]++[a]))=some ring:=hw;cases hb:(sc u).find? lf with
|none=>rw[hb]at hw;cases hw
|some b=>rw[hb]at hw;exact⟨b,rfl,hw⟩
theorem BU{kp:Str->Prop}(E:lr sc lf rk)(hk:∀x,kp x->∀y∈sc x,kp y)(hM:∀nw:List Str,nw.Nodup->(∀x∈nw,kp x)->1+WS sc nw<=M)(hl:lf u=true)(hu:kp u)(hs:∀x∈sn,lf x=false)(hw:gl sc lf f [u]=some ring):dh sc M (u::us) sn=some (some ring):=by
 haveI hn:u∉sn:=fun m=>by rw[hs u m]at hl;cases hl
 cases f with
|zero=>cases hw
|succ f=>
  obtain⟨b,hb,hw⟩:=EU hw;obtain⟨nw,b1,b2,b3⟩:=Gm E hk f [u] [] u b ring hw hu (sc u).length 0 (sn++[u]) (Nat.zero_add _) rfl hb (fun y m=>by cases List.mem_singleton.mp m;exact⟨hl,List.mem_append_right _ (.head _)⟩) fun y m h=>(List.mem_append.mp m).resolve_left fun m=>by rw[hs y m]at h;cases h
  haveI hz:=hM (u::nw) (List.nodup_cons.mpr ⟨fun m=>(b1 u m).2 (List.mem_append_right _ (.head _)),b2⟩) fun x m=>(List.mem_cons.mp m).elim (fun e=>e▸hu) fun m=>(b1 x m).1;rw[show WS sc (u::nw)=(sc u).length+WS sc nw from by unfold WS;rw[List.map_cons,List.sum_cons]]at hz;obtain⟨sn',e⟩:=b3 (M-(1+((sc u).length+WS sc nw)));refine wb (vM hn) (sn':=sn') (e▸?_);rw[<- ua hn,Nat.add_assoc,Nat.add_comm _ 1,Nat.sub_add_cancel hz]
theorem Er{kp:Str->Prop}(E:lr sc lf rk)(hk:∀x,kp x->∀y∈sc x,kp y)(hM:∀nw:List Str,nw.Nodup->(∀x∈nw,kp x)->1+WS sc nw<=M)(us:List Str):∀(sn:List Str)(res:Option (List Str)),(∀u∈us,kp u)->(∀x∈sn,lf x=false)->(match us.find? lf with|none=>res=none|some u=>∃f ring,gl sc lf f [u]=some ring/\res=some ring)->dh sc M us sn=some res:=by
 induction us with
|nil=>intro sn res _ _ h;cases(show res=none from h);rfl
|cons u us ih=>
  intro sn res hu hs h;rw[List.find?_cons]at h;cases hl:lf u with
 |false=> rw[hl]at h;obtain⟨sn',e,hs⟩:=E5 E hk hM (us:=us) hl (hu u (.head _)) hs;rw[e];exact ih sn' res (fun y m=>hu y (.tail _ m)) hs h
 |true=> rw[hl]at h;obtain⟨f,ring,hw,e⟩:=h;rw[e];exact BU E hk hM hl (hu u (.head _)) hs hw
noncomputable def bu(A:Ah)(ns:List Nat):Nat->List Nat
|0=>ns
|n+1=>ce A (bu A ns n)
theorem Fg:∀(l:List Nat)(n:Nat),l.foldl (fun K u_=>ce A K) (bu A ns n)=bu A ns (n+l.length):=by
 intro l
 induction l with
|nil=> intro n;exact rfl
|cons a l ih=> intro n;rw[List.foldl_cons,List.length_cons,show n+(l.length+1)=(n+1)+l.length by lia];exact ih (n+1)
theorem ul:a∈ce A K↔a∈K/\∃x∈K,a∈aA A x:=by
 unfold ce;rw[List.mem_filter];refine and_congr_right fun u_=>?_;rw[Bool.not_eq_true',<-Bool.not_eq_true,List.isEmpty_iff,List.filter_eq_nil_iff];constructor
 ·intro h;refine Classical.byContradiction fun w=>h fun x hx hc=>w ⟨x,hx,List.contains_iff_mem.mp hc⟩
 ·intro o_;obtain⟨x,hx,hc⟩:=o_;intro h;exact h x hx (List.contains_iff_mem.mpr hc)
theorem qW:∀{k:Nat}{a:Nat},a∈bu A ns (n+k)->a∈bu A ns n:=by
 intro k
 induction k with
|zero=> intro _ h;exact h
|succ k ih=> intro _ h;exact ih (ul.mp h).1
theorem KJ:(ce A K).length<=K.length:=List.length_filter_le ..
theorem A3(h:(ce A K).length=K.length):ce A K=K:=by unfold ce at h ⊢;exact List.filter_eq_self.mpr (List.length_filter_eq_length_iff.mp h)
theorem yc:∀n:Nat,ce A (bu A ns n)=bu A ns n\/(bu A ns n).length+n<=ns.length:=@fun a=>match a with
|0=>.inr (Nat.le_refl _)
|n+1=>by
  rcases yc n with h|h
  ·exact .inl (by show ce A (ce A _)=ce A _;rw[h,h])
  ·by_cases q:(ce A (bu A ns n)).length=(bu A ns n).length
   ·exact .inl (by show ce A (ce A _)=ce A _;rw[A3 q,A3 q])
   ·haveI:=KJ (A:=A) (K:=bu A ns n);exact .inr (by show(ce A (bu A ns n)).length+(n+1)<=_;lia)
theorem FL:ce A (bu A ns ns.length)=bu A ns ns.length:=by
 rcases yc (A:=A) (ns:=ns) ns.length with h|h
 ·exact h
 ·haveI:bu A ns ns.length=[]:=List.length_eq_zero_iff.mp (by lia);rw[this];rfl
noncomputable def fG(A:Ah)(ns:List Nat)(a:Nat):Nat:=((List.range (ns.length+1)).filter fun i=>decide (a∈bu A ns i)).length
theorem rW(h:a∉bu A ns i):fG A ns a<=i:=by
 unfold fG;haveI:((List.range (ns.length+1)).filter fun j=>decide (a∈bu A ns j)).Nodup:=List.filter_sublist.nodup List.nodup_range;haveI:=iP (E:=List.range i) this fun j m=>by haveI h2:=of_decide_eq_true (List.mem_filter.mp m).2;rw[List.mem_range];refine Nat.lt_of_not_le fun z=>h ?_;rw[show j=i+(j-i) by lia]at h2;exact qW h2
 rwa [List.length_range]at this
theorem zZ(h:a∈bu A ns i)(hi:i<=ns.length):i < fG A ns a:=by
 unfold fG;haveI:=iP (D:=List.range (i+1)) (E:=(List.range (ns.length+1)).filter fun j=>decide (a∈bu A ns j)) List.nodup_range fun j m=>by haveI hj:=List.mem_range.mp m;refine List.mem_filter.mpr ⟨List.mem_range.mpr (by lia),decide_eq_true ?_⟩;rw[show i=j+(i-j) by lia]at h;exact qW h
 rw[List.length_range]at this;exact this
theorem Bw(ha:a∈ns)(hl:a∉bu A ns ns.length)(hb:a∈aA A b)(hbn:b∈ns):b∉bu A ns ns.length/\fG A ns b < fG A ns a:=by
 have h1:fG A ns a<=ns.length:=rW hl;have h0:=zZ (A:=A) (ns:=ns) (i:=0) (a:=a) ha (Nat.zero_le _);haveI hin:a∈bu A ns (fG A ns a-1):=Classical.byContradiction fun z=>by have:=rW z;lia
 haveI hout:a∉bu A ns (fG A ns a-1+1):=fun z=>by have:=zZ z (by lia);lia
 have hb2:b∉bu A ns (fG A ns a-1):=fun z=>hout (ul.mpr ⟨hin,b,z,hb⟩);refine⟨fun z=>hb2 ?_,?_⟩
 ·rw[show ns.length=(fG A ns a-1)+(ns.length-(fG A ns a-1)) by lia]at z;exact qW z
 ·have:=rW hb2;lia
noncomputable def r5(x:Str):Nat:=x.cps.toList.headD 0
noncomputable def ej(A:Ah)(ns:List Nat)(np:Nat->Int)(x:Str):List Str:=(aT (aM ns np (bP A ns)) x).succ
noncomputable abbrev br(A:Ah)(ns:List Nat):List Nat:=bu A ns ns.length
noncomputable def fZ(A:Ah)(ns:List Nat)(x:Str):Bool:=aO ((br A ns).map sg) x
theorem nj(h:a∈ns):ej A ns np (sg a)=(bP A ns a).map sg:=by unfold ej;rw[jD h]
theorem wi(h:y∈ej A ns np x):∃a∈ns,x=sg a:=by
 unfold ej aT at h;cases q:ad (aM ns np (bP A ns)) x with
|none=>rw[q]at h;exact(List.not_mem_nil h).elim
|some nd=> haveI:=gA q;obtain⟨a,ha,e⟩:=List.mem_map.mp this;exact⟨a,ha,(congrArg Prod.fst e).symm⟩
theorem tF:b∈bP A ns a↔b∈ns/\a∈aA A b:=by
 unfold bP;rw[List.mem_flatMap];constructor
 ·intro o_;obtain⟨y,hy,m⟩:=o_;obtain⟨h1,rfl⟩:=List.mem_replicate.mp m;exact⟨hy,List.count_pos_iff.mp (Nat.pos_of_ne_zero h1)⟩
 ·intro o_;obtain⟨h1,h2⟩:=o_;exact⟨b,h1,List.mem_replicate.mpr ⟨Nat.ne_of_gt (List.count_pos_iff.mpr h2),rfl⟩⟩
theorem rR:fZ A ns (sg a)=decide (a∈br A ns):=by unfold fZ;rw[Bool.eq_iff_iff,lJ,decide_eq_true_iff,List.mem_map];exact⟨fun⟨b,m,e⟩=>AK e▸m,fun m=>⟨a,m,rfl⟩⟩
theorem CB:lr (ej A ns np) (fZ A ns) fun x=>fG A ns (r5 x):=⟨fun x hx y hy=>by obtain⟨a,ha,rfl⟩:=wi hy;rw[nj ha]at hy;obtain⟨b,hb,rfl⟩:=List.mem_map.mp hy;obtain⟨b1,b2⟩:=tF.mp hb;rw[rR]at hx ⊢;obtain⟨h1,h2⟩:=Bw ha (of_decide_eq_false hx) b2 b1;exact⟨decide_eq_false h1,h2⟩⟩
theorem JP:∀{l nw:List Nat},nw.Nodup->(nw.map fun a=>l.count a).sum<=l.length:=by
 intro l
 induction l with
|nil=>
  intro nw _;rw[show(nw.map fun a=>([]:List Nat).count a)=nw.map fun u_=>0 from rfl]
  induction nw with
 |nil=>exact Nat.le_refl _
 |cons a nw ih=>rw[List.map_cons,List.sum_cons,Nat.zero_add];exact ih (List.nodup_cons.mp ‹_›).2
|cons b l ih_=>
  intro nw nd;haveI h1:=ih_ nd;haveI h2:∀{nw:List Nat},nw.Nodup->(nw.map fun a=>(b::l).count a).sum<=(nw.map fun a=>l.count a).sum+1/\(b∉nw->(nw.map fun a=>(b::l).count a).sum=(nw.map fun a=>l.count a).sum):=by
   intro nw
   induction nw with
  |nil=>exact fun u_=>⟨Nat.zero_le _,fun u_=>rfl⟩
  |cons a nw ih=>
    intro nd;obtain⟨n1,n2⟩:=List.nodup_cons.mp nd;obtain⟨i1,i2⟩:=ih n2;rw[List.map_cons,List.sum_cons,List.map_cons,List.sum_cons];by_cases e:a=b
    ·subst e;rw[List.count_cons_self,i2 n1];exact⟨by lia,fun z=>absurd (.head _) z⟩
    ·rw[List.count_cons_of_ne (fun z=>e z.symm)];exact⟨by lia,fun z=>by rw[i2 fun m=>z (.tail _ m)]⟩
  haveI:=(h2 nd).1;rw[List.length_cons];lia
theorem E1{nw:List Nat}(nd:nw.Nodup):∀{l:List Nat},(nw.map fun a=>(bP A l a).length).sum<=(l.map fun y=>(aA A y).length).sum:=by
 intro l
 induction l with
|nil=>
  rw[show(nw.map fun a=>(bP A [] a).length)=nw.map fun u_=>0 from rfl];clear nd
  induction nw with
 |nil=>exact Nat.le_refl _
 |cons a nw ih=>rw[List.map_cons,List.sum_cons,Nat.zero_add];exact ih
|cons y l ih_=>
  haveI e:(nw.map fun a=>(bP A (y::l) a).length).sum=(nw.map fun a=>(aA A y).count a).sum+(nw.map fun a=>(bP A l a).length).sum:=by
   haveI e1:∀a,(bP A (y::l) a).length=(aA A y).count a+(bP A l a).length:=fun a=>by unfold bP;rw[List.flatMap_cons,List.length_append,List.length_replicate]
   clear nd ih_
   induction nw with
  |nil=>rfl
  |cons a nw ih=>rw[List.map_cons,List.sum_cons,List.map_cons,List.sum_cons,List.map_cons,List.sum_cons,ih,e1];lia
  rw[e,List.map_cons,List.sum_cons];haveI:=JP (l:=aA A y) nd;haveI:=ih_;lia
theorem Je(N:dv A ns)(nd:nw.Nodup)(hk:∀x∈nw,∃a∈ns,x=sg a):1+WS (ej A ns np) nw<=100:=by
 haveI e:WS (ej A ns np) nw=((nw.map r5).map fun a=>(bP A ns a).length).sum:=by unfold WS;rw[List.map_map];refine congrArg List.sum (List.map_congr_left fun x m=>?_);obtain⟨a,ha,rfl⟩:=hk x m;rw[nj ha,List.length_map];rfl
 haveI n2:(nw.map r5).Nodup:=by
  clear e
  induction nw with
 |nil=>exact .nil
 |cons x nw ih=> obtain⟨n1,n2⟩:=List.nodup_cons.mp nd;refine List.nodup_cons.mpr ⟨fun m=>n1 ?_,ih n2 fun y m=>hk y (.tail _ m)⟩;obtain⟨y,my,e⟩:=List.mem_map.mp m;obtain⟨a,_,rfl⟩:=hk x (.head _);obtain⟨b,_,rfl⟩:=hk y (.tail _ my);haveI:b=a:=e;rw[<- this];exact my
 haveI h1:=E1 (A:=A) n2 (l:=ns);haveI h2:(ns.map fun y=>(aA A y).length).sum<=ns.length*7:=by
  haveI:∀{l:List Nat},(∀y∈l,(aA A y).length<=7)->(l.map fun y=>(aA A y).length).sum<=l.length*7:=by
   intro l
   induction l with
  |nil=>exact fun u_=>Nat.le_refl _
  |cons a l ih=> intro h;rw[List.map_cons,List.sum_cons,List.length_cons,Nat.succ_mul];haveI:=h a (.head _);haveI:=ih fun y m=>h y (.tail _ m);lia
  exact this N.zs
 haveI:=N.z;rw[e];lia
section
variable{A:Ah}{ns:List Nat}
theorem qF:∀n:Nat,bu A ns n=ns.filter fun y=>decide (y∈bu A ns n):=@fun a=>match a with
|0=>(List.filter_eq_self.mpr fun y m=>decide_eq_true m).symm
|n+1=>by
  have e:=qF n;have e2:ce A (bu A ns n)=ns.filter fun y=>decide (y∈bu A ns n)&&!((bu A ns n).filter fun x=>(aA A x).contains y).isEmpty:=by
   show(bu A ns n).filter _=_
   conv=>lhs;rw[e]
   rw[List.filter_filter];refine List.filter_congr fun y u_=>?_;rw[<- e,Bool.and_comm]
  show ce A (bu A ns n)=_
  conv=>lhs;rw[e2]
  refine List.filter_congr fun y hy=>?_;rw[Bool.eq_iff_iff,decide_eq_true_iff,<-decide_eq_true_iff (p:=y∈bu A ns (n+1))];show _↔decide (y∈ce A (bu A ns n))=true;rw[decide_eq_true_iff]
  conv=>rhs;rw[e2]
  rw[List.mem_filter];exact⟨fun h=>⟨hy,h⟩,fun h=>h.2⟩
theorem wy(m:w∈br A ns):w∈ns:=qW (n:=0) (k:=ns.length) (by rw[Nat.zero_add];exact m)
theorem FJ(h:ns.Nodup):(br A ns).Nodup:=by show(bu A ns ns.length).Nodup;rw[qF ns.length];exact List.filter_sublist.nodup h
theorem wL:[a].Nodup:=List.nodup_cons.mpr ⟨List.not_mem_nil,.nil⟩
theorem Jf(m:w∈br A ns):∃x∈br A ns,w∈aA A x:=by haveI m:w∈bu A ns ns.length:=m;rw[<- FL]at m;exact(ul.mp m).2
theorem E2:∀{l:List Nat},(bP A l w).find? q=l.find? fun y=>q y&&(aA A y).contains w:=by
 intro l
 induction l with
|nil=> exact rfl
|cons y l ih_=>
  unfold bP;rw[List.flatMap_cons,List.find?_append,List.find?_cons];haveI ih:=ih_;unfold bP at ih;rw[ih];cases hq:q y with
 |false=> rw[show(List.replicate ((aA A y).count w) y).find? q=none from List.find?_eq_none.mpr fun z m=>by rw[(List.mem_replicate.mp m).2,hq];exact Bool.false_ne_true];rfl
 |true=>
   cases hc:(aA A y).contains w with
  |true=> haveI:0 < (aA A y).count w:=List.count_pos_iff.mpr (List.contains_iff_mem.mp hc);obtain⟨k,hk⟩:∃k,(aA A y).count w=k+1:=⟨(aA A y).count w-1,by omega⟩;rw[hk,List.replicate_succ,List.find?_cons,hq];rfl
  |false=>
    haveI:(aA A y).count w=0:=List.count_eq_zero.mpr fun m=>by rw[List.contains_iff_mem.mpr m]at hc;cases hc
    rw[this];rfl
theorem DQ(hw:w∈ns):(ej A ns np (sg w)).find? (fZ A ns)=(((br A ns).filter fun x=>(aA A x).contains w).head?).map sg:=by rw[nj hw,List.find?_map,E2];congr 1;rw[show br A ns=ns.filter fun y=>decide (y∈br A ns)from qF ns.length,List.filter_filter,List.head?_filter];congr 1;funext y;show(fZ A ns (sg y)&&_)=_;rw[rR,Bool.and_comm]
theorem Cw:∀{ws:List Nat}{k:Nat},bT (sg a) (ws.map sg) k=(ws.findIdx? (·==a)).map (·+k):=by
 intro ws
 induction ws with
|nil=> intro _;exact rfl
|cons w ws ih=>
  intro k;rw[List.map_cons,List.findIdx?_cons];unfold bT;rw[fJ,show(a==w)=(w==a)from Bool.beq_comm];cases w==a with
 |true=>show some k=some (0+k);rw[Nat.zero_add]
 |false=>
   rw[ih];cases ws.findIdx? (·==a)with
  |none=>rfl
  |some i=>show some (i+(k+1))=some (i+1+k);congr 1;omega
theorem Ki:∀{f:Nat}{ws:List Nat},(∀w∈ws,w∈ns)->gH A (br A ns) f ws=some (some r)->gl (ej A ns np) (fZ A ns) f (ws.map sg)=some (r.map sg):=by
 intro f
 induction f with
|zero=> intro _ _ h;cases h
|succ f ih=>
  intro ws hn h;haveI h:(match ws.getLast? with|none=>some none|some w=>match(br A ns).filter fun x=>(aA A x).contains w with|[]=>none|a::_=>match ws.findIdx? (·==a)with|some i=>some (some (ws.drop i++[a]))|none=>gH A (br A ns) f (ws++[a]))=some (some r):=h;show(match(ws.map sg).getLast? with|none=>none|some w=>match(ej A ns np w).find? (fZ A ns)with|none=>none|some a=>match bT a (ws.map sg) 0 with|some i=>some ((ws.map sg).drop i++[a])|none=>gl (ej A ns np) (fZ A ns) f (ws.map sg++[a]))=_;rw[List.getLast?_map];cases hl:ws.getLast? with
 |none=>rw[hl]at h;cases h
 |some w=>
   rw[hl]at h;haveI hw:w∈ns:=hn w (List.mem_of_getLast? hl);show(match(ej A ns np (sg w)).find? (fZ A ns)with|none=>none|some a=>match bT a (ws.map sg) 0 with|some i=>some ((ws.map sg).drop i++[a])|none=>gl (ej A ns np) (fZ A ns) f (ws.map sg++[a]))=_;rw[DQ hw];dsimp only at h;cases hf:(br A ns).filter fun x=>(aA A x).contains w with
  |nil=>rw[hf]at h;cases h
  |cons a tl=>
    rw[hf]at h;show(match bT (sg a) (ws.map sg) 0 with|some i=>some ((ws.map sg).drop i++[sg a])|none=>gl (ej A ns np) (fZ A ns) f (ws.map sg++[sg a]))=_;rw[Cw];dsimp only at h;haveI ha:a∈ns:=by haveI:a∈br A ns:=(List.mem_filter.mp (show a∈(br A ns).filter fun x=>(aA A x).contains w by rw[hf];exact .head _)).1;exact wy this
    cases hi:ws.findIdx? (·==a)with
   |some i=> rw[hi]at h;cases h;show some ((ws.map sg).drop (i+0)++[sg a])=_;rw[List.map_append,List.map_drop];rfl
   |none=> rw[hi]at h;haveI:=ih (ws:=ws++[a]) (fun y m=>(List.mem_append.mp m).elim (hn y) fun m=>by cases List.mem_singleton.mp m;exact ha) h;rw[List.map_append]at this;exact this
theorem Db:∀{f:Nat}{ws:List Nat},ws≠[]->ws.Nodup->(∀w∈ws,w∈br A ns)->(br A ns).length+1<=f+ws.length->∃r,gH A (br A ns) f ws=some (some r)/\r≠[]/\r.length<=(br A ns).length+1:=by
 intro f
 induction f with
|zero=> intro ws _ nd hs hz;haveI:=iP nd hs;omega
|succ f ih=>
  intro ws hne nd hs hz;obtain⟨l0,w,e⟩:=(List.eq_nil_or_concat ws).resolve_left hne;rw[List.concat_eq_append]at e;haveI hl:ws.getLast?=some w:=by rw[e,List.getLast?_append];rfl
  haveI hw:w∈br A ns:=hs w (by rw[e];exact List.mem_append_right _ (.head _));obtain⟨x,hx,hx2⟩:=Jf hw;cases hf:(br A ns).filter fun x=>(aA A x).contains w with
 |nil=>exact absurd (List.contains_iff_mem.mpr hx2) (List.filter_eq_nil_iff.mp hf x hx)
 |cons a tl=>
   haveI ha:a∈br A ns:=(List.mem_filter.mp (show a∈(br A ns).filter fun x=>(aA A x).contains w by rw[hf];exact .head _)).1;haveI eW:gH A (br A ns) (f+1) ws=match ws.findIdx? (·==a)with|some i=>some (some (ws.drop i++[a]))|none=>gH A (br A ns) f (ws++[a]):=by show(match ws.getLast? with|none=>some none|some w=>match(br A ns).filter fun x=>(aA A x).contains w with|[]=>none|a::_=>match ws.findIdx? (·==a)with|some i=>some (some (ws.drop i++[a]))|none=>gH A (br A ns) f (ws++[a]))=_;rw[hl];dsimp only;rw[hf]
   rw[eW];cases hi:ws.findIdx? (·==a)with
  |some i=>
    refine⟨_,rfl,fun z=>?_,?_⟩
    ·haveI:=congrArg List.length z;rw[List.length_append]at this;cases this
    ·haveI:=iP nd hs;rw[List.length_append,List.length_drop];show _+1<=_;omega
  |none=>
    haveI han:a∉ws:=fun m=>by haveI:=List.findIdx?_eq_none_iff.mp hi a m;simp at this
    refine ih (ws:=ws++[a]) (fun z=>by haveI:=congrArg List.length z;rw[List.length_append]at this;cases this) (List.nodup_append.mpr ⟨nd,wL,fun x m1 y m2 e=>han (by rw[List.mem_singleton.mp m2]at e;exact e▸m1)⟩) (fun y m=>(List.mem_append.mp m).elim (hs y) fun m=>by cases List.mem_singleton.mp m;exact ha) ?_;rw[List.length_append,List.length_singleton];omega
theorem Cm(N:dv A ns):∃res:Option (List Nat),gH A (br A ns) 10 ((br A ns).take 1)=some res/\dh (fun x=>(aT (aM ns np (bP A ns)) x).succ) 100 ((aM ns np (bP A ns)).map (·.1)) []=some (res.map fun r=>r.map sg)/\∀r,res=some r->r≠[]/\r.length<=10:=by
 have hL:∀w∈br A ns,w∈ns:=fun w m=>wy m;have hLn:=FJ (A:=A) N.a.nd;have zL:(br A ns).length<=6:=Nat.le_trans (iP hLn hL) N.z;have hkp:∀x,(∃a∈ns,x=sg a)->∀y∈ej A ns np x,∃a∈ns,y=sg a:=fun x hx y hy=>by obtain⟨a,ha,rfl⟩:=hx;rw[nj ha]at hy;obtain⟨b,hb,rfl⟩:=List.mem_map.mp hy;exact⟨b,(tF.mp hb).1,rfl⟩
 have hfind:(ns.map sg).find? (fZ A ns)=((br A ns).head?).map sg:=by rw[List.find?_map];congr 1;rw[show(br A ns).head?=(ns.filter fun y=>decide (y∈br A ns)).head? from congrArg List.head? (qF ns.length),List.head?_filter];congr 1;funext y;exact rR
 have G:=fun res h=>Er (M:=100) (CB (A:=A) (ns:=ns) (np:=np)) hkp (fun nw n1 n2=>Je N n1 n2) (ns.map sg) [] res (fun u m=>by obtain⟨a,ha,rfl⟩:=List.mem_map.mp m;exact⟨a,ha,rfl⟩) (fun x m=>(List.not_mem_nil m).elim) h;rw[hfind]at G;rw[G9];cases hl:br A ns with
|nil=> rw[hl]at G;exact⟨none,rfl,G none rfl,fun r z=>by cases z⟩
|cons u tl=>
  have hu:u∈br A ns:=by rw[hl];exact .head _
  obtain⟨r,h1,h2,h3⟩:=Db (A:=A) (ns:=ns) (f:=10) (ws:=[u]) (fun z=>by cases z) (wL) (fun w m=>by cases List.mem_singleton.mp m;exact hu) (by show _<=10+1;omega);refine⟨some r,?_,G _ ?_,fun r' e=>by cases e;exact⟨h2,by omega⟩⟩
  ·rw[<- hl,show(br A ns).take 1=[u]from by rw[hl];rfl];exact h1
  ·rw[show(br A ns).head?=some u from by rw[hl];rfl];exact⟨10,r.map sg,Ki (np:=np) (ws:=[u]) (fun w m=>by cases List.mem_singleton.mp m;exact hL u hu) h1,rfl⟩
end
theorem ED:(di.all fun x=>Nat.ble (reprText (sg x)).length aw&&Nat.ble (Str.empty++"node "++reprText (sg x)).length aw&&Nat.ble (mH (sg x)).length aw&&Nat.ble (kQ (sg x)).length aw&&Nat.ble (jt (sg x)).length aw&&ah (kQ (sg x)) (wB x)&&ah (jt (sg x)) (wC x))=true:=by decide +kernel
theorem xt:∀{l:List α}{i:Nat},r∈l.modify i f->r∈l\/∃r0∈l,r=f r0:=@fun a b c=>match a,b,c with
|[],i,m=>by cases i<;>exact .inl m
|x::l,0,m=>(List.mem_cons.mp (show r∈f x::l from m)).elim (fun e=>.inr ⟨x,.head _,e⟩) fun m=>.inl (.tail _ m)
|x::l,i+1,m=>(List.mem_cons.mp (show r∈x::l.modify i f from m)).elim (fun e=>.inl (by rw[e];exact .head _)) fun m=>(xt m).imp (.tail _) fun⟨r0,h1,h2⟩=>⟨r0,.tail _ h1,h2⟩
section
variable{told:Nat}{ns:List Nat}
theorem yx{i:Nat}(h:i < ns.length):ns.getD i 0∈ns:=by rw[List.getD_eq_getElem?_getD,List.getElem?_eq_getElem h];exact List.getElem_mem h
theorem JX{k:Nat}(hk:k < ns.length)(hz:ns.length<=6):(∀a∈cF told ns k,a∈ns)/\(cF told ns k).length<=6:=by refine⟨fun a m=>?_,yd (by lia)⟩;obtain⟨i,hi,rfl⟩:=List.mem_map.mp m;haveI:=List.mem_range.mp (List.mem_filter.mp hi).1;exact yx (by lia)
theorem Ej(hz:ns.length<=6)(h0:0 < ns.length):(kq told ns).length=ns.length/\∀r∈kq told ns,(∀a∈r,a∈ns)/\r.length<=7:=by
 have base:∀r∈(List.range ns.length).map (cF told ns),(∀a∈r,a∈ns)/\r.length<=6:=fun r m=>by obtain⟨k,hk,rfl⟩:=List.mem_map.mp m;exact JX (List.mem_range.mp hk) hz
 unfold kq;cases decide (told / 32768 % 4=3)with
|false=>exact⟨by simp,fun r m=>⟨(base r m).1,Nat.le_succ_of_le (base r m).2⟩⟩
|true=>
  refine⟨by simp,fun r m=>?_⟩;rcases xt m with m|⟨r0,mr,rfl⟩
  ·exact⟨(base r m).1,Nat.le_succ_of_le (base r m).2⟩
  ·refine⟨fun a ha=>?_,by rw[List.length_append];exact Nat.succ_le_succ (base r0 mr).2⟩;rcases List.mem_append.mp ha with ha|ha
   ·exact(base r0 mr).1 a ha
   ·rw[List.mem_singleton.mp ha];exact yx (Nat.mod_lt _ h0)
theorem Kn(nd:ns.Nodup)(hz:ns.length<=6)(h0:0 < ns.length)(hs:∀a∈ns,a∈di):dv (gU told ns) ns:=by
 obtain⟨l1,l2⟩:=Ej (told:=told) hz h0;have hk:(gU told ns).map (·.1)=ns:=List.map_fst_zip (by rw[l1];exact Nat.le_refl _);have hp:∀p∈gU told ns,(∀a∈p.2,a∈ns)/\p.2.length<=7:=fun p m=>l2 p.2 (List.of_mem_zip m).2;have A:fb (gU told ns) ns:=⟨hk,nd,fun p m=>(hp p m).1,Nat.le_trans hz (by decide),fun p m=>Nat.le_trans (hp p m).2 (by decide)⟩;have at_:∀x∈ns,∃p∈gU told ns,aA (gU told ns) x=p.2:=fun x m=>by obtain⟨p,h1,_,h3⟩:=rP (A:=gU told ns) (x:=x) (by rw[hk];exact m);exact⟨p,h1,h3⟩
 have F:∀x∈ns,_:=fun x m=>List.all_eq_true.mp ED x (hs x m);simp only[Bool.and_eq_true]at F;have ne:∀y:Nat,y∉di->∀x∈ns,x≠y:=fun y h x m e=>h (e▸hs x m);exact⟨A,hz,fun x m=>by obtain⟨p,h1,h2⟩:=at_ x m;rw[h2];exact(hp p h1).2,fun x m a ha=>by obtain⟨p,h1,h2⟩:=at_ x m;rw[h2]at ha;exact(hp p h1).1 a ha,ne 124 (by decide),ne 39 (by decide),fun x m=>⟨(F x m).1.1.1.1.1.1,(F x m).1.1.1.1.1.2,(F x m).1.1.1.1.2,(F x m).1.1.1.2,(F x m).1.1.2⟩,fun x m=>bD.mp (F x m).1.2,fun x m=>bD.mp (F x m).2⟩
noncomputable def jh(k:Nat):List Nat:=[97,42,63,91,93,33].take (2+k)
theorem IF(hk:k<=4):(jh k).Nodup/\(jh k).length=2+k/\∀a∈jh k,a∈di:=by unfold jh;refine⟨(List.take_sublist _ _).nodup (by decide),?_,fun a m=>List.mem_of_mem_take m⟩;rw[List.length_take];exact Nat.min_eq_left (by show 2+k<=6;lia)
end
end
section
open PySem PySem.W PyProof.Rows PySem.SeqAt PySem.Builtin.Str
section
variable{e:Ev}{n:Nat}{σ σ₁ au:Sx}{x:Expr}{v:V}{xs:List F}{p:Pos}
theorem wF(hx:SE e n x σ (.ok v σ₁))(hs:sO v σ₁ xs)(hr:cP e n es σ₁ (.ok vs au)):cP e n (.Starred x p::es) σ (.ok (xs.map V.f++vs) au):=fun c i d pos Q pp=>ks_spliced (hx c i d _ fun d' a le ra=>hs c d' a ra _ fun d2 ws y rx=>hr c i d2 pos _ fun d3 us z rs=>pp d3 _ (le.trans (y.trans z)) (FRs.vvs rs (FRs.mono (Gh.Le.z z) rx)))
end
noncomputable def bR(script:List Int):List Nat:=(script.take 16).map fun i=>(i % 10000000000).toNat
noncomputable def vB(script:List Int):Nat:=1+((bR script).map fun n=>n / 200).sum
noncomputable def ed(script:List Int):List Nat:=jh (bR script |>.take 4).length
noncomputable def jx(script:List Int):Ah:=gU (vB script) (ed script)
noncomputable abbrev qT:List (Str×NameKind):=[("script",.local),("numbers",.local),("names",.cell),("ahead",.local),("reads",.local),("ring",.local),("x",.local),("y",.local),("early",.local),("sorter",.cell),("len",.globalImplicit),("_law_steps",.globalImplicit),("sum",.globalImplicit),("_law_reads",.globalImplicit),("_law_ring",.globalImplicit),("TopologicalSorter",.globalImplicit),("_law_words",.globalImplicit),("_law_obeys",.globalImplicit)]
theorem ro:ci (bp "law") ["script"] none qT:=⟨by kernel_rfl,by kernel_rfl,by kernel_rfl⟩
section
variable{n:Nat}{σ:Sx}{script:List Int}
theorem wT{k:Nat}:cut xs none (some (k:Int))=xs.take k:=by
 show(xs.take (Nat.min k xs.length)).drop 0=_;rw[List.drop_zero];rcases Nat.le_total k xs.length with h|h
 ·rw[show Nat.min k xs.length=k from Nat.min_eq_left h]
 ·rw[show Nat.min k xs.length=xs.length from Nat.min_eq_right h,List.take_length,List.take_of_length_le h]
theorem tP{k:Nat}(hi:i=(k:Int))(hz:Nat.ble xs.length aw=true):hH (.f (.list xs)) none (some (.f (.int i))) σ (.ok (.f (.list (xs.take k))) σ):=by subst hi;haveI:=j8 (σ:=σ) (xs:=xs) (a:=none) (b:=some (.f (.int (k:Int)))) (l:=none) (u:=some (k:Int)) rfl rfl .f hz;rw[wT]at this;exact this
theorem Ka{k:Nat}(hi:i=(k:Int))(hz:Nat.ble xs.length aw=true):hH (.f (.list xs)) (some (.f (.int i))) none σ (.ok (.f (.list (xs.drop k))) σ):=by subst hi;haveI:=j8 (σ:=σ) (xs:=xs) (a:=some (.f (.int (k:Int)))) (b:=none) (l:=some (k:Int)) (u:=none) rfl rfl .f hz;rw[jp]at this;exact this
theorem r6(hz:ns.length<=6)(hs:∀a∈ns,(sc a).length<=90):Sm 100 (aM ns np sc):=⟨by rw[wG];lia,fun y nd h=>by obtain⟨a,ha,e⟩:=List.mem_map.mp (gA h);cases(e);show((sc a).map sg).length<=100;rw[List.length_map];exact Nat.le_trans (hs a ha) (by decide)⟩
structure kO(A:Ah)(R:Rd)(ns nb:List Nat)(res:Option (List Nat))(l:List (Str×V)):Prop where
 m:ad l "numbers"=some (.f (.list (nb.map fun(m:Nat)=>F.int (m:Int))))
 n:ad l "names"=some (.f (.str (tx ns)))
 a:ad l "ahead"=some (.f (.dict (bg A)))
 r:ad l "reads"=some (.f (.dict (bJ R)))
 g:ad l "ring"=some (jM (res.map fun r=>r.map sg))
 s:ad l "sorter"=some (.p .self)
theorem kO.put(h:kO A R ns nb res l)(h1:((ah "numbers" y||ah "names" y||ah "ahead" y)||(ah "reads" y||ah "ring" y||ah "sorter" y))=false):kO A R ns nb res (ag l y v):=by obtain⟨a,b⟩:=Bool.or_eq_false_iff.mp h1;obtain⟨a,a3⟩:=Bool.or_eq_false_iff.mp a;obtain⟨a1,a2⟩:=Bool.or_eq_false_iff.mp a;obtain⟨b,b3⟩:=Bool.or_eq_false_iff.mp b;obtain⟨b1,b2⟩:=Bool.or_eq_false_iff.mp b;exact⟨(aj a1).trans h.m,(aj a2).trans h.n,(aj a3).trans h.a,(aj b1).trans h.r,(aj b2).trans h.g,(aj b3).trans h.s⟩
noncomputable abbrev lA(st:Nat)(l:List (Str×V))(N:List (Str×aZ)):Sx:=⟨l,some ⟨N,none,0,0,none⟩,[],st⟩
structure Dj(A:Ah)(R:Rd)(ns nb:List Nat)(res:Option (List Nat))(ps:List Str)(l:List (Str×V))(N:List (Str×aZ)):Prop where
 k:kO A R ns nb res l
 d:∃done L,ps=L.map sg/\done++L=ns/\N=aM done (fun u_=>0) fun u_=>[]
structure IJ(A:Ah)(R:Rd)(ns nb:List Nat)(res:Option (List Nat))(ps:List Str)(l:List (Str×V))(N:List (Str×aZ)):Prop where
 k:kO A R ns nb res l
 d:∃done L,ps=L.map sg/\done++L=ns/\N=done.foldl (jq A) (aM ns (fun u_=>0) fun u_=>[])
theorem FO:∀{l:List α},((l.map fun u_=>false).any id != false)=false:=by
 intro l
 induction l with
|nil=> exact rfl
|cons _ l ih=> exact ih
theorem JS(h:∀p∈R,p.2≠[]):aQ .In (.f (.list [])) (.dview (bJ R)) σ false:=by haveI:=FS (σ:=σ) (neg:=false) (JB (n:=5) h);rw[FO]at this;exact this
noncomputable abbrev kR:F:=.list [.str "prepare() must be called first",.str "prepare() must be called first",.str "prepare() must be called first"]
theorem JR:aQ .NotEq (.f kR) (.f kR) σ false:=bS (neg:=true) (ij (n:=5) (mY (xs:=["prepare() must be called first","prepare() must be called first","prepare() must be called first"])))
theorem vL:aQ .NotEq (jM r) (jM r) σ false:=by
 cases r with
|none=>exact bS (neg:=true) sT
|some r=>haveI:=bS (σ:=σ) (neg:=true) (ij (n:=5) (mY (n:=5) (xs:=r)));rw[tU]at this;exact this
theorem Br:97∈jh k/\42∈jh k:=by unfold jh;rw[Nat.add_comm];exact⟨.head _,.tail _ (.head _)⟩
theorem Dr:(∀x∈fH m ns,x∈ns\/x=39)/\(fH m ns).length<=10:=by
 haveI h1:∀{i:Nat}{x:Nat},x∈((ns++[39]).drop i).take 1->x∈ns\/x=39:=fun h=>by
  rcases List.mem_append.mp (List.mem_of_mem_drop (List.mem_of_mem_take h))with h|h
  ·exact .inl h
  ·exact .inr (List.mem_singleton.mp h)
 unfold fH
 split
 ·exact⟨fun x m=>(List.not_mem_nil m).elim,Nat.zero_le _⟩
 ·refine⟨fun x m=>(List.mem_append.mp m).elim h1 h1,?_⟩;rw[List.length_append,List.length_take,List.length_take];lia
theorem J8{nb ns:List Nat}(h:97∈ns/\42∈ns):∀L∈nb.map (fun m=>fH (m % 200) ns)++[[],[97,42],[],[42,39]],(∀x∈L,x∈ns\/x=39)/\L.length<=10:=fun L m=>by
 rcases List.mem_append.mp m with m|m
 ·obtain⟨k,_,rfl⟩:=List.mem_map.mp m;exact Dr
 ·simp only[List.mem_cons,List.not_mem_nil,or_false]at m;rcases m with rfl|rfl|rfl|rfl
  ·exact⟨fun x m=>(List.not_mem_nil m).elim,Nat.zero_le _⟩
  ·refine⟨fun x m=>?_,by decide⟩;simp only[List.mem_cons,List.not_mem_nil,or_false]at m;rcases m with rfl|rfl
   ·exact .inl h.1
   ·exact .inl h.2
  ·exact⟨fun x m=>(List.not_mem_nil m).elim,Nat.zero_le _⟩
  ·refine⟨fun x m=>?_,by decide⟩;simp only[List.mem_cons,List.not_mem_nil,or_false]at m;rcases m with rfl|rfl
   ·exact .inl h.2
   ·exact .inr rfl
theorem FU:ds .Pow (.f (.int 10)) (.f (.int 10)) σ (.ok (.f (.int 10000000000)) σ):=w5 (i:=10) (j:=10) rfl rfl rfl rfl
theorem BN:ds .Mod (.f (.int i)) (.f (.int 10000000000)) σ (.ok (.f (.int (i % 10000000000))) σ):=by haveI:=A0 (σ:=σ) (i:=i) (j:=10000000000) (by decide);rw[Int.fmod_eq_emod_of_nonneg _ (by lia)]at this;exact this
theorem Ff:((script.take 16).filter fun u_=>true).map (fun i=>F.int (i % 10000000000))=(bR script).map fun(m:Nat)=>F.int (m:Int):=by rw[gB];unfold bR;rw[List.map_map];refine List.map_congr_left fun i u_=>?_;show F.int _=F.int (((i % 10000000000).toNat:Nat):Int);rw[Int.toNat_of_nonneg (Int.emod_nonneg _ (by decide))]
theorem Ja:(bR script).length<=16:=by unfold bR;rw[List.length_map,List.length_take];exact Nat.min_le_left ..
theorem CZ:∀{l:List Nat}{a:Nat},lV (l.map fun(m:Nat)=>F.int (m:Int)) (a:Int)=some ((a+l.sum:Nat):Int):=by
 intro l
 induction l with
|nil=> intro a;exact rfl
|cons x l ih=> intro a;rw[List.map_cons,List.sum_cons];show lV (l.map fun(m:Nat)=>F.int (m:Int)) ((a:Int)+(x:Int))=_;rw[show(a:Int)+(x:Int)=((a+x:Nat):Int)from rfl,ih,Nat.add_assoc]
set_option maxHeartbeats 1000000 in
set_option tactic.hygienic true in
theorem Dl(hz:script.length<=63):EB ⟨qT,[]⟩ (n+5) (bp "law").body ⟨[("script",.f (.list (script.map F.int)))],none,[],σ.st⟩ fun r=>∃r',dC false σ r r'/\∃q' st',r'=.ok (.f (.bool true)) {σ with q:=q',st:=st'}:=by
 refine' aC ?g1 ?_
 case g1=>
  with_reducible refine' tw (xs:=script.take 16) (item:=fun i=>.f (.int i)) (keep:=fun u_=>true) (val:=fun i=>.int (i % 10000000000)) (ys:=(bR script).map fun(m:Nat)=>F.int (m:Int)) ?a1 ?a2 ?a3 ?a4 dc ?a5 ⟨?a6,?a7,?a8⟩ ?a9 ?a10
  case a1=>exact .loc rfl
  case a2=>exact fun u_ u_=>rfl
  case a3=>exact .of rfl
  case a4=>exact cR (ae (.loc rfl rfl)) er (cc aL) (tP (k:=16) rfl (by rw[List.length_map];exact bA hz (by decide)))
  case a5=>exact fun i τ h=>fy (f:=F.int) List.map_take.symm i τ
  case a6=>exact fun u_ u_ u_=>gK
  case a7=>exact fun i hi u_ acc=>aR (ae (.loc rfl rfl)) (aR aL aL FU) BN
  case a8=>rw[List.length_take];exact Nat.le_trans (Nat.min_le_left ..) (by decide)
  case a9=>rfl
  case a10=>exact Ff
 have hzN:=Ja (script:=script);have hk4:((bR script).take 4).length<=4:=by rw[List.length_take];exact Nat.min_le_left ..
 have eS:dH "a*?[]!" none (some ((2+((bR script).take 4).length:Nat):Int))=tx (ed script):=by unfold dH;rw[wT];rfl
 have nx:∀i τ,bw ((bR script).map fun(m:Nat)=>F.int (m:Int)) i τ=some ((bR script)[i]?.map fun(m:Nat)=>V.f (.int (m:Int))):=fun i τ=>fy (f:=fun(m:Nat)=>F.int (m:Int)) rfl i τ;have zL:∀{l:List Nat},l.length<=16->Nat.ble (l.map fun(m:Nat)=>F.int (m:Int)).length aw=true:=fun h=>by rw[List.length_map];exact bA h (by decide)
 have L4:∀τ,cX (.builtin "len") [.f (.list (((bR script).map fun(m:Nat)=>F.int (m:Int)).take 4))] τ (.ok (.f (.int (((bR script).take 4).length:Int))) τ):=fun τ=>by rw[<- List.map_take];have:=kM (σ:=τ) (xs:=((bR script).take 4).map fun(m:Nat)=>F.int (m:Int)) .f (zL (by lia));rw[List.length_map]at this;exact this
 have Z10:∀τ,hH (.f (.str "a*?[]!")) none (some (.f (.int (2+(((bR script).take 4).length:Int))))) τ (.ok (.f (.str (tx (ed script)))) τ):=fun τ=>by have:=gN (σ:=τ) (t:="a*?[]!") (a:=none) (b:=some (.f (.int ((2+((bR script).take 4).length:Nat):Int)))) (l:=none) (u:=some ((2+((bR script).take 4).length:Nat):Int)) rfl rfl rfl;rw[eS]at this;exact this
 obtain⟨nm1,nm2,nm3⟩:=IF hk4;change (ed script).Nodup at nm1;change (ed script).length=_ at nm2;change ∀a∈ed script,a∈di at nm3;have hA:dv (jx script) (ed script):=Kn nm1 (by lia) (by lia) nm3;have T1:∀τ,cX (.builtin "sum") [.f (.list ((bR script).map fun(m:Nat)=>F.int ((m / 200:Nat):Int)))] τ (.ok (.f (.int ((((bR script).map fun n=>n / 200).sum:Nat):Int))) τ):=fun τ=>by have:=CZ (l:=(bR script).map fun n=>n / 200) (a:=0);rw[List.map_map,Nat.zero_add]at this;exact Ez .f this
 have KS:∀τ,bo (n+5) 0 [.f (.int (1+((((bR script).map fun n=>n / 200).sum:Nat):Int))),.f (.str (tx (ed script)))] τ (.ok (.f (.dict (bg (jx script)))) τ):=fun τ=>Em (n:=n+4) (told:=vB script) nm1 (by lia) (by lia)
 with_reducible refine' aC (aS (rx:=.ok _ _) ?b1 ?b2 (cR aJ er (cc (aR aL (bf ?b3 ?b4 (ai ?b5 (cR (ae ?b6) er (cc aL) ?b7) an) (cx ?b8 ?b9)) eB)) ?b10)) ?_
 case b1=>exact .cell rfl
 case b2=>rfl
 case b3=>exact .glob rfl rfl
 case b4=>rfl
 case b5=>rfl
 case b6=>exact .loc rfl aF
 case b7=>exact tP (k:=4) rfl (zL hzN)
 case b8=>exact .head _
 case b9=>exact L4 _
 case b10=>exact Z10 _
 with_reducible refine' aC (aS (rx:=.ok _ _) ?c1 ?c2 (bf ?c3 ?c4 (ai ?c5 (aR aL (bf ?c6 ?c7 (ai ?c8 (iw (xs:=bR script) (item:=fun(m:Nat)=>.f (.int (m:Int))) (keep:=fun u_=>true) (val:=fun(m:Nat)=>.int ((m / 200:Nat):Int)) (ys:=(bR script).map fun(m:Nat)=>F.int ((m / 200:Nat):Int)) ?c9 ?c10 (ae ?c11) dc (fun i τ h=>nx i τ) ⟨?c12,?c13,?c14⟩ ?c15 ?c16) an) (cx ?c17 (T1 _))) eB) (ai ?c18 (ae ?c19) an)) (dD (nm:="_law_steps") ?c20 ?c21 (KS _)))) ?_
 case c1=>exact .loc rfl
 case c3=>exact .glob rfl rfl
 case c6=>exact .glob rfl rfl
 case c9=>exact fun u_ u_=>rfl
 case c10=>exact .of rfl
 case c11=>exact .loc rfl ((aj rfl).trans aF)
 case c12=>exact fun u_ u_ u_=>gK
 case c13=>exact fun a ha u_ acc=>aR (ae (.loc rfl rfl)) aL (nG (b:=200) rfl (by decide) (by decide))
 case c14=>lia
 case c16=>rw[gB]
 case c17=>decide +kernel
 case c19=>exact .cell rfl aF
 case c2=>rfl
 case c4=>rfl
 case c5=>rfl
 case c7=>rfl
 case c8=>rfl
 case c15=>rfl
 case c18=>rfl
 case c20=>rfl
 case c21=>rfl
 haveI hz2:∀p∈jx script,p.2.length<=7:=fun p hp=>by have:=hA.zs p.1 (by rw[<- hA.a.keys];exact List.mem_map.mpr ⟨p,hp,rfl⟩);rw[tZ (by rw[hA.a.keys];exact nm1) hp]at this;exact this
 haveI hR:=Dn hA.a nm3;obtain⟨res,w1,w2,w3⟩:=Cm (np:=bK (jx script) [] []) hA;haveI hLf:(ed script).foldl (fun K u_=>ce (jx script) K) (ed script)=br (jx script) (ed script):=by have:=Fg (A:=jx script) (ns:=ed script) (ed script) 0;rw[Nat.zero_add]at this;exact this
 haveI LN:∀τ,cX (.builtin "len") [.f (.list ((bR script).map fun(m:Nat)=>F.int (m:Int)))] τ (.ok (.f (.int ((bR script).length:Int))) τ):=fun τ=>by have:=kM (σ:=τ) (xs:=(bR script).map fun(m:Nat)=>F.int (m:Int)) .f (zL hzN);rw[List.length_map]at this;exact this
 haveI KD:∀m∈bR script,∀τ,bo (n+5) 1 [.f (.int ((m % 200:Nat):Int)),.f (.str (tx (ed script)))] τ (.ok (.f (aH ((fH (m % 200) (ed script)).map sg))) τ):=fun m u_ τ=>IW (n:=n+4) (Nat.mod_lt _ (by decide)) (by lia) fun a ha=>(show ∀a∈di,a < 128 by decide) a (nm3 a ha);generalize hAh:jx script=A at *;generalize hns:ed script=ns at *;generalize hnb:bR script=nb at *;clear Z10 L4 T1 KS eS hk4;generalize hst:σ.st=st0;change EB _ _ _ ⟨[("script",.f (.list (script.map F.int))),("numbers",.f (.list (nb.map fun(m:Nat)=>F.int (m:Int)))),("names",.f (.str (tx ns))),("ahead",.f (.dict (bg A)))],none,[],st0⟩ _;obtain⟨rr,KR,st1,rfl⟩:=D1 (n:=n) (σ:=⟨[("script",.f (.list (script.map F.int))),("numbers",.f (.list (nb.map fun(m:Nat)=>F.int (m:Int)))),("names",.f (.str (tx ns))),("ahead",.f (.dict (bg A)))],none,[],st0⟩) (m:=nb.length) hA.a nm3 hA.z hz2
 with_reducible refine' aC (aS (rx:=.ok _ _) ?d1 ?d2 (bf ?d3 ?d4 (ai ?d5 (ae ?d6) (ai ?d7 (bf ?d8 ?d9 (ai ?d10 (ae ?d11) an) (cx ?d12 (LN _))) an)) (dD (nm:="_law_reads") ?d13 ?d14 KR))) ?_
 case d1=>exact .loc rfl
 case d3=>exact .glob rfl rfl
 case d6=>exact .loc rfl rfl
 case d8=>exact .glob rfl rfl
 case d11=>exact .loc rfl rfl
 case d12=>exact .head _
 case d2=>rfl
 case d4=>rfl
 case d5=>rfl
 case d7=>rfl
 case d9=>rfl
 case d10=>rfl
 case d13=>rfl
 case d14=>rfl
 haveI KG:∀τ,bo (n+5) 2 [.f (.dict (bg A))] τ (.ok (jM (res.map fun r=>r.map sg)) τ):=fun τ=>Ks (n:=n+4) (M:=10) hA.a hLf (by decide) w1
 with_reducible refine' aC (aS (rx:=.ok _ _) ?f1 ?f2 (bf ?f3 ?f4 (ai ?f5 (ae ?f6) an) (dD (nm:="_law_ring") ?f7 ?f8 (KG _)))) ?_
 case f1=>exact .loc rfl
 case f3=>exact .glob rfl rfl
 case f6=>exact .loc rfl rfl
 case f2=>rfl
 case f4=>rfl
 case f5=>rfl
 case f7=>rfl
 case f8=>rfl
 with_reducible refine' aC (aS (rx:=.ok _ _) ?h1 ?h2 (bf ?h3 ?h4 an (vJ ?h5 (HE ?h6)))) ?_
 case h1=>exact .cell rfl
 case h3=>exact .glob rfl rfl
 case h5=>exact .inl rfl
 case h6=>rfl
 case h2=>rfl
 case h4=>rfl
 have eK:((bg A).map (·.1)).map F.str=(ns.map sg).map F.str:=by unfold bg;rw[List.map_map,List.map_map,<-hA.a.keys,List.map_map,List.map_map];rfl
 have itA:∀τ,bX (.f (.dict (bg A))) τ (bw ((ns.map sg).map F.str)):=fun τ=>eK▸oZ;have zns:=hA.z;refine' l8 (S:=List (Str×aZ)) (enc:=lA st1) (l:=[("script",.f (.list (script.map F.int))),("numbers",.f (.list (nb.map fun(m:Nat)=>F.int (m:Int)))),("names",.f (.str (tx ns))),("ahead",.f (.dict (bg A))),("reads",.f (.dict (bJ (gh A)))),("ring",jM (res.map fun r=>r.map sg)),("sorter",.p .self)]) (s:=[]) (fun u_ u_ u_=>rfl) (ps:=ns.map sg) (J:=Dj A (gh A) ns nb res) (v:=.f (.dict (bg A))) ?i1 ?i2 (itA _) ?i3 ⟨⟨rfl,rfl,rfl,rfl,rfl,rfl⟩,[],ns,rfl,rfl,rfl⟩ ?i4 ?i5
 case i1=>exact ae (.loc rfl rfl)
 case i2=>exact fun u_ u_=>rfl
 case i3=>exact .loc rfl
 case i5=>
  intro p ps l N o_;obtain⟨K,done,L,e1,e2,rfl⟩:=o_;cases L with
 |nil=>cases e1
 |cons y L=>
   cases(e1);haveI hn:y∉done:=fun m=>by rw[<- e2]at nm1;exact(List.nodup_append.mp nm1).2.2 y m y (.head _) rfl
   have zd:done.length<=6:=by have:=congrArg List.length e2;rw[List.length_append]at this;lia
   have KA:=sy (n:=n+3) (σ:=lA st1 (ag l "x" (.f (.str (sg y)))) (aM done (fun u_=>0) fun u_=>[])) (x:=sg y) (ps:=[]) (k:=100) rfl (r6 zd fun a u_=>Nat.zero_le _) (by decide);rw[Aq hn]at KA;exact aC (fu (rx:=.ok _ _) (ba (fun u_=>rfl) rfl rfl (ae (.cell rfl ((aj rfl).trans K.s))) (dE rfl (.head _) rfl (ai rfl (ae (.loc rfl aF)) an) KA)) rfl) (aD ⟨_,_,rfl,K.put rfl,done++[y],L,rfl,by rw[List.append_assoc];exact e2,rfl⟩)
 case i4=>
  intro l N o_;obtain⟨K,done,L,e1,e2,rfl⟩:=o_;cases L with
 |cons _ _=>cases e1
 |nil=>
  rw[List.append_nil]at e2;rw[e2];refine' l8 (S:=List (Str×aZ)) (enc:=lA st1) (l:=l) (s:=aM ns (fun u_=>0) fun u_=>[]) (fun u_ u_ u_=>rfl) (ps:=ns.map sg) (J:=IJ A (gh A) ns nb res) (v:=.f (.dict (bg A))) ?j1 ?j2 (itA _) ?j3 ⟨K,[],ns,rfl,rfl,rfl⟩ ?j4 ?j5
  case j1=>exact ae (.loc rfl K.a)
  case j2=>exact fun u_ u_=>rfl
  case j3=>exact .loc rfl
  case j5=>
   clear K e1;intro p ps l N o_;obtain⟨K,done,L,e1,e2,rfl⟩:=o_;cases L with
  |nil=>cases e1
  |cons y L=>
    cases(e1);have hy:y∈ns:=by rw[<- e2];exact List.mem_append_right _ (.head _)
    have hdn:done.Nodup/\∀a∈done,a∈ns:=⟨by rw[<- e2]at nm1;exact(List.nodup_append.mp nm1).1,fun a m=>by rw[<- e2];exact List.mem_append_left _ m⟩;have zd:done.length<=6:=by have:=congrArg List.length e2;rw[List.length_append]at this;lia
    have eN:=xm (A:=A) (np:=fun u_=>0) (sc:=fun u_=>[]) nm1 hA.sub hdn.1 hdn.2;have zsc:∀a,(([]:List Nat)++done.flatMap fun y=>List.replicate ((aA A y).count a) y).length<=42:=fun a=>by rw[List.nil_append];have:=wE (c:=fun y=>(aA A y).count a) (L:=done) fun y m=>Nat.le_trans List.count_le_length (hA.zs y (hdn.2 y m));lia
    haveI za:=hA.zs y hy;have hlk:ad (bg A) (sg y)=some (.list ((aA A y).map fun a=>F.str (sg a))):=by rw[<- rH];exact rQ (by rw[hA.a.keys];exact hy)
    have zB:Nat.ble ((aA A y).map fun a=>F.str (sg a)).length aw=true:=by rw[List.length_map];exact bA za (by decide)
    have vv:∀q:List Nat,(q.map sg).map (fun p=>V.f (.str p))=(q.map fun a=>F.str (sg a)).map V.f++[]:=fun q=>by rw[List.append_nil,List.map_map,List.map_map];rfl
    have K1:=sy (n:=n+3) (σ:=lA st1 (ag l "y" (.f (.str (sg y)))) (done.foldl (jq A) (aM ns (fun u_=>0) fun u_=>[]))) (x:=sg y) (ps:=((aA A y).take 1).map sg) (k:=100) rfl (by rw[eN];exact r6 zns fun a u_=>Nat.le_trans (zsc a) (by decide)) (by rw[List.length_map,List.length_take];lia);have K2:=sy (n:=n+3) (σ:=lA st1 (ag l "y" (.f (.str (sg y)))) (ig (done.foldl (jq A) (aM ns (fun u_=>0) fun u_=>[])) (sg y) (((aA A y).take 1).map sg))) (x:=sg y) (ps:=((aA A y).drop 1).map sg) (k:=100) rfl (by rw[eN,sR nm1 hy fun p m=>hA.sub y hy p (List.mem_of_mem_take m)];refine r6 zns fun a u_=>?_;have:=zsc a;rw[List.length_append,List.length_replicate];have:=List.count_le_length (a:=a) (l:=(aA A y).take 1);rw[List.length_take]at this;lia) (by rw[List.length_map,List.length_drop];lia)
    rw[vv,List.map_take]at K1;rw[vv,List.map_drop]at K2;have hy':ad (ag l "y" (.f (.str (sg y)))) "y"=some (.f (.str (sg y))):=aF;have K':kO A (gh A) ns nb res (ag l "y" (.f (.str (sg y)))):=K.put rfl;show EB _ _ _ (lA st1 (ag l "y" (.f (.str (sg y)))) _) _;generalize ag l "y" (.f (.str (sg y)))=l at K1 K2 hy' K' ⊢;refine aC (fu (rx:=.ok _ _) (ba (fun u_=>rfl) rfl rfl (ae (.cell rfl K'.s)) (dE rfl (.head _) rfl (ai rfl (ae (.loc rfl hy')) (wF (cR (bh (ae (.loc rfl K'.a)) (ae (.loc rfl hy')) (fM .f hlk)) er (cc aL) (tP (k:=1) rfl zB)) (tV .f ?m1) an)) K1)) rfl) ?_
    case m1=>rw[List.length_take];exact bA (k:=1) (Nat.min_le_left ..) (by decide)
    refine aC (fu (rx:=.ok _ _) (ba (fun u_=>rfl) rfl rfl (ae (.cell rfl K'.s)) (dE rfl (.head _) rfl (ai rfl (ae (.loc rfl hy')) (wF (cR (bh (ae (.loc rfl K'.a)) (ae (.loc rfl hy')) (fM .f hlk)) (cc aL) er (Ka (k:=1) rfl zB)) (tV .f ?m2) an)) K2)) rfl) (aD ⟨_,_,rfl,K',done++[y],L,rfl,by rw[List.append_assoc];exact e2,?m3⟩)
    case m2=>rw[List.length_drop,List.length_map];exact bA (k:=7) (by lia) (by decide)
    case m3=>rw[List.foldl_append];rfl
  case j4=>
   clear K e1;intro l N o_;obtain⟨K,done,L,e1,e2,rfl⟩:=o_;cases L with
  |cons _ _=>cases e1
  |nil=>
    rw[List.append_nil]at e2;have eN:ns.foldl (jq A) (aM ns (fun u_=>0) fun u_=>[])=aM ns (bK A [] []) (bP A ns):=by have e0:=vI (L:=ns) (done:=[]) nm1;rw[List.nil_append]at e0;have:=Jw hA;rw[show([]:List (Str×aZ))=aM [] (fun u_=>0) (fun u_=>[])from rfl,e0]at this;exact this
    rw[e2,eN];clear eN e2 itA eK;have hpr:∀e' af,({q:=some ⟨aM ns (bK A [] []) (bP A ns),none,0,0,none⟩,l:=e',h:=[],st:=af}:Sx).q=some ⟨aM ns (bK A [] []) (bP A ns),none,0,0,none⟩:=fun u_ u_=>rfl;generalize hN:aM ns (bK A [] []) (bP A ns)=N at *;have hfr:∀m∈[("sorter":Str)],∃w,ad (bG ⟨qT,[]⟩ l [("sorter",.free)]) m=some w/\seen false w=true:=fun m h=>by cases List.mem_singleton.mp h;exact⟨_,ia (.inl ⟨rfl,K.s⟩) rfl,rfl⟩
    with_reducible refine' aC (aS (rx:=.ok _ _) ?o1 ?o2 (bq (ai ?o3 (jz ["sorter"] ?o4 ?o5 ?o6 ?o7 ?o8 ?o9 ?o10) (ai ?o11 (jz ["sorter"] ?o12 ?o13 ?o14 ?o15 ?o16 ?o17 ?o18) (ai ?o19 (jz ["sorter"] ?o20 ?o21 ?o22 ?o23 ?o24 ?o25 ?o26) an))) ?o27 ?o28)) ?_
    case o1=>exact .loc rfl
    case o2=>rfl
    case o3=>rfl
    case o4=>exact .glob rfl rfl
    case o5=>rfl
    case o6=>rfl
    case o7=>rfl
    case o8=>exact hfr
    case o9=>exact ba (fun u_=>rfl) rfl rfl (ae (iS rfl rfl rfl K.s)) (dE rfl (.tail _ (.tail _ (.head _))) rfl an (Jc rfl))
    case o10=>exact .exc _ (fun z=>by cases z)
    case o11=>rfl
    case o12=>exact .glob rfl rfl
    case o13=>rfl
    case o14=>rfl
    case o15=>rfl
    case o16=>exact hfr
    case o17=>exact ba (fun u_=>rfl) rfl rfl (ae (iS rfl rfl rfl K.s)) (dE rfl (.tail _ (.tail _ (.tail _ (.head _)))) rfl an (Gb rfl))
    case o18=>exact .exc _ (fun z=>by cases z)
    case o19=>rfl
    case o20=>exact .glob rfl rfl
    case o21=>rfl
    case o22=>rfl
    case o23=>rfl
    case o24=>exact hfr
    case o25=>exact ba (fun u_=>rfl) rfl rfl (ae (iS rfl rfl rfl K.s)) (dE rfl (.tail _ (.tail _ (.tail _ (.tail _ (.head _))))) rfl (ai rfl aJ (ai rfl aJ an)) (Ib (ps:=["'","a"]) rfl (by decide)))
    case o26=>exact .exc _ (fun z=>by cases z)
    case o27=>rfl
    case o28=>rfl
    have he:ad (ag l "early" (.f kR)) "early"=some (.f kR):=aF;have K:kO A (gh A) ns nb res (ag l "early" (.f kR)):=K.put rfl;show EB _ _ _ ⟨ag l "early" (.f kR),some ⟨N,none,0,0,none⟩,[],st1⟩ _;generalize ag l "early" (.f kR)=l at K he ⊢;haveI hv:∀p∈gh A,p.2≠[]:=Fc fun p m=>by cases m
    refine bM (dZ (eZ (az rfl (bq an rfl rfl) (ba (fun u_=>rfl) rfl rfl (ae (.loc rfl K.r)) (bL (JF .f PySem.F.slot_dict_values PySem.F.type_dict_values) rfl an BQ.up)) (JS hv)) (eZ (az rfl (ae (.loc rfl he)) (aR (bq (ai rfl aJ an) rfl rfl) aL (IV rfl rfl rfl)) JR) kL))) (aD ?_);have zN:N.length<=6:=by rw[<- hN,wG];exact zns
    have hS:∀x y,(ad N x).isSome=true->y∈(aT N x).succ->(ad N y).isSome=true:=fun x y u_ hy=>by subst hN;have hy:y∈ej A ns (bK A [] []) x:=hy;obtain⟨a,ha,rfl⟩:=wi hy;rw[nj ha]at hy;obtain⟨b,hb,rfl⟩:=List.mem_map.mp hy;rw[gI (tF.mp hb).1];rfl
    have hK:∀p∈N,ad N p.1=some p.2:=fun p m=>by subst hN;exact Ko nm1 m
    have KP:=D9 (n:=n+1) (σ:=⟨[],some ⟨N,none,0,0,none⟩,[],st1⟩) (M:=100) rfl hS (by lia) hK w2 (by lia) (fun r e=>by
     cases res with
    |none=>cases e
    |some r0=> cases e;obtain⟨x1,x2⟩:=w3 r0 rfl;refine⟨fun z=>x1 (List.map_eq_nil_iff.mp z),by rw[List.length_map];lia⟩)
    have KF:=vX (n:=n+4) (σ:=⟨l,some ⟨N,some (gw N),0,0,none⟩,[],st1⟩) (M:=100) rfl hS (by lia) (fun p m=>by rw[hK p m];rfl) w2;have hfr:∀m∈[("sorter":Str)],∃w,ad (bG ⟨qT,[]⟩ l [("sorter",.free)]) m=some w/\seen false w=true:=fun m h=>by cases List.mem_singleton.mp h;exact⟨_,ia (.inl ⟨rfl,K.s⟩) rfl,rfl⟩
    refine su (fun τ=>τ=⟨l,some ⟨N,some (gw N),0,0,none⟩,[],st1⟩) ?P1 ?P2
    case P1=>
     have kg:=K.g;cases res with
    |none=>exact⟨_,hU (dZ (eZ (az rfl (jz ["sorter"] (.glob rfl rfl) rfl rfl rfl hfr (ba (fun u_=>rfl) rfl rfl (ae (iS rfl rfl rfl K.s)) (dE rfl (.tail _ (.head _)) rfl an KP)) (.ok .none)) (g9 (k:=false) (dY (fun u_=>rfl) (ae (.loc rfl kg)) yn) (fun q=>by cases q) (fun u_=>bq (ai rfl cw an) rfl rfl)) (uz (o:=none))) (eZ (az rfl (ba (fun u_=>rfl) rfl rfl (ae (.cell rfl K.s)) (dE rfl (.tail _ (.tail _ (.tail _ (.tail _ (.tail _ (.tail _ (.head _))))))) rfl an KF)) (ae (.loc rfl kg)) vL) kL))) eA,rfl⟩
    |some r=>
      obtain⟨x1,x2⟩:=w3 r rfl;haveI TL:fX (jM (some (r.map sg))) ⟨l,some ⟨N,some (gw N),0,0,none⟩,[],st1⟩ true:=by have:=ki (σ:=⟨l,some ⟨N,some (gw N),0,0,none⟩,[],st1⟩) (xs:=(r.map sg).map F.str) .f (by rw[List.length_map,List.length_map];exact bA x2 (by decide));rw[show(!((r.map sg).map F.str).isEmpty)=true from by cases r with|nil=>exact absurd rfl x1|cons a b=>rfl]at this;exact this
      exact⟨_,hU (dZ (eZ (az rfl (jz ["sorter"] (.glob rfl rfl) rfl rfl rfl hfr (ba (fun u_=>rfl) rfl rfl (ae (iS rfl rfl rfl K.s)) (dE rfl (.tail _ (.head _)) rfl an KP)) (.exc .cycle (fun z=>by cases z))) (g9 (k:=true) (dY (fun u_=>rfl) (ae (.loc rfl kg)) TL) (fun u_=>aJ) (fun q=>by cases q)) (uz (o:=some "ring"))) (eZ (az rfl (ba (fun u_=>rfl) rfl rfl (ae (.cell rfl K.s)) (dE rfl (.tail _ (.tail _ (.tail _ (.tail _ (.tail _ (.tail _ (.head _))))))) rfl an KF)) (ae (.loc rfl kg)) vL) kL))) eA,rfl⟩
    case P2=>
     rintro τ rfl
     haveI h97:97∈ns/\42∈ns:=by rw[<- hns];exact Br
     haveI hDs:∀L∈nb.map (fun m=>fH (m % 200) ns)++[[],[97,42],[],[42,39]],(∀x∈L,x∈ns\/x=39)/\L.length<=10:=J8 h97;obtain⟨r',KO,q',rfl⟩:=Gx (n:=n+1) (σ:=⟨l,some ⟨N,some (gw N),0,0,none⟩,[],st1⟩) (q:=((N,gw N),0)) (D:=nb.map (fun m=>fH (m % 200) ns)++[[],[97,42],[],[42,39]]) hA hR rfl (by rw[<- hN];exact bO.start hA) hDs (by rw[List.length_append,List.length_map];show _+4<=70;lia);haveI eD:(.list ((nb.map (fun m=>fH (m % 200) ns)++[[],[97,42],[],[42,39]]).map cL):F)=.list ((nb.map fun m=>aH ((fH (m % 200) ns).map sg))++[aH [],aH ["a","*"],aH [],aH ["*","'"]]):=by rw[List.map_append,List.map_map];refine congrArg F.list (congrArg (·++_) (List.map_congr_left fun m u_=>rH.symm))
     rw[eD]at KO
     with_reducible refine' cN (bf ?z1 ?z2 (ai ?z3 (ae ?z4) (ai ?z5 (aR (iw (xs:=nb) (item:=fun(m:Nat)=>.f (.int (m:Int))) (keep:=fun u_=>true) (val:=fun m=>aH ((fH (m % 200) ns).map sg)) (ys:=nb.map fun m=>aH ((fH (m % 200) ns).map sg)) ?z6 ?z7 (ae ?z8) dc (fun i τ h=>nx i τ) ⟨?z9,?z10,?z11⟩ ?z12 ?z13) ?z14 (jr .f .f ?z15)) (ai ?z16 (ae ?z17) (ai ?z18 (ae ?z19) an)))) (dD (nm:="_law_obeys") ?z20 ?z21 KO)) ?z22
     case z1=>exact .glob rfl rfl
     case z4=>exact .cell rfl K.s
     case z6=>exact fun u_ u_=>rfl
     case z7=>exact .of rfl
     case z8=>exact .loc rfl K.m
     case z9=>exact fun u_ u_ u_=>gK
     case z10=>exact fun m hm u_ acc=>bf (.glob rfl rfl) rfl (ai rfl (aR (ae (.loc rfl rfl)) aL (kT (b:=200) rfl (by decide))) (ai rfl (ae (cS rfl rfl K.n)) an)) (dD (nm:="_law_deed") rfl rfl (KD m hm _))
     case z11=>lia
     case z13=>rw[gB]
     case z14=>
      with_reducible refine' bq (xs:=[aH [],aH ["a","*"],aH [],aH ["*","'"]]) (ai ?y1 (jo ?y2 ?y3) (ai ?y4 (jo ?y5 ?y6) (ai ?y7 (jo ?y8 ?y9) (ai ?y10 (jo ?y11 ?y12) an)))) ?y13 ?y14
      case y2=>exact .nil
      case y5=>exact .cons _ _ _ (.cons _ _ _ .nil)
      case y8=>exact .nil
      case y11=>exact .cons _ _ _ (.cons _ _ _ .nil)
      case y1=>rfl
      case y3=>rfl
      case y4=>rfl
      case y6=>rfl
      case y7=>rfl
      case y9=>rfl
      case y10=>rfl
      case y12=>rfl
      case y13=>rfl
      case y14=>rfl
     case z15=>rw[List.length_map];exact bA (k:=20) (by show _+4<=20;lia) (by decide)
     case z17=>exact .loc rfl K.a
     case z19=>exact .loc rfl K.r
     case z2=>rfl
     case z3=>rfl
     case z5=>rfl
     case z12=>rfl
     case z16=>rfl
     case z18=>rfl
     case z20=>rfl
     case z21=>rfl
     case z22=>exact⟨_,bZ (.same _ rfl) rfl,_,_,rfl⟩
end
end
section
open PySem PySem.W PyProof.Rows PySem.SeqAt
theorem GI{h:Heap}:∀{l:List Addr},(l.filterMap fun a=>(h.get? a).map fun o=>(a,o)).lookup a=some o->h.get? a=some o/\a∈l:=by
 intro l
 induction l with
|nil=> intro e;cases e
|cons b l ih=>
  intro e;rw[List.filterMap_cons]at e;cases q:h.get? b with
 |none=> rw[q]at e;obtain⟨e1,e2⟩:=ih e;exact⟨e1,.tail _ e2⟩
 |some o'=>
   rw[q]at e;rw[show(Option.map (fun o=>(b,o)) (some o'):Option (Addr×Obj))=some (b,o')from rfl]at e;dsimp only at e;rw[List.lookup_cons]at e;cases z:a==b with
  |true=> rw[z]at e;cases e;rw[beq_iff_eq.mp z];exact⟨q,.head _⟩
  |false=> rw[z]at e;obtain⟨e1,e2⟩:=ih e;exact⟨e1,.tail _ e2⟩
theorem sN{n i:Nat}(e:l=List.replicate n true)(h:l[i]?=some b):b=true:=by subst e;exact List.eq_of_mem_replicate (List.mem_of_getElem? h)
theorem FP(e:xi h a=some fd):∃o,h.get? a=some o/\o.data=.func fd:=by obtain⟨o,ho,q⟩:=Option.bind_eq_some_iff.mp e;refine⟨o,ho,?_⟩;obtain⟨c,d,dt,sl⟩:=o;cases dt<;>first|cases q;done|exact congrArg Data.func (Option.some.inj q)
theorem wQ(e:tH h a=some p):∃o,h.get? a=some o/\o.cls=p.1/\o.data=.fields p.2:=by obtain⟨o,ho,q⟩:=Option.bind_eq_some_iff.mp e;refine⟨o,ho,?_⟩;obtain⟨c,d,dt,sl⟩:=o;cases dt<;>first|cases q;done|(cases Option.some.inj q;exact⟨rfl,rfl⟩)
theorem uF(e:mo v=some q):∃t,v=some (.str q t):=by
 cases v with
|none=>cases e
|some v=>cases v<;>first|cases e;done|(cases Option.some.inj e;exact⟨_,rfl⟩)
theorem DG(e:kN v=1):∃s t,v=.str s t:=by cases v<;>first|cases e;done|exact⟨_,_,rfl⟩
theorem yM(e:kN v=2):∃s t,v=.int s t:=by cases v<;>first|cases e;done|exact⟨_,_,rfl⟩
theorem JO(e:kN v=3):∃s,v=.bool s:=by cases v<;>first|cases e;done|exact⟨_,rfl⟩
theorem GZ(h:Ap e=true):∃k,(intKind pr w).is k e.key=true/\e.hash=(intKind pr w).hash k:=by obtain⟨hs,k,v⟩:=e;cases k<;>first|cases h;done|exact⟨_,decide_eq_true rfl,of_decide_eq_true h⟩
theorem xw(e:aq eU k=some (nm,f))(h1:k≠15)(h2:k≠16)(h3:k≠17):k∈mB/\f=kC k:=by
 refine⟨?_,by unfold kC;rw[e]⟩;haveI hl:k < 25:=by haveI:=tI e;exact(List.getElem?_eq_some_iff.mp this).1
 haveI z:(List.range 25).all (fun k=>k==15||(k==16||(k==17||mB.contains k)))=true:=by decide +kernel
 haveI:=List.all_eq_true.mp z k (List.mem_range.mpr hl);simp only[Bool.or_eq_true,beq_iff_eq,List.contains_iff_mem]at this;exact this.resolve_left h1 |>.resolve_left h2 |>.resolve_left h3
noncomputable def mZ(w:World)(aK ap:Shared):aN:={prog:=pw,w:=w,B:=ap.heap,tabs:=cg,fa:=dU,blt:=jI aK.heap,os:=ap.os,K:=dF aK.heap}
noncomputable def Keeps(aK ap:Shared):Prop:=∀b o,aK.heap.get? b=some o->ap.heap.get? b=some o
section
variable{w:World}{aK ap:Shared}{i:Nat}{b:Bool}
theorem cQ(Y:cE aK=cH w)(h:(wN (dF aK.heap))[i]?=some b):b=true:=sN (congrArg (fun x=>x.1.1) Y) h
theorem ee(Y:cE aK=cH w)(h:(qD aK.heap)[i]?=some b):b=true:=sN (congrArg (fun x=>x.1.2.1) Y) h
theorem nB(Y:cE aK=cH w)(hk:Keeps aK ap)(h:(objs aK.heap)[i]?=some (aK.heap.get? a))(ho:xE[i]?=some (some o)):ap.heap.get? a=some o:=
 hk _ _ (Option.some.inj (h.symm.trans ((congrArg (fun x=>x.2.2.2.2[i]?) Y).trans ho)))
theorem jn{l:List Addr}(h:l.contains a=false):a∉l:=fun m=>by rw[List.contains_iff_mem.mpr m]at h;cases h
theorem rT(Y:cE aK=cH w)(hk:Keeps aK ap){a:Addr}(m:(a,f,v)∈jA):oz (mZ w aK ap) a f v/\∃o fd,ap.heap.get? a=some o/\o.data=.func fd/\fd.code=.ref (a-1):=by
 haveI nt:(!(cg.map (·.2)).contains a&&!(cg.map (·.2)).contains (a-1))=true:=List.all_eq_true.mp (show jA.all (fun p=>!(cg.map (·.2)).contains p.1&&!(cg.map (·.2)).contains (p.1-1))=true by decide +kernel) _ m;rw[Bool.and_eq_true,Bool.not_eq_true',Bool.not_eq_true']at nt;obtain⟨fd,h1,h⟩:=Option.bind_eq_some_iff.mp (List.map_inj_left.mp (show jA.map (fun p=>yT aK.heap p.1)=jA.map (fun p=>some ((p.2.1.scope,p.2.1.params,.stmts p.2.1.body,[],p.2.2),mainGlobals,builtinsNs,.ref (p.1-1),none))from congrArg (fun x=>x.2.1) Y) _ m);obtain⟨p,h2,h⟩:=Option.map_eq_some_iff.mp h;obtain⟨o,e1,e2⟩:=FP h1;obtain⟨oc,c1,_,c2⟩:=wQ h2;haveI q:∀i:Nat,_:=fun i=>h;haveI hq:mo p.2[1]?=some fd.qualname:=by
  by_cases z:mo p.2[1]?=some fd.qualname
  ·exact z
  ·haveI:=congrArg (fun x=>x.2.2.2.2) h;rw[if_neg z]at this;cases this
 obtain⟨t,ht⟩:=uF hq;haveI g:=fun{α:Type}(x:_->α)=>congrArg x h;haveI hc:fd.code=.ref (a-1):=g fun x=>x.2.2.2.1;exact⟨⟨o,fd,_,oc,p.2,t,hk _ _ e1,jn nt.1,e2,g fun x=>x.1.1,g fun x=>x.1.2.1,g fun x=>x.1.2.2.1,g fun x=>x.2.1,g fun x=>x.2.2.1,g fun x=>x.1.2.2.2.1,g fun x=>x.1.2.2.2.2,hc,hk _ _ c1,jn nt.2,c2,ht⟩,o,fd,hk _ _ e1,e2,hc⟩
theorem yF(Y:cE aK=cH w)(hk:Keeps aK ap)(m:p∈cg):ap.heap.get? p.2=some {cls:=.none,data:=.fields #[]}:=
 hk _ _ (List.map_inj_left.mp (show cg.map (fun p=>aK.heap.get? p.2)=cg.map (fun u_=>some {cls:=.none,data:=.fields #[]})from congrArg (fun x=>x.2.2.2.2.drop 5) Y) p m)
theorem rZ(Y:cE aK=cH w)(hk:Keeps aK ap)(p:Addr×Addr)(m:p∈cg):ap.heap.IsCode p.1 p.2 #[]/\ap.heap.TableAt p.1 p.2 #[]:=by have z:=List.all_eq_true.mp (show cg.all (fun p=>!(p.1==p.2))=true by decide +kernel) p m;rw[Bool.not_eq_true']at z;obtain⟨q,h1,h⟩:=Option.map_eq_some_iff.mp (List.map_inj_left.mp (show cg.map (wY aK.heap)=cg.map (fun p=>some ((.type "code",some (.ref p.2),.ref p.2),1,2,3,2))from congrArg (fun x=>x.2.2.1) Y) p m);obtain⟨oc,c1,c2,c3⟩:=wQ h1;have g:=fun{α:Type}(x:_->α)=>congrArg x h;obtain⟨_,_,k1⟩:=DG (g fun x=>x.2.1);obtain⟨_,_,k2⟩:=yM (g fun x=>x.2.2.1);obtain⟨_,k3⟩:=JO (g fun x=>x.2.2.2.1);obtain⟨_,_,k4⟩:=yM (g fun x=>x.2.2.2.2);have t:=yF Y hk m;exact⟨⟨oc,q.2,_,_,_,_,_,_,_,_,hk _ _ c1,c3,g fun x=>x.1.2.2,k1,k2,k3,k4,t,rfl,trivial,beq_eq_false_iff_ne.mp z⟩,⟨oc,q.2,hk _ _ c1,c2.trans (g fun x=>x.1.1),c3,g fun x=>x.1.2.1⟩,t⟩
theorem xL(m:k∈mB):((dU k,kC k,.none):Addr×Fn×Value)∈jA:=.tail _ (.tail _ (List.mem_map.mpr ⟨k,m,rfl⟩))
theorem Ck(Y:cE aK=cH w)(hk:Keeps aK ap):∃f,ap.heap.MapOf (intKind pw w) 172 f/\(∃t,f 93=some (.str ⟨#[92,93]⟩ t))/\(∃t,f 124=some (.str ⟨#[92,124]⟩ t))/\f 33=none/\f 97=none:=by
 obtain⟨o,ho,h⟩:=Option.bind_eq_some_iff.mp (congrArg (fun x=>x.2.2.2.1) Y);have ho:=hk _ _ ho;obtain⟨c,d,dt,sl⟩:=o;cases dt with
|dict es ep=>
  have g:=fun{α:Type}(x:_->α)=>congrArg x (Option.some.inj h);exact⟨_,⟨_,es,ep,ho,⟨g fun x=>x.1.1,g fun x=>x.1.2.1,g fun x=>x.1.2.2⟩,rfl,fun x m=>GZ (List.all_eq_true.mp (g fun x=>x.2.1) x (Array.mem_toList_iff.mpr m)),fun u_=>rfl⟩,
   uF (g fun x=>x.2.2.1),uF (g fun x=>x.2.2.2.1),g fun x=>x.2.2.2.2.1,g fun x=>x.2.2.2.2.2⟩
|_=>cases h
theorem yl(Y:cE aK=cH w)(hk:Keeps aK ap):ap.heap.Ns mainGlobals (aK.heap.nsMap mainGlobals):=(Heap.Ns.of_isNs (ee (i:=0) Y rfl)).keeps hk
theorem Gj(Y:cE aK=cH w){p:Str×Nat}(m:p∈ql):aK.heap.nsMap mainGlobals p.1=some (.ref (dU p.2)):=of_decide_eq_true (List.all_eq_true.mp (ee (i:=7) Y rfl) _ m)
theorem Aj(Y:cE aK=cH w){p:Str×Value}(m:p∈kU):jI aK.heap p.1=some p.2:=of_decide_eq_true (List.all_eq_true.mp (ee (i:=10) Y rfl) p m)
theorem Fz(Y:cE aK=cH w){x:Str}(m:x∈builtins):∃v,jI aK.heap x=some v:=by
 haveI:=List.all_eq_true.mp (show builtins.all (fun x=>(kU.any fun p=>decide (p.1=x))||(decide (x="_twin_re_1")||decide (x="_special_chars_map")))=true by decide +kernel) x m;rcases(Bool.or_eq_true _ _).mp this with h|h
 ·obtain⟨p,pm,e⟩:=List.any_eq_true.mp h;exact⟨_,of_decide_eq_true e▸Aj Y pm⟩
 ·rcases(Bool.or_eq_true _ _).mp h with h|h
  ·exact⟨_,of_decide_eq_true h▸of_decide_eq_true (ee (i:=11) Y rfl)⟩
  ·exact⟨_,of_decide_eq_true h▸of_decide_eq_true (ee (i:=12) Y rfl)⟩
theorem B6(e:jI h x=some v):h.nsMap mainGlobals x=some v\/(h.nsMap mainGlobals x=none/\h.nsMap builtinsNs x=some v):=by
 unfold jI at e;cases q:h.nsMap mainGlobals x with
|none=>rw[q]at e;exact .inr ⟨rfl,e⟩
|some u=>rw[q]at e;exact .inl e
theorem JA(Y:cE aK=cH w)(e:glob x=some v):∃y val,v=.f y/\(aK.heap.nsMap mainGlobals x=some val\/(aK.heap.nsMap mainGlobals x=none/\aK.heap.nsMap builtinsNs x=some val))/\∀z,FR (mZ w aK ap) z y val:=by
 unfold glob at e;cases q:ad ql x with
|some j=>rw[q]at e;exact⟨.fn j,_,(Option.some.inj e).symm,.inl (Gj Y (gA q)),fun u_=>rfl⟩
|none=>
  rw[q]at e;dsimp only at e;cases q1:ah x "_NODE_OUT" with
 |true=>rw[q1]at e;cases bD.mp q1;exact⟨.int (-1),.int (-1) 292,(Option.some.inj e).symm,.inl (of_decide_eq_true (ee (i:=8) Y rfl)),fun u_=>rfl⟩
 |false=>
   rw[q1]at e;dsimp only at e;cases q2:ah x "_NODE_DONE" with
  |true=>rw[q2]at e;cases bD.mp q2;exact⟨.int (-2),.int (-2) 295,(Option.some.inj e).symm,.inl (of_decide_eq_true (ee (i:=9) Y rfl)),fun u_=>rfl⟩
  |false=>
    rw[q2]at e;dsimp only at e;cases q3:aO builtins x with
   |true=> rw[q3]at e;obtain⟨val,hv⟩:=Fz Y (qZ q3);exact⟨.bi x,val,(Option.some.inj e).symm,B6 hv,fun u_=>hv⟩
   |false=>rw[q3]at e;cases e
theorem yG(Y:cE aK=cH w)(hk:Keeps aK ap)(m:(a,f,v)∈jA)(h1:makesIn (dF aK.heap) C=true)(h2:decide (findIn (dF aK.heap) (.ref C) "__init__"=some (some (.ref a)))=true)(h3:decide (typeIn (dF aK.heap) (.ref a)=some (.type "function"))=true):tK (mZ w aK ap) C f v:=
 ⟨h1,a,of_decide_eq_true h2,of_decide_eq_true h3,(rT Y hk m).1⟩
theorem Es(hk:Keeps aK ap)(e:(dF aK.heap).lookup a=some o):ap.heap.get? a=some o/\a∉cg.map (·.2):=by obtain⟨h1,h2⟩:=GI e;exact⟨hk _ _ h1,jn ((Bool.not_eq_true' _).mp (List.all_eq_true.mp (show vn.all (fun a=>!(cg.map (·.2)).contains a)=true by decide +kernel) a h2))⟩
theorem H9(Y:cE aK=cH w){p:Str×Nat}(m:p∈gP):findIn (dF aK.heap) (.ref 154) p.1=some (some (.ref (dU p.2)))/\typeIn (dF aK.heap) (.ref (dU p.2))=some (.type "function")/\specialIn (dF aK.heap) (.ref (dU p.2)) "__get__"=some (some (.builtin "function.__get__")) /\
  takesIn (dF aK.heap) (.ref (dU p.2))=some false/\fnIn (dF aK.heap) (dU p.2)=true:=by
 haveI:=List.all_eq_true.mp (cQ (i:=14) Y rfl) p m;rw[Bool.and_eq_true,Bool.and_eq_true,Bool.and_eq_true,Bool.and_eq_true]at this;exact⟨of_decide_eq_true this.1,of_decide_eq_true this.2.1,of_decide_eq_true this.2.2.1,of_decide_eq_true this.2.2.2.1,this.2.2.2.2⟩
theorem ub(Y:cE aK=cH w){p:Str×Nat×Nat}(m:p∈([("node",0,58),("npredecessors",1,59),("successors",2,60)]:List (Str×Nat×Nat))):findIn (dF aK.heap) (.ref 57) p.1=some (some (.ref p.2.2))/\specialIn (dF aK.heap) (.ref p.2.2) "__get__"=some (some (.builtin "member_descriptor.__get__")) /\
  takesIn (dF aK.heap) (.ref p.2.2)=some true/\slotIn (dF aK.heap) p.2.2 57=some p.2.1/\typeIn (dF aK.heap) (.ref p.2.2)=some (.type "member_descriptor"):=by
 haveI:=List.all_eq_true.mp (cQ (i:=19) Y rfl) p m;rw[Bool.and_eq_true,Bool.and_eq_true,Bool.and_eq_true,Bool.and_eq_true]at this;exact⟨of_decide_eq_true this.1,of_decide_eq_true this.2.1,of_decide_eq_true this.2.2.1,of_decide_eq_true this.2.2.2.1,of_decide_eq_true this.2.2.2.2⟩
theorem Jp(Y:cE aK=cH w)(hk:Keeps aK ap):ib (mZ w aK ap) where
 blts p m:=Aj Y m
 keep:=⟨cQ (i:=0) Y rfl,cQ (i:=1) Y rfl⟩
 cyc:=⟨_,_,71,_,_,_,_,_,_,_,_,_,_,_,_,_,_,_,_,nB (i:=0) Y hk rfl rfl,jn (a:=72) rfl,(Heap.Ns.of_isNs (ee (i:=4) Y rfl)).keeps hk,Option.isNone_iff_eq_none.mp (ee (i:=5) Y rfl),PySem.F.excBase_ValueError⟩
 cycNot:=of_decide_eq_true (cQ (i:=2) Y rfl)
 bmod:=⟨_,4,_,yl Y hk,of_decide_eq_true (ee (i:=13) Y rfl),by decide +kernel,nB (i:=4) Y hk rfl rfl,rfl,rfl,rfl⟩
 scm:=let ⟨f,h1,h2⟩:=Ck Y hk;⟨172,f,of_decide_eq_true (ee (i:=12) Y rfl),h1,by decide +kernel,jn (a:=172) rfl,h2⟩
 twin:=⟨163,162,0,_,_,of_decide_eq_true (ee (i:=11) Y rfl),nB (i:=1) Y hk rfl rfl,nB (i:=2) Y hk rfl rfl,jn (a:=163) rfl,jn (a:=162) rfl⟩
 glob:=⟨_,_,yl Y hk,(Heap.Ns.of_isNs (ee (i:=1) Y rfl)).keeps hk,fun u_ u_ e=>JA Y e⟩
 tabs a m:=let ⟨p,pm,e⟩:=List.mem_map.mp m;e▸⟨_,yF Y hk pm⟩
 codes p m:=let ⟨⟨o,_,h,_⟩,_⟩:=(rZ Y hk p m).2;⟨o,h⟩
 tabsNd:=show(cg.map (·.2)).Nodup by decide +kernel
 tabAt p m:=⟨_,(rZ Y hk p m).2⟩
 coded k nm f e h1 h2 h3:=by obtain⟨m,_⟩:=xw e h1 h2 h3;obtain⟨o,fd,r1,r2,r3⟩:=(rT Y hk (xL m)).2;obtain⟨p,pm,pe⟩:=List.any_eq_true.mp (List.all_eq_true.mp (show mB.all (fun k=>cg.any fun p=>p.1==dU k-1)=true by decide +kernel) k m);exact⟨o,fd,_,p.2,r1,r2,r3,beq_iff_eq.mp pe▸pm⟩
 nolimit:=⟨_,(Heap.Ns.of_isNs (ee (i:=2) Y rfl)).keeps hk,Option.isNone_iff_eq_none.mp (ee (i:=3) Y rfl)⟩
 sys:=(Option.isSome_iff_exists.mp (ee (i:=6) Y rfl)).imp fun u_=>hk _ _
 fn k nm f e h1 h2 h3:=let ⟨m,q⟩:=xw e h1 h2 h3;q▸(rT Y hk (xL m)).1
 kIn a o e:=Es hk e
 sInit:=⟨83,yG Y hk (.tail _ (.head _)) (cQ (i:=3) Y rfl) (cQ (i:=4) Y rfl) (cQ (i:=5) Y rfl),nB (i:=3) Y hk rfl rfl,jn (a:=83) rfl⟩
 nInit:=yG Y hk (.head _) (cQ (i:=6) Y rfl) (cQ (i:=7) Y rfl) (cQ (i:=8) Y rfl)
 sGet:=cQ (i:=9) Y rfl
 sSet:=of_decide_eq_true (cQ (i:=10) Y rfl)
 sOver:=cQ (i:=11) Y rfl
 sDict:=cQ (i:=12) Y rfl
 sName n m:=of_decide_eq_true (List.all_eq_true.mp (cQ (i:=13) Y rfl) n m)
 sMeth p m:=H9 Y m
 nGet:=cQ (i:=15) Y rfl
 nSet:=of_decide_eq_true (cQ (i:=16) Y rfl)
 nOver:=cQ (i:=17) Y rfl
 nCls:=cQ (i:=18) Y rfl
 nSlot p m:=by
  rcases List.mem_cons.mp m with rfl|m
  ·exact⟨58,ub Y (.head _)⟩
  ·rcases List.mem_cons.mp m with rfl|m
   ·exact⟨59,ub Y (.tail _ (.head _))⟩
   ·cases List.mem_singleton.mp m;exact⟨60,ub Y (.tail _ (.tail _ (.head _)))⟩
end
open Classical in
noncomputable def uP(b:aN):Z:={f:=fun a=>if a∈b.tabA then none else b.B.get? a,st:=fun u_=>none}
noncomputable def qd(b:aN):aE->Option Addr
|.tab k=>(b.tabs[k]?).map (·.2)
|_=>none
noncomputable def qO(b:aN)(h:Heap):Gh:={z:=uP b,at_:=qd b,ob:=fun T=>dq h (qd b T)}
section
variable{b:aN}{s ap:Shared}{env:Env}{scope:Scope}{qual:Str}{func:Option Addr}{code:Value}{l:List (Str×V)}{binds:List (Str×Value)}{n:Nat}{e:Ev}{E:Value->Shared->Prop}{X:Addr->Option Obj}
theorem wM{a:Addr}{o:Obj}(hB:b.B=s.heap)(h:s.heap.get? a=some o)(nt:a∉b.tabA):(uP b).f a=some o:=(if_neg nt).trans (hB▸h)
theorem nM{T:aE}{a:Addr}(h:qd b T=some a):∃k,T=.tab k/\(b.tabs.map (·.2))[k]?=some a:=by
 cases T with
|tab k=>exact⟨k,rfl,List.getElem?_map.trans h⟩
|_=>cases h
theorem CU(hs:env.scope.kind=.function)(hf:env.frame=some env.locals)(hg:env.globals=mainGlobals)(hb:env.builtins=builtinsNs)(ks:(∀n k,ad e.names n=some k->ni (env.kindOf n) k)/\∀n k,ad e.names n=some k->(n==("__debug__":Str))=false/\(n==("__classdict__":Str))=false)(hc:∃p∈b.tabs,env.code=.ref p.1):
  ca b (callerA.deeper env) env e X [env.locals] 5:=by
 refine⟨by show 302+3*5+3 < recursionLimit;decide +kernel,by show 7+20*5+20 < cLine;decide +kernel,⟨env,[],rfl,rfl,fun f m=>?_,?_⟩,hs,hg,hb,ks.1,ks.2,fun u_=>hc,fun a m=>.inl (List.mem_singleton.mp m)⟩
 ·cases List.mem_singleton.mp m;exact⟨by rw[hs];decide,by rw[hf];rfl⟩
 ·rw[List.filterMap_cons,hf];rfl
theorem ER(ok:ib b)(hB:b.B=s.heap)(hos:s.os=b.os)(hg:AllBare s.gens)(ht:0 < s.toks){k:ca b (callerA.deeper env) env e (fun u_=>none) [env.locals] n}:HC ⟨b,ok,callerA.deeper env,env,e,E,fun u_=>none,[env.locals],n,k⟩ (qO b s.heap) s where
 zf a o e:=by
  by_cases m:a∈b.tabA
  ·rw[show(qO b s.heap).z.f a=none from if_pos m]at e;cases(e)
  ·exact hB▸(if_neg m).symm.trans e
 at_ T a q:=by obtain⟨k,rfl,h⟩:=nM q;obtain⟨vs,ho⟩:=ok.tabs a (List.mem_of_getElem? h);rw[hB]at ho;exact ho.trans (congrArg some ((dR ho).symm.trans (congrArg (dq _ · _) q.symm)))
 inj T T' a q q':=by
  obtain⟨k,rfl,h⟩:=nM q;obtain⟨k',rfl,h'⟩:=nM q';obtain⟨i1,j1⟩:=List.getElem?_eq_some_iff.mp h;obtain⟨i2,j2⟩:=List.getElem?_eq_some_iff.mp h';have P:=List.pairwise_iff_getElem.mp ok.tabsNd;rcases Nat.lt_trichotomy k k' with z|z|z
  ·exact absurd (j1.trans j2.symm) (P k k' i1 i2 z)
  ·rw[z]
  ·exact absurd (j2.trans j1.symm) (P k' k i2 i1 z)
 nz T a q:=let ⟨_,_,h⟩:=nM q;if_pos (List.mem_of_getElem? h)
 xz a o e:=by cases(e)
 xs a o e:=by cases(e)
 base a o e m:=(if_neg m).trans e
 tabs T a q m:=let ⟨k,h,_⟩:=nM q;⟨k,h⟩
 old:=by rw[show b.B=s.heap from hB];exact OldK.refl _
 os:=hos
 gens:=hg
 tk:=ht
theorem FB(hB:b.B=s.heap)(hnt:∀p∈b.tabs,p.1∉b.tabA)(htc:∀p∈b.tabs,s.heap.IsCode p.1 p.2 #[]/\s.heap.TableAt p.1 p.2 #[]){p:Addr×Addr}(m:p∈b.tabs):kA (uP b) (dq s.heap (some p.2)) p:=by obtain⟨c1,o0_,ho⟩:=htc p m;obtain⟨oc,vs,t1,t2⟩:=o0_;haveI e:dq s.heap (some p.2)={cls:=.none,data:=.fields #[]}:=dR ho;refine⟨#[],e,fun h hz hp=>?_,fun pos c z=>by cases z⟩;haveI w1:=hz _ _ (wM hB t1 (hnt p m));obtain⟨o',vs',file,tf,flags,tg,inF,text,tt,op,u1,u2,u3,u4,u5,u6,u7,u8,u9⟩:=c1;rw[t1]at u1;cases u1;exact⟨⟨_,vs',file,tf,flags,tg,inF,text,tt,_,w1,u2,u3,u4,u5,u6,u7,hp,congrArg Obj.data e,u9.2⟩,⟨_,vs,w1,t2⟩,hp.trans (congrArg some e)⟩
theorem H5(ok:ib b)(hB:b.B=s.heap)(hos:s.os=b.os)(hg:AllBare s.gens)(ht:0 < s.toks)(Lq:s.toks<=ap.toks)(E:Value->Shared->Prop)(hk:scope.kind=.function)(no:fq scope.names)(R:BR b (qO b s.heap) l binds)(ol:∀p∈l,seen false p.2=true)(nl:(l.map (·.1)).Nodup)
  (hcd:∃p∈b.tabs,code=.ref p.1) (hnt:∀p∈b.tabs,p.1∉b.tabA) (htc:∀p∈b.tabs,s.heap.IsCode p.1 p.2 #[]/\s.heap.TableAt p.1 p.2 #[]) (he:env=oi scope s.heap.objs.size qual func code) (x:InCallC s env.locals (bindL env.kindOf binds fun u_=>none) env.cells (bindC env.kindOf binds fun u_=>none) ap) :
  ∃(X:Addr->Option Obj)(k:ca b (callerA.deeper env) env ⟨scope.names,[]⟩ X [env.locals] 5)(d:Dy ⟨b,ok,callerA.deeper env,env,⟨scope.names,[]⟩,E,X,[env.locals],5,k⟩ ⟨l,none,[],0⟩),d.s=ap:=by
 have K:=fun X=>CU (X:=X) (e:=⟨scope.names,[]⟩) (env:=env) (b:=b) (by rw[he];exact hk) (by rw[he];rfl) (by rw[he];rfl) (by rw[he];rfl) (fq.kinds (env:=env) no (by rw[he];rfl)) (by rw[he];exact hcd);have H:=(ER (E:=E) (k:=K _) ok hB hos hg ht).entered (sh:=false) (fun a m=>by obtain⟨p,pm,rfl⟩:=List.mem_map.mp m;obtain⟨k,hk⟩:=List.getElem?_of_mem pm;exact⟨k,congrArg (Option.map _) hk⟩) (k:=K _) E (fun a m=>m) no R nl ol he Lq x
 refine⟨_,K _,⟨_,ap,H.1,⟨H.2.1,fun i=>(if_neg (fun z=>by cases(z))).trans (yg (T:=.p (.loc i)) (i:=i) rfl),fun p a q=>?_,fun j p q=>⟨(fm (T:=.tab j) trivial).1.trans (congrArg (Option.map _) q),?_⟩,fun k u_=>rfl⟩⟩,rfl⟩
 ·by_cases w:(aE.p p).keep false
  ·cases(if_pos w).symm.trans q
  ·cases(if_neg w).symm.trans q
 ·have e:qd b (.tab j)=some p.2:=congrArg (Option.map _) q;have:=FB hB hnt htc (List.mem_of_getElem? q);rw[<- e]at this;exact(fm (g:=qO b s.heap) (sh:=false) (fa:=fg env) (h:=ap.heap) (T:=.tab j) trivial).2▸this
theorem Au{b:aN}{z:Z}:∀{vs:List Value}{ns:List Int},IntsAre vs ns->FRs b z (ns.map F.int) vs:=@fun a c d=>match a,c,d with
|_,_,.nil=>rfl
|_,_,.cons n t h=>⟨_,_,rfl,rfl,Au h⟩
theorem B5{w:World}{aK ap:Shared}(y:cE aK=cH w)(hk:∀b o,aK.heap.get? b=some o->ap.heap.get? b=some o)(hg:ap.gens=#[])(ht:0 < ap.toks){ns:List Int}(hz:ns.length<=63){a:Addr}{vs:List Value}(hl:ap.heap.get? a=some {cls:=.type "list",data:=.seq vs.toArray})(hI:IntsAre vs ns)
  {Q:Value->Shared->Prop} {E:Value->Shared->Prop} (hQ:∀s',OldK ap.heap s'.heap->s'.os=ap.os->AllBare s'.gens->Q (.bool true) s'):wpAny (model pw w) callerA (call (.ref 255) [.ref a]) Q E ap:=by
 have ok:=Jp y hk;haveI htc:=rZ y hk;haveI htn:∀p∈cg,p.1∉cg.map (·.2):=fun p m=>by
  haveI z:cg.all (fun p=>!(cg.map (·.2)).contains p.1)=true:=by decide +kernel
  have:=List.all_eq_true.mp z p m;simp only[Bool.not_eq_true',List.contains_eq_mem,decide_eq_false_iff_not]at this;exact this
 generalize hb:mZ w aK ap=b at ok;haveI hM:model pw w=b.M:=by subst hb;rfl
 have hB:b.B=ap.heap:=by subst hb;rfl
 have hos:b.os=ap.os:=by subst hb;rfl
 have hT:b.tabs=cg:=by subst hb;rfl
 haveI hF:b.fa=dU:=by subst hb;rfl
 rw[hM];clear hb;have hf:aq eU 10=some (("law":Str),bp "law"):=rfl;have K:=xH hf rfl;refine wpAny_call ?_;have fa10:b.fa 10=255:=by rw[hF];rfl
 have F:=ok.fn 10 _ _ hf (by decide) (by decide) (by decide);unfold wR at F;rw[fa10]at F;cases F with|mk o fd cd oc cvs ct ho hnt hdata fs1 fs2 fs3 fs4 fs5 fs6 fs7 hcode hoc hct hdc hq=>
 haveI hcd:∃p∈b.tabs,fd.code=.ref p.1:=by obtain⟨o',fd',c',P,z1,z2,z3,z4⟩:=ok.coded 10 _ _ hf (by decide) (by decide) (by decide);rw[fa10,ho]at z1;cases z1;rw[hdata]at z2;cases z2;exact⟨_,z4,z3⟩
 rw[hB]at ho hoc;refine codeAny_call_function (by decide +kernel) ho hdata (by rw[fs1];exact K.co) (by rw[fs1];exact K.gen) fs3 ⟨cd,oc,cvs,ct,hcode,hoc,hdc,hq⟩ ?_;rw[fs1,fs4,fs5,fs6];haveI pk:=K.par;haveI hva:(bp "law").params.vararg=none:=by
  have:=ro.va;cases q:(bp "law").params.vararg with
 |none=>rfl
 |some x=>rw[q]at this;cases this
 rw[nQ (va:=none) (vals:=[.ref a]) (ns:=["script"]) ro.args (by rw[fs2,pk,hva]) fs7 (by decide) (Nat.le_refl 1) fun u_=>rfl];refine wpAny_pure ?_;haveI na:a∉b.tabA:=fun m=>by obtain⟨us,h⟩:=ok.tabs a m;rw[hB,hl]at h;cases h
 refine wpAny_mono (wpAny_toks_of (n:=ap.toks) (Nat.le_refl _) (wpAny_newFunctionEnv_cells (Q:=fun aP cj=>aP=oi (bp "law").scope ap.heap.objs.size (fd.qualname++".<locals>.") (some 255) fd.code /\
   InCallC ap aP.locals (bindL aP.kindOf [("script",.ref a)] fun u_=>none) aP.cells (bindC aP.kindOf [("script",.ref a)] fun u_=>none) cj) K.fn (fun x m=>?_) (fun aP he cj x=>⟨he,x⟩))) (fun aP cj hx=>?_) fun u_ u_ h=>h.2
 ·cases List.mem_singleton.mp m;rw[ro.names];exact .inl rfl
 ·obtain⟨ht3,he,hx⟩:=hx;obtain⟨X,k,d,rfl⟩:=H5 (l:=[("script",.f (.list (ns.map F.int)))]) ok hB hos.symm (.of_eq hg) ht ht3 (fun u_ u_=>False) K.fn K.names
   ⟨_,_,rfl,⟨vs,⟨a,0,rfl,wM hB hl na⟩,Au hI⟩,rfl⟩ (fun p m=>by cases List.mem_singleton.mp m;rfl) (List.Pairwise.cons (fun u_ h=>by cases h) .nil) hcd (by rw[hT];exact fun p m=>show p.1∉b.tabs.map (·.2)from hT▸htn p m) (by rw[hT];exact htc) he hx
  obtain⟨r,hS,r',hO,q',st',hr⟩:=Dl (script:=ns) (n:=0) (σ:=⟨[],none,[],0⟩) hz;refine⟨d.h.limit,codeAny_func (wpAny_mono (hS _ ⟨congrArg (fun l=>(⟨l,[]⟩:Ev)) ro.names,Nat.le_refl _,rfl⟩ ⟨[],rfl⟩ d (fun fl s'=>fl=.ret (.bool true)/\OldK ap.heap s'.heap/\s'.os=ap.os/\AllBare s'.gens) ?_) (fun fl s' h=>?_) fun e s' h=>?_)⟩
  ·subst hr;cases hO with
  |hand fl au v w hfl hw=>
    intro ay fv le3 rf;cases hw with|same _ _=>
    haveI e:fv=.ret (.bool true):=by
     cases fl with
    |ret u=>cases hfl;obtain⟨val,rfl,h⟩:=rf;exact congrArg _ h
    |_=>cases hfl
    exact⟨e,hB▸ay.h.old,ay.h.os.trans hos,ay.h.gens⟩
  ·obtain⟨rfl,h1,h2,h3⟩:=h;exact hQ s' h1 h2 h3
  ·exact h.elim
end
end
section
open PySem PySem.W PyProof.Rows PySem.SeqAt PySem.W.X
noncomputable def jy:DefRec:=match(recsOf vw).find? (fun e=>e.name==("law":Str))with
|some d=>d
|none=>⟨"",⟨[],[],none,[],[],none,[]⟩,[],⟨.function,[],false,false,[]⟩,default⟩
theorem CQ:defOf vw "law"=some (jy,[]):=by kernel_rfl
theorem I7:pw.theDef "law"=some (jy.params,jy.body,jy.scope):=by kernel_rfl
theorem E3:kwWritten? jy.params.kwonlyargs jy.params.kw_defaults=some []:=by kernel_rfl
theorem BM:PySem.Challenge.rw_ij0139_01.wellSaid=true:=by kernel_rfl
theorem HD:(chainsOk vw&&opensWell pw&&(frees PySem.Challenge.rw_ij0139_01.row.toRowW&&PySem.Challenge.rw_ij0139_01.row.within.isEmpty))=true:=by kernel_rfl
theorem Gu:pw.bare:=⟨rfl,rfl,rfl,rfl,rfl,by decide +kernel⟩
theorem Iv{h:Heap}{a:Addr}{m m':Str->Option Value}(x:h.Ns a m)(y:h.Ns a m')(n:Str):m n=m' n:=by obtain⟨o,es,ep,h1,h2,_,h4⟩:=x;obtain⟨o',es',ep',g1,g2,_,g4⟩:=y;rw[h1]at g1;cases g1;rw[h2]at g2;cases g2;exact(h4 n).symm.trans (g4 n)
theorem Gc{w:World}{aK ap:Shared}{mg:Str->Option Value}{fa:Addr}(y:cE aK=cH w)(hk:∀b o,aK.heap.get? b=some o->ap.heap.get? b=some o)(hg:ap.heap.Ns mainGlobals mg)(h:mg jy.name=some (.ref fa)):fa=255:=by
 have yh:qD aK.heap=List.replicate 14 true:=congrArg (fun x=>x.1.2.1) y;have g:∀i b,(qD aK.heap)[i]?=some b->b=true:=fun i b=>sN yh;have ns1:ap.heap.Ns mainGlobals (aK.heap.nsMap mainGlobals):=(Heap.Ns.of_isNs (g 0 _ rfl)).keeps hk;have e:=of_decide_eq_true (List.all_eq_true.mp (g 7 _ rfl) ("law",10) (.tail _ (.tail _ (.tail _ (.tail _ (.tail _ (.tail _ (.tail _ (.tail _ (.tail _ (.tail _ (.head _))))))))))));have:jy.name=("law":Str):=by kernel_rfl
 rw[this,Iv hg ns1,e]at h;cases h;rfl
open PySem PySem.W PySem.W.X PyProof.Rows Mine
end
end
end Mine
open PySem PySem.W PySem.W.X PyProof.Rows Mine
set_option tactic.hygienic true in
set_option maxHeartbeats 8000000 in
theorem PySem.Challenge.cw_ij0139_01_holds : PySem.Challenge.rw_ij0139_01.Holds := by
 w_on
 refine holds_law BM fun said'=>?_;refine holds_openX (q:=vw) (loose:=lT) (Xt:=fun u_=>true) (XP:=fun u_ u_=>True) (Yf:=cE) (Ya:=cH) (N:=5800) FX (fun u_ u_=>trivial) (fun u_ u_ u_ u_ u_=>trivial) CQ I7 E3 (fun s u_=>recFacts_of rfl) rfl said' HD Gu ?hw ?hc
 case hw=>w_witness2
 intro w aK ap mg mb G y fa o pm cd doc dV kV ho hd hcd hD hmg hg args vals as L hpre hlay hrd hwl hlo
 wrow_args hpre hlay hrd hwl hlo
 rename_i ns _ _ _ _ _ _ _ b vs _ hL _ _ _ hI _ hz _;cases Gc y L.keeps G.T.g hmg;refine B5 y L.keeps hg (Nat.lt_of_lt_of_le (Nat.le_of_ble_eq_true (congrArg (fun x=>x.1.2.2) y)) (script_toks L rfl)) (ns:=ns) (by omega) (script_obj L hL) hI fun s' h1 h2 h3=>⟨.inl ⟨.bool true,.bool true,[],rfl,fun u_=>rfl,.bool true,by wrow_post,fun u_=>⟨.nil,fun a m=>by cases m⟩⟩,h1,h2,h3⟩
