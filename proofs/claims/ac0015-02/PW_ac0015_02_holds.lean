import PyProof.Rows.All
import PyProof.Rows.EqNone
import PyProof.SliceMore
import Wide.WTab
import KE.BitLaws
import OpenK.KMake
import Open.Split
import KE.BytesMake
import KE.LcSums
import KE.KDictSum
import KE.KIsBytes
import KE.KSorted
import KE.KRevIter
import KE.KStar
import Wide.FinOn
import OpenK.AllK
import Wide.All
import Lean
import PySem.Challenge.RW_ac0015_02
set_option Elab.async false
set_option linter.all false
set_option maxRecDepth 100000
set_option maxHeartbeats 8000000
set_option bootstrap.genMatcherCode false
set_option genSizeOf false
set_option genInjectivity false
set_option compiler.extract_closed false
set_option tactic.hygienic false
set_option backward.match.sparseCases false
namespace Internal
namespace Sv
theorem cQ {α : Type _} {a b : α} (h : some a = some b) : a = b := Option.some.inj h
theorem cj {α : Type _} [BEq α] [LawfulBEq α] {a b : α} (h : (a == b) = true) : a = b := beq_iff_eq.mp h
theorem d6 {p : Prop} [Decidable p] (h : decide p = true) : p := of_decide_eq_true h
section
variable {α β:Type}{P:Prop}
theorem bO{o:Option α}{f:α→Option β}{b:β}(h:o.bind f=some b)(k:∀a,o=some a→f a=some b→P):P:=by
 cases o with
 |none=>exact nomatch h
 |some a=>exact k a rfl h
theorem mO{o:Option α}{f:α→β}{b:β}(h:o.map f=some b)(k:∀a,o=some a→f a=b→P):P:=by
 cases o with
 |none=>exact nomatch h
 |some a=>exact k a rfl (cQ h)
noncomputable def gd(c:Bool)(o:Option α):Option α:=match c with
 |true=>o
 |false=>none
theorem nO{α:Type}{a:α}{P:Prop}(h:Option.none=some a):P:=nomatch h
theorem gO{c:Bool}{o:Option α}{b:α}(h:gd c o=some b)(k:c=true→o=some b→P):P:=by
 cases c with
 |false=>exact nomatch h
 |true=>exact k rfl h
theorem oO{o p:Option α}{b:α}(h:o.or p=some b)(k:o=some b→P)(k':p=some b→P):P:=by
 cases o with
 |none=>exact k' h
 |some a=>exact k h
theorem aL{a b:Bool}(h:(a&&b)=true):a=true:=(Bool.and_eq_true_iff.mp h).1
theorem aR{a b:Bool}(h:(a&&b)=true):b=true:=(Bool.and_eq_true_iff.mp h).2
theorem aB{a b:Bool}(h:(a&&b)=true)(k:a=true→b=true→P):P:=k (Bool.and_eq_true_iff.mp h).1 (Bool.and_eq_true_iff.mp h).2
end
open Lean
@[reducible] def KX(a:List Syntax):List String→List Syntax→List Syntax
 |c::t::r,st=>KX a r (match c with
  |"'"=>.atom .none t::st
  |"#"=>mkIdent t.toName::st
  |"$"=>a.getD t.length .missing::st
  |_=>.node .none t.toName (st.take c.length).toArray::st.drop c.length)
 |_,st=>st
@[reducible] def sy(s:String)(a:List Syntax):Syntax:=.node .none `null (KX a (s.splitOn " ") []).toArray
@[reducible] def Ai(l:List Syntax):Syntax:=.node .none ``Parser.Tactic.first #[.atom .none "first",.node .none `null (l.map fun t=>.node .none `group #[.atom .none "|",t]).toArray]
@[reducible] def kr:Syntax:=sy "' kernel_rfl - tacticKernel_rfl" []
@[reducible] def Lz:Syntax:=sy "' rfl - Lean.Parser.Tactic.tacticRfl  null ' intros -- Lean.Parser.Tactic.intros" []
theorem ex1{t0:Type _}{p:t0→Prop}{P:Prop}(h:∃x0,p x0)(k:∀x0,p x0→P):P:=h.elim k
theorem ex2{t0 t1:Type _}{p:t0→t1→Prop}{P:Prop}(h:∃x0 x1,p x0 x1)(k:∀x0 x1,p x0 x1→P):P:=h.elim fun x0 h=>h.elim fun x1 h=>k x0 x1 h
theorem ex3{t0 t1 t2:Type _}{p:t0→t1→t2→Prop}{P:Prop}(h:∃x0 x1 x2,p x0 x1 x2)(k:∀x0 x1 x2,p x0 x1 x2→P):P:=h.elim fun x0 h=>h.elim fun x1 h=>h.elim fun x2 h=>k x0 x1 x2 h
theorem ex4{t0 t1 t2 t3:Type _}{p:t0→t1→t2→t3→Prop}{P:Prop}(h:∃x0 x1 x2 x3,p x0 x1 x2 x3)(k:∀x0 x1 x2 x3,p x0 x1 x2 x3→P):P:=h.elim fun x0 h=>h.elim fun x1 h=>h.elim fun x2 h=>h.elim fun x3 h=>k x0 x1 x2 x3 h
theorem ex5{t0 t1 t2 t3 t4:Type _}{p:t0→t1→t2→t3→t4→Prop}{P:Prop}(h:∃x0 x1 x2 x3 x4,p x0 x1 x2 x3 x4)(k:∀x0 x1 x2 x3 x4,p x0 x1 x2 x3 x4→P):P:=h.elim fun x0 h=>h.elim fun x1 h=>h.elim fun x2 h=>h.elim fun x3 h=>h.elim fun x4 h=>k x0 x1 x2 x3 x4 h
theorem ex6{t0 t1 t2 t3 t4 t5:Type _}{p:t0→t1→t2→t3→t4→t5→Prop}{P:Prop}(h:∃x0 x1 x2 x3 x4 x5,p x0 x1 x2 x3 x4 x5)(k:∀x0 x1 x2 x3 x4 x5,p x0 x1 x2 x3 x4 x5→P):P:=h.elim fun x0 h=>h.elim fun x1 h=>h.elim fun x2 h=>h.elim fun x3 h=>h.elim fun x4 h=>h.elim fun x5 h=>k x0 x1 x2 x3 x4 x5 h
theorem ex7{t0 t1 t2 t3 t4 t5 t6:Type _}{p:t0→t1→t2→t3→t4→t5→t6→Prop}{P:Prop}(h:∃x0 x1 x2 x3 x4 x5 x6,p x0 x1 x2 x3 x4 x5 x6)(k:∀x0 x1 x2 x3 x4 x5 x6,p x0 x1 x2 x3 x4 x5 x6→P):P:=h.elim fun x0 h=>ex6 h (k x0)
end Sv
open Lean Sv in
local macro_rules (kind:=Lean.Parser.Tactic.obtain)
  |x=>do
    let p:=x[1][0]
    let e:=x[3][1][0]
    let o:=p[0][0]
    let i:=e.isIdent
    let cl:=if i then Ai [sy "$  - null ' clear -- Lean.Parser.Tactic.clear" [e],sy "" []] else sy "" []
    let old:=sy " null $ - -- Lean.Parser.Tactic.rcasesPatLo ' with -- null $   null -- Lean.Parser.Tactic.elimTarget - null ' rcases --- Lean.Parser.Tactic.rcases" [e,p]
    let l:=o[1].getSepArgs.toList
    if x[2].getNumArgs+p[0].getNumArgs != 1 then Macro.throwUnsupported
    match o.getArgs.size with
    |1=>
      if o[0].isIdent then
        if o[0].getId==`rfl then (if i then return old else Macro.throwUnsupported)
        else return sy "$ ------ $  ' :=  null  null $ -- - Lean.Parser.Term.letId ----- Lean.Parser.Term.letIdDecl - Lean.Parser.Term.letDecl  null - Lean.Parser.Term.letConfig ' haveI --- Lean.Parser.Tactic.tacticHaveI__" [e,e,o[0],e,e,e,cl]
      else return cl
    |_=>
      if l.length<2 then Macro.throwUnsupported
      let a:=mkIdent (←Macro.addMacroScope `a)
      if !i then return sy "$ -- - null ' := -- null  null $ - - null ' obtain ---- Lean.Parser.Tactic.obtain $  ' :=  null  null $ -- - Lean.Parser.Term.letId ----- Lean.Parser.Term.letIdDecl - Lean.Parser.Term.letDecl  null - Lean.Parser.Term.letConfig ' haveI --- Lean.Parser.Tactic.tacticHaveI__" [e,p,a]
      let b:=mkIdent (←Macro.addMacroScope `b)
      let rest (l:List Syntax):Syntax:=match l with
        |[q]=>q[0]
        |_=>p.setArg 0 (.node .none `null #[o.setArg 1 (Syntax.mkSep l.toArray (.atom .none ","))])
      let f j:=sy "$ ---- - null ' := -- null  null $ --- - null ' obtain ---- Lean.Parser.Tactic.obtain  null $ -- ' rintro --- Lean.Parser.Tactic.rintro $ ----- ' _ ' ? -- Lean.Parser.Term.syntheticHole $  -- null $ - -- Lean.Parser.Term.app ' refine -- Lean.Parser.Tactic.refine" [e,mkIdent (.mkStr `Sv s!"ex{j}"),.node .none `null ((l.take j).map (fun q=>Syntax.node .none ``Parser.Tactic.rintroPat.one #[q[0][0][0]])++[sy "$  - Lean.Parser.Tactic.rcasesPat.one - Lean.Parser.Tactic.rintroPat.one" [b] |>.getArg 0]).toArray,rest (l.drop j),b,cl]
      let k:=(l.takeWhile fun q=>q[0][0].getNumArgs==1).length
      return Ai ((([7,6,5,4,3,2].filter fun j=>j≤k&&j<l.length).map f)++sy "$ --- - null ' := -- null  null $ ----- - null ' obtain ---- Lean.Parser.Tactic.obtain $ -- - null ' := -- null  null $ ---- - null ' obtain ---- Lean.Parser.Tactic.obtain $ ------ $  - null # And.right -- Lean.Parser.Term.app ' :=  null  null $ --- - Lean.Parser.Term.letId ----- Lean.Parser.Term.letIdDecl - Lean.Parser.Term.letDecl  null - Lean.Parser.Term.letConfig ' haveI --- Lean.Parser.Tactic.tacticHaveI__ $  - null # And.left -- Lean.Parser.Term.app ' :=  null  null $ -- - Lean.Parser.Term.letId ----- Lean.Parser.Term.letIdDecl - Lean.Parser.Term.letDecl  null - Lean.Parser.Term.letConfig ' haveI --- Lean.Parser.Tactic.tacticHaveI__" [e,p,a,b,l.head![0],rest l.tail,cl]::(if k==0 then [] else [f 1])++[old])
open Lean Sv in
local macro_rules (kind:=Lean.Parser.Tactic.cases)
  |x=>do
    let h:=x[1][0][1]
    if h.isIdent&&x[3].getNumArgs==0&&x[0].getAtomVal != "c" then
      let y:=x.setArg 0 (.atom .none "c")
      let n:=sy "$  - null # Sv.nO -- Lean.Parser.Term.app ' exact -- Lean.Parser.Tactic.exact" [h]
      let c:=Ai [sy "$  - null ' clear -- Lean.Parser.Tactic.clear" [h],sy "" []]
      let f o:=sy s!"$ - ' _ ' ? -- Lean.Parser.Term.syntheticHole $  -- null # Sv.ok{o} -- Lean.Parser.Term.app ' refine -- Lean.Parser.Tactic.refine" [h,c]
      return Ai [n,f "E",f "X",f "S",sy "' done - Lean.Parser.Tactic.done $  ' exfalso - Lean.Parser.Tactic.tacticExfalso" [y],y]
    else Macro.throwUnsupported

open Lean Sv in
local macro_rules (kind:=PyProof.Rows.tacticWalk_at_)
  |x=>do
    let l:=match x[1].isStrLit?.getD "" with
      |"side"=>"x' assumption - Lean.Parser.Tactic.assumption ' with_reducible -- Lean.Parser.Tactic.withReducible|x null - Lean.Parser.Tactic.optConfig ' omega -- Lean.Parser.Tactic.omega"
      |"ev"=>"aV.ssC|aV.ssKn|eV.ssKr|eV.ssKc|eV.ssN|aV.sExpr|aV.sAssignN|aV.sExprX|aV.sAssignXN|aV.sAssignT|aV.sSlot|aV.sSub|aV.sSlice|aV.sAugN|aV.bindN|aV.bind2N|aV.bind3N|aV.sIte|aV.sIteT|aV.sIteF|eV.sRet0|aV.sRet|eV.sCont|eV.litt|aV.varr|aV.binn|aV.unn|aV.andd|aV.andT|eV.andF|aV.orr|eV.orT|aV.orF|aV.cmpp|aV.cmp22|aV.cmp2T|aV.itt|aV.iteT|aV.iteF|aV.slott|aV.cattrr|aV.subb|eV.oN|aV.oS|aV.slicee|eV.esN|aV.esC|aV.tupp|aV.lst|eV.newl|eV.newd0|eV.newd1|eV.newd2|aV.cllF|aV.mthI|aV.mthKwI|aV.bcl|aV.bmt|aV.cpr|aV.sFor|aV.sWhile|aV.srcR|aV.srcE|aV.src1|aV.loopFKn|aV.loopFKc|eV.loopFKr|aV.loopWKn|aV.loopWKc|aV.loopWT|eV.loopWF|aV.loopWg|x# V.loopFg ' apply -- Lean.Parser.Tactic.apply ' ! -- group # V.loopFn ' exact -- Lean.Parser.Tactic.exact ' ! -- group -- null ' first -- Lean.Parser.Tactic.first ' _ - Lean.Parser.Term.hole ' = ' _ - Lean.Parser.Term.hole ' _ - Lean.Parser.Term.hole ' _ - Lean.Parser.Term.hole ' _ - Lean.Parser.Term.hole ' _ - Lean.Parser.Term.hole ' _ - Lean.Parser.Term.hole ------ null # loopF -- Lean.Parser.Term.app --- «term_=_» ' show -- Lean.Parser.Tactic.show ' with_reducible -- Lean.Parser.Tactic.withReducible -- null|x' assumption - Lean.Parser.Tactic.assumption ' _ - Lean.Parser.Term.hole ' = ' _ - Lean.Parser.Term.hole --- «term_=_» ' show -- Lean.Parser.Tactic.show -- null ' ! -- group ' rfl - Lean.Parser.Tactic.tacticRfl ' ! -- group # trivial ' exact -- Lean.Parser.Tactic.exact ' ! -- group --- null ' first -- Lean.Parser.Tactic.first ' _ - Lean.Parser.Term.hole ' _ - Lean.Parser.Term.hole ' _ - Lean.Parser.Term.hole --- null # Sv.same -- Lean.Parser.Term.app ' show -- Lean.Parser.Tactic.show ' with_reducible -- Lean.Parser.Tactic.withReducible -- null|x' rfl - Lean.Parser.Tactic.tacticRfl ' ! -- group ' done - Lean.Parser.Tactic.done ' ! -- group -- null ' first -- Lean.Parser.Tactic.first  null ' ] # List.set_cons_succ  null  null --- Lean.Parser.Tactic.simpLemma ' , # List.set_cons_zero  null  null --- Lean.Parser.Tactic.simpLemma --- null ' [ --- null ' only - null  null  null - Lean.Parser.Tactic.optConfig ' simp ------ Lean.Parser.Tactic.simp ' _ - Lean.Parser.Term.hole ' = ' _ - Lean.Parser.Term.hole ' _ - Lean.Parser.Term.hole ' _ - Lean.Parser.Term.hole --- null # List.set -- Lean.Parser.Term.app --- «term_=_» ' show -- Lean.Parser.Tactic.show ' with_reducible -- Lean.Parser.Tactic.withReducible --- null|x' \"lv\" - str ' walk_at -- PyProof.Rows.tacticWalk_at_|x# V.ssN ' exact -- Lean.Parser.Tactic.exact"
      |"lv"=>"x' assumption - Lean.Parser.Tactic.assumption ' with_reducible -- Lean.Parser.Tactic.withReducible|ecx65|ecx93|ecx121|ecx133|ecx145|bBI.g0|bBI.g1|bBI.g2|bBI.g4|bBI.g5|bBI.g6|bBI.g7|bBI.g8|bBI.g10|sV.eqT|sV.eqF|sV.neT|sV.neF|sV.leT|sV.leF|sV.ltT|sV.ltF|sV.gtT|sV.gtF|sV.geT|sV.geF|eV.isNN|eV.isNotNN|eV.neNN|lV.notT|lV.notF|lV.not|x' \"lv\" - str ' walk_at -- PyProof.Rows.tacticWalk_at_ ' rfl - Lean.Parser.Tactic.tacticRfl ' focus -- Lean.Parser.Tactic.focus ' _ ' ? -- Lean.Parser.Term.syntheticHole ' _ ' ? -- Lean.Parser.Term.syntheticHole -- null # V.rch -- Lean.Parser.Term.app ' refine -- Lean.Parser.Tactic.refine ' with_reducible -- Lean.Parser.Tactic.withReducible --- null|x' ) ' ) ' assumption - Lean.Parser.Tactic.assumption ' by -- Lean.Parser.Term.byTactic # [anonymous] - hygieneInfo ' ( -- Lean.Parser.Term.hygienicLParen --- Lean.Parser.Term.paren - null # BI.gl0 -- Lean.Parser.Term.app # [anonymous] - hygieneInfo ' ( -- Lean.Parser.Term.hygienicLParen --- Lean.Parser.Term.paren - null # V.bLen1 -- Lean.Parser.Term.app ' exact -- Lean.Parser.Tactic.exact ' with_reducible -- Lean.Parser.Tactic.withReducible|x' rfl - Lean.Parser.Tactic.tacticRfl # V.mulR ' apply -- Lean.Parser.Tactic.apply ' with_reducible -- Lean.Parser.Tactic.withReducible -- null|x' rfl - Lean.Parser.Tactic.tacticRfl # V.mulL ' apply -- Lean.Parser.Tactic.apply ' with_reducible -- Lean.Parser.Tactic.withReducible -- null|x' rfl - Lean.Parser.Tactic.tacticRfl  null - Lean.Parser.Tactic.optConfig ' decide -- Lean.Parser.Tactic.decide ' focus -- Lean.Parser.Tactic.focus # V.fdiv ' apply -- Lean.Parser.Tactic.apply ' with_reducible -- Lean.Parser.Tactic.withReducible --- null|x null - Lean.Parser.Tactic.optConfig ' decide -- Lean.Parser.Tactic.decide # V.fmod ' apply -- Lean.Parser.Tactic.apply ' with_reducible -- Lean.Parser.Tactic.withReducible -- null|x' rfl - Lean.Parser.Tactic.tacticRfl ' _ - Lean.Parser.Term.hole - null # some -- Lean.Parser.Term.app ' = ' _ - Lean.Parser.Term.hole --- «term_=_» ' show -- Lean.Parser.Tactic.show ' with_reducible -- Lean.Parser.Tactic.withReducible -- null|x' rfl - Lean.Parser.Tactic.tacticRfl ' _ - Lean.Parser.Term.hole ' = ' _ - Lean.Parser.Term.hole ' _ - Lean.Parser.Term.hole ' _ - Lean.Parser.Term.hole --- null # Sv.bcall -- Lean.Parser.Term.app --- «term_=_» ' show -- Lean.Parser.Tactic.show ' with_reducible -- Lean.Parser.Tactic.withReducible -- null|x' rfl - Lean.Parser.Tactic.tacticRfl # true ' = ' _ - Lean.Parser.Term.hole --- «term_=_» ' show -- Lean.Parser.Tactic.show ' with_reducible -- Lean.Parser.Tactic.withReducible -- null"
      |_=>""
    if l=="" then Macro.throwUnsupported
    return Ai ((l.splitOn "|").map fun x=>
      let n:=(x.drop 1).toString
      match x.front with
      |'x'=>sy n []
      |c=>sy (match c with
        |'a'=>"$  ' apply -- Lean.Parser.Tactic.apply ' with_reducible -- Lean.Parser.Tactic.withReducible"
        |'e'=>"$  ' exact -- Lean.Parser.Tactic.exact ' with_reducible -- Lean.Parser.Tactic.withReducible"
        |'b'=>"' ) ' assumption - Lean.Parser.Tactic.assumption ' by -- Lean.Parser.Term.byTactic # [anonymous] - hygieneInfo ' ( -- Lean.Parser.Term.hygienicLParen --- Lean.Parser.Term.paren - null $  -- Lean.Parser.Term.app ' exact -- Lean.Parser.Tactic.exact ' with_reducible -- Lean.Parser.Tactic.withReducible"
        |'s'=>"' \"side\" - str ' walk_at -- PyProof.Rows.tacticWalk_at_ $  ' apply -- Lean.Parser.Tactic.apply ' with_reducible -- Lean.Parser.Tactic.withReducible -- null"
        |_=>"' \"lv\" - str ' walk_at -- PyProof.Rows.tacticWalk_at_ $  ' apply -- Lean.Parser.Tactic.apply ' with_reducible -- Lean.Parser.Tactic.withReducible -- null") [mkIdent n.toName])

namespace Sv
open PySem PySem.W PyProof.Rows PySem.Calls PySem.Builtin
open Sem (wp)
section
set_option backward.match.sparseCases true
noncomputable def eJ:List String:=Bytes.decodersThatHold++["bytearray.__contains__","bytearray.__mod__","bytearray.__rmod__","_struct.pack_into.held","bytearray.find.held"]
noncomputable def dm:Code→Bool
 |.builtin i _=>eJ.contains i
 |_=>false
def gT(l:List (Code×Pos)):Prop:=∀x∈l,dm x.1=false
theorem gT.nil:gT []:=fun j h=>by cases h
theorem gT.cons{c:Code}{p:Pos}{l:List (Code×Pos)}(h:dm c=false)(hl:gT l):gT ((c,p)::l):=fun x m=>by
 rcases List.mem_cons.mp m with rfl|m
 ·exact h
 ·exact hl x m
def au{α:Type}(M:Model)(A:Around)(t:Sem α)(Q:α→Shared→Prop)(E:Value→Shared→Prop)(s:Shared):Prop:=
 ∀(Γ:PySem.Ctx)(p:Pos),Γ.In A→dm Γ.code=false→gT Γ.below→wp M Γ t (fun a j s'=>Q a s') (fun e j s'=>E e s') p s
def bz(M:Model)(A:Around)(c:Code)(R:Result→Shared→Prop)(s:Shared):Prop:=
 ∀(Γ:PySem.Ctx)(p:Pos),Γ.code=c→Γ.Below A→gT Γ.below→wpCode M Γ R p s
namespace K
variable {α β:Type}{M:Model}{A:Around}{E:Value→Shared→Prop}{s:Shared}
theorem of{t:Sem α}{Q:α→Shared→Prop}(h:wpAny M A t Q E s):au M A t Q E s:=fun Γ p kL j j=>h Γ p kL
theorem pure{a:α}{Q:α→Shared→Prop}(h:Q a s):au M A (Pure.pure a) Q E s:=fun j j j j j=>h
theorem mono{t:Sem α}{Q Q':α→Shared→Prop}{E':Value→Shared→Prop}(h:au M A t Q E s)(hQ:∀a s,Q a s→Q' a s)(hE:∀e s,E e s→E' e s):au M A t Q' E' s:=
 fun Γ p kL h1 h2=>Sem.wp_mono M Γ t (fun a j s=>hQ a s) (fun e j s=>hE e s) p s (h Γ p kL h1 h2)
theorem bind{m:Sem α}{f:α→Sem β}{Q:β→Shared→Prop}(h:au M A m (fun a s'=>au M A (f a) Q E s') E s):au M A (m>>=f) Q E s:=fun Γ p kL h1 h2=>by
 rw[Sem.wp_bind'];exact Sem.wp_mono M Γ m (fun a p' s' h'=>h' Γ p' kL h1 h2) (fun j j j h'=>h') p s (h Γ p kL h1 h2)
theorem seq{m:Sem α}{f:α→Sem β}{P:α→Shared→Prop}{Q:β→Shared→Prop}(h:au M A m P E s)(k:∀a s',P a s'→au M A (f a) Q E s'):au M A (m>>=f) Q E s:=bind (mono h k fun j j x=>x)
theorem leaf{m:Sem α}{f:α→Sem β}{P:α→Shared→Prop}{Q:β→Shared→Prop}(h:wpAny M A m P E s)(k:∀a s',P a s'→au M A (f a) Q E s'):au M A (m>>=f) Q E s:=seq (of h) k
theorem holding{vs:List Value}{m:Sem α}{Q:α→Shared→Prop}(h:au M A m Q E s):au M A (PySem.holding vs m) Q E s:=fun Γ p kL h1 h2=>by rw[Sem.wp_holding];exact h Γ p kL h1 h2
theorem keep{vs:List Value}{m:Sem α}{Q:α→Shared→Prop}(h:au M A m Q E s):au M A (m.keep vs) Q E s:=fun Γ p kL h1 h2=>by rw[Sem.wp_keep];exact h Γ p kL h1 h2
theorem operate{vs:List Value}{m:Sem Value}{Q:Value→Shared→Prop}(h:au M A m Q E s):au M A (PySem.operate vs m) Q E s:=fun Γ p kL h1 h2=>by rw[Sem.wp_operate];exact h Γ p kL h1 h2
theorem onRaise{m:Sem α}{k:Value→Sem Unit}{Q:α→Shared→Prop}(h:au M A m Q (fun e s'=>au M A (k e) (fun j zE=>E e zE) E s') s):au M A (m.onRaise k) Q E s:=fun Γ p kL h1 h2=>by
 rw[Sem.wp_onRaise];exact Sem.wp_mono M Γ m (fun j j j h'=>h') (fun e p' s' h'=>h' Γ p' kL h1 h2) p s (h Γ p kL h1 h2)
theorem standAt{pos:Pos}{Q:Unit→Shared→Prop}(h:Q () s):au M A (PySem.standAt pos) Q E s:=fun j j j j j=>h
theorem point{Q:Unit→Shared→Prop}(h:Q () s):au M A PySem.point Q E s:=fun j j j j j=>h
theorem release{vs k:List Value}{Q:Unit→Shared→Prop}(h:Q () s):au M A (PySem.release vs k) Q E s:=fun Γ p j j j=>by rw[Sem.wp_release];exact h
theorem gu{c:Code}{R R':Result→Shared→Prop}(h:bz M A c R s)(hR:∀r s,R r s→R' r s):bz M A c R' s:=fun Γ p hc kL h2=>wpCode_mono hR (h Γ p hc kL h2)
theorem runValue{c:Code}{Q:Value→Shared→Prop}(hc:bz M A c (fun r s'=>match r with|.ok (.ret v)=>Q v s'|.ok _=>False|.error e=>E e s') s):au M A (PySem.runValue c) Q E s:=fun Γ p kL h1 h2=>by
 rw[Sem.wp_runValue];exact hc _ p rfl (kL.enter c Option.none p (by intro x;cases x)) (gT.cons h1 h2)
theorem run{c:Code}{Q:Flow→Shared→Prop}(hc:bz M A c (fun r s'=>match r with|.ok f=>Q f s'|.error e=>E e s') s):au M A (PySem.run c Option.none) Q E s:=fun Γ p kL h1 h2=>by
 rw[Sem.wp_run];exact hc _ p rfl (kL.enter c Option.none p (by intro x;cases x)) (gT.cons h1 h2)
theorem call{f:Value}{pos:List Value}{kw:List (Str×Value)}{Q:Value→Shared→Prop}
  (hc:bz M A (.call f ⟨pos,kw⟩) (fun r s'=>match r with|.ok (.ret v)=>Q v s'|.ok _=>False|.error e=>E e s') s):au M A (PySem.call f pos kw) Q E s:=runValue hc
theorem ofTree{c:Code}{R:Result→Shared→Prop}(hh:dm c=false)
  (h:au M (A.under c) (M.den c) (fun fin s'=>match fin with|.done f=>R (.ok f) s'|.again c'=>c'.quiet=true∧bz M A c' R s') (fun e s'=>R (.error e) s') s):bz M A c R s:=fun Γ p hc kL h2=>by
 rw[wpCode_iff_wp,hc];refine Sem.wp_mono M Γ _ (fun fin p' s' h'=>?_) (fun j j j h'=>h') p s (h Γ p (hc▸kL.in) (hc▸hh) h2);cases fin with
 |done f=>exact h'
 |again c'=>exact⟨h'.1,h'.2 (Γ.goto c') p' rfl (kL.goto c') h2⟩
variable {env:Env}
theorem tB{e:Expr}{aH:Sem Value}{Q:Bool→Shared→Prop}(h:au M A aH (fun v aa=>au M A (PySem.truthy v) Q E aa) E s)
  (he:isTrue e env aH=(do let v ←aH;PySem.standAt e.pos;PySem.holding [v] (PySem.truthy v))):au M A (isTrue e env aH) Q E s:=by
 rw[he];exact seq h fun v aa az=>bind (standAt (holding az))
theorem binOp{l r:Expr}{op:Operator}{pos:Pos}{Q:Value→Shared→Prop}(h:au M A (eval l env) (fun a aa=>au M A (eval r env) (fun b ag=>au M A (binaryOp op a b) Q E ag) E aa) E s):au M A (eval (.BinOp l op r pos) env) Q E s:=by
 rw[eval_BinOp];exact seq h fun a aa az=>bind (holding (mono az (fun b ag bw=>bind (standAt (operate bw))) fun j j x=>x))
theorem Mg{x:Expr}{op:UnaryOp}{pos:Pos}{Q:Value→Shared→Prop}(h:au M A (eval x env) (fun v aa=>au M A (unaryOp op v) Q E aa) E s):au M A (eval (.UnaryOp op x pos) env) Q E s:=by
 rw[arm_eval_UnaryOp];exact seq h fun v aa az=>bind (standAt (holding az))
theorem w8{x:Expr}{pos:Pos}{aH:Sem Value}{Q:Bool→Shared→Prop}(h:au M A (isTrue x env (eval x env)) (fun b aa=>Q (!b) aa) E s):au M A (isTrue (.UnaryOp .Not x pos) env aH) Q E s:=by
 rw[arm_isTrue_UnaryOp];exact seq h fun b aa az=>pure az
theorem ME{l r:Expr}{op:CmpOp}{pos:Pos}{Q:Value→Shared→Prop}(h:au M A (eval l env) (fun a aa=>au M A (eval r env) (fun b ag=>au M A (compareOp op a b) Q E ag) E aa) E s)(hm:behindInMarks op r=false):au M A (eval (.Compare l [op] [r] pos) env) Q E s:=by
 rw[eval_Compare1,markedBehindIn_of_false hm];exact seq h fun a aa az=>bind (holding (mono az (fun b ag bw=>bind (standAt (operate bw))) fun j j x=>x))
theorem zP{l r:Expr}{op:CmpOp}{pos:Pos}{aH:Sem Value}{Q:Bool→Shared→Prop}(h:au M A (eval l env) (fun a aa=>au M A (eval r env) (fun b ag=>au M A (compareOp op a b) (fun c bh=>au M A (PySem.truthy c) Q E bh) E ag) E aa) E s)(hm:behindInMarks op r=false) :
  au M A (isTrue (.Compare l [op] [r] pos) env aH) Q E s:=by
 rw[isTrue_Compare1,markedBehindIn_of_false hm];exact seq h fun a aa az=>bind (holding (mono az (fun b ag bw=>bind (standAt (bind (operate (mono bw (fun c bh c9=>holding c9) fun j j x=>x))))) fun j j x=>x))
theorem K2{c a b:Expr}{pos:Pos}{Q:Value→Shared→Prop}(h:au M A (isTrue c env (eval c env)) (fun t aa=>if t then au M A (eval a env) Q E aa else au M A (eval b env) Q E aa) E s):au M A (eval (.IfExp c a b pos) env) Q E s:=by
 rw[arm_eval_IfExp];refine seq h fun t aa az=>?_
 cases t<;>exact az
theorem subscript{v i:Expr}{pos:Pos}{Q:Value→Shared→Prop}(h:au M A (eval v env) (fun o aa=>au M A (eval i env) (fun x ag=>au M A (subscriptTail v i o x) Q E ag) E aa) E s):au M A (eval (.Subscript v i pos) env) Q E s:=by
 rw[eval_Subscript];exact seq h fun o aa az=>bind (holding (mono az (fun x ag bw=>bind (standAt bw)) fun j j x=>x))
theorem slice{l u st:Option Expr}{p:Pos}{Q:Value→Shared→Prop}(h:au M A (evalPart l env) (fun a aa=>au M A (evalPart u env) (fun b ag=>au M A (evalPart st env) (fun c bh=>
   Q (.ref bh.heap.objs.size) { bh with heap:=bh.heap.push { cls:=.type "slice",data:=.fields #[a,b,c] } }) E ag) E aa) E s):au M A (eval (.Slice l u st p) env) Q E s:=by
 rw[arm_eval_Slice];exact seq h fun a aa az=>bind (holding (mono az (fun b ag bw=>bind (holding (mono bw (fun c bh c9=>of (wpAny_newObj_type c9)) fun j j x=>x))) fun j j x=>x))
theorem chain{l o r:Expr}{jT kF:CmpOp}{pos:Pos}{Q:Value→Shared→Prop}(h:au M A (eval l env) (fun a aa=>au M A (compareChain pos a [jT,kF] [eval o env,eval r env]) Q E aa) E s)(hm:lastMarks [jT,kF] [o,r]=false) :
  au M A (eval (.Compare l [jT,kF] [o,r] pos) env) Q E s:=by
 rw[arm_eval_Compare,markedEach_of_false _ _ _ hm];exact bind h
theorem yd{l o r:Expr}{jT kF:CmpOp}{pos:Pos}{aH:Sem Value}{Q:Bool→Shared→Prop}(h:au M A (eval l env) (fun a aa=>au M A (testChain pos a [jT,kF] [eval o env,eval r env]) Q E aa) E s)(hm:lastMarks [jT,kF] [o,r]=false) :
  au M A (isTrue (.Compare l [jT,kF] [o,r] pos) env aH) Q E s:=by
 show au M A (do testChain pos (←eval l env) [jT,kF] (markedEach [jT,kF] [o,r] (evalEach [o,r] env))) Q E s;rw[markedEach_of_false _ _ _ hm];exact bind h
theorem yj{pos:Pos}{a:Value}{op FJ:CmpOp}{r r':Sem Value}{Q:Value→Shared→Prop}(h:au M A r (fun b aa=>au M A (compareOp op a b) (fun c ag=>au M A (PySem.truthy c) (fun t bh=>if t then au M A (compareChain pos b [FJ] [r']) Q E bh else Q c bh) E ag) E aa) E s) :
  au M A (compareChain pos a [op,FJ] [r,r']) Q E s:=by
 show au M A (do
  let b ←PySem.holding [a] r
  PySem.standAt pos
  let c ←PySem.holding [a,b] (compareOp op a b)
  PySem.release [a,b] [c]
  if ←PySem.holding [c,b] (PySem.truthy c) then compareChain pos b [FJ] [r'] else Pure.pure c) Q E s
 refine bind (holding (mono h (fun b aa az=>bind (standAt (bind (holding (mono az (fun c ag bw=>bind (release (bind (holding (mono bw (fun t bh c9=>?_) fun j j x=>x))))) fun j j x=>x))))) fun j j x=>x));cases t
 ·exact pure c9
 ·exact c9
theorem xJ{pos:Pos}{a:Value}{op:CmpOp}{r:Sem Value}{Q:Value→Shared→Prop}(h:au M A r (fun b aa=>au M A (compareOp op a b) Q E aa) E s):au M A (compareChain pos a [op] [r]) Q E s:=by
 show au M A (do let b ←PySem.holding [a] r;PySem.standAt pos;PySem.operate [a,b] (compareOp op a b)) Q E s;exact bind (holding (mono h (fun b aa az=>bind (standAt (operate az))) fun j j x=>x))
theorem BC{pos:Pos}{a:Value}{op FJ:CmpOp}{r r':Sem Value}{Q:Bool→Shared→Prop}(h:au M A r (fun b aa=>au M A (compareOp op a b) (fun c ag=>au M A (PySem.truthy c) (fun t bh=>if t then au M A (testChain pos b [FJ] [r']) Q E bh else Q false bh) E ag) E aa) E s) :
  au M A (testChain pos a [op,FJ] [r,r']) Q E s:=by
 show au M A (do
  let b ←PySem.holding [a] r
  PySem.standAt pos
  let c ←PySem.holding [a,b] (compareOp op a b)
  PySem.release [a,b] [c]
  if ←PySem.holding [c,b] (PySem.truthy c) then testChain pos b [FJ] [r'] else Pure.pure false) Q E s
 refine bind (holding (mono h (fun b aa az=>bind (standAt (bind (holding (mono az (fun c ag bw=>bind (release (bind (holding (mono bw (fun t bh c9=>?_) fun j j x=>x))))) fun j j x=>x))))) fun j j x=>x));cases t
 ·exact pure c9
 ·exact c9
theorem An{pos:Pos}{a:Value}{op:CmpOp}{r:Sem Value}{Q:Bool→Shared→Prop}(h:au M A r (fun b aa=>au M A (compareOp op a b) (fun c ag=>au M A (PySem.truthy c) Q E ag) E aa) E s):au M A (testChain pos a [op] [r]) Q E s:=by
 show au M A (do let b ←PySem.holding [a] r;PySem.standAt pos;let c ←PySem.operate [a,b] (compareOp op a b);PySem.holding [c] (PySem.truthy c)) Q E s;exact bind (holding (mono h (fun b aa az=>bind (standAt (bind (operate (mono az (fun c ag bw=>holding bw) fun j j x=>x))))) fun j j x=>x))
theorem nK{pos:Pos}{op:BoolOp}{x y:Sem Value}{rest:List (Sem Value)}{Q:Value→Shared→Prop}
  (h:au M A x (fun v aa=>au M A (PySem.truthy v) (fun t ag=>if (match op with|.And=>t|.Or=>!t) then au M A (boolOp pos op (y::rest)) Q E ag else Q v ag) E aa) E s):au M A (boolOp pos op (x::y::rest)) Q E s:=by
 show au M A (do
  let v ←x
  PySem.standAt pos
  let t ←PySem.holding [v] (PySem.truthy v)
  match op,t with
  |.And,false|.Or,true=>Pure.pure v
  |_,_=>boolOp pos op (y::rest)) Q E s
 refine seq h fun v aa az=>bind (standAt (bind (holding (mono az (fun t ag bw=>?_) fun j j x=>x))))
 cases op<;>cases t<;>first|exact bw|exact pure bw
theorem t9{op:BoolOp}{vs:List Expr}{pos:Pos}{aH:Sem Value}{Q:Bool→Shared→Prop}(h:au M A (allTrue op vs env) Q E s):au M A (isTrue (.BoolOp op vs pos) env aH) Q E s:=by rw[arm_isTrue_BoolOp];exact h
theorem fO{op:BoolOp}{x:Expr}{rest:List Expr}{Q:Bool→Shared→Prop}
  (h:au M A (isTrue x env (eval x env)) (fun b aa=>if (match op with|.And=>b|.Or=>!b) then au M A (allTrue op rest env) Q E aa else Q b aa) E s):au M A (allTrue op (x::rest) env) Q E s:=by
 show au M A (do match op,←isTrue x env (eval x env) with|.And,false=>Pure.pure false|.Or,true=>Pure.pure true|_,_=>allTrue op rest env) Q E s;refine seq h fun b aa az=>?_
 cases op<;>cases b<;>first|exact az|exact pure az
theorem u7{op:BoolOp}{Q:Bool→Shared→Prop}(h:Q (match op with|.And=>true|.Or=>false) s):au M A (allTrue op [] env) Q E s:=by cases op<;>exact pure h
theorem tuple{es:List Expr}{k:Nat}{pos:Pos}{Q:Value→Shared→Prop}(h:au M A (spliced (backTo pos (starEach es env))) (fun vs aa=>vs.length≤sizeLine∧Q (.ref aa.heap.objs.size) { aa with heap:=aa.heap.push { cls:=.type "tuple",data:=.seq vs.toArray } }) E s) :
  au M A (eval (.Tuple es k pos) env) Q E s:=by
 rw[arm_eval_Tuple];exact bind (standAt (seq h fun vs aa az=>of (wpAny_newObj_type az.2 (by show vs.toArray.size≤sizeLine;rw[List.size_toArray];exact az.1))))
theorem list{es:List Expr}{pos:Pos}{Q:Value→Shared→Prop}(h:au M A (spliced (backTo pos (starEach es env))) (fun vs aa=>vs.length≤sizeLine∧Q (.ref aa.heap.objs.size) { aa with heap:=aa.heap.push { cls:=.type "list",data:=.seq vs.toArray } }) E s) :
  au M A (eval (.List es pos) env) Q E s:=by
 rw[arm_eval_List];exact bind (standAt (seq h fun vs aa az=>of (wpAny_newObj_type az.2 (by show vs.toArray.size≤sizeLine;rw[List.size_toArray];exact az.1))))
theorem j8{pos:Pos}{Q:List Value→Shared→Prop}(h:Q [] s):au M A (spliced (backTo pos (starEach [] env))) Q E s:=pure h
theorem iP{pos:Pos}{e:Expr}{rest:List Expr}{Q:List Value→Shared→Prop}(h:au M A (eval e env) (fun v aa=>au M A (spliced (backTo pos (starEach rest env))) (fun vs ag=>Q (v::vs) ag) E aa) E s)
  (he:starEach (e::rest) env=(false,eval e env)::starEach rest env):au M A (spliced (backTo pos (starEach (e::rest) env))) Q E s:=by
 rw[he];show au M A (do
  let v ←eval e env
  let here ←(Pure.pure [v]:Sem (List Value))
  return here++(←PySem.holding here (spliced (backTo pos (starEach rest env))))) Q E s
 exact seq h fun v aa az=>bind (pure (bind (holding (mono az (fun vs ag bw=>pure bw) fun j j x=>x))))
theorem args{f:Value}{x:Sem Value}{rest:List (Bool×Sem Value)}{Q:Args→Shared→Prop}(h:au M A (spliced ((false,x)::rest)) (fun vs s'=>Q ⟨vs,[]⟩ s') E s):au M A (evalArgs f true ((false,x)::rest) []) Q E s:=by
 unfold evalArgs;show au M A (spliced ((false,x)::rest)>>=_) Q E s;exact seq h fun vs s' h'=>holding (bind (pure (bind (pure (pure h')))))
theorem Di{f:Value}{Q:Args→Shared→Prop}(h:au M A (spliced []) (fun vs s'=>Q ⟨vs,[]⟩ s') E s):au M A (evalArgs f true [] []) Q E s:=by
 unfold evalArgs;show au M A (spliced []>>=_) Q E s;exact seq h fun vs s' h'=>holding (bind (pure (bind (pure (pure h')))))
theorem H4{f:Value}{x:Sem Value}{rest:List (Bool×Sem Value)}{name:Str}{y:Sem Value}{Q:Args→Shared→Prop}(h:au M A (spliced ((false,x)::rest)) (fun vs aa=>au M A y (fun v ag=>Q ⟨vs,[(name,v)]⟩ ag) E aa) E s) :
  au M A (evalArgs f true ((false,x)::rest) [(some name,y)]) Q E s:=by
 unfold evalArgs;show au M A (spliced ((false,x)::rest)>>=_) Q E s;refine seq h fun vs aa az=>holding ?_
 show au M A (do
  let kw:=[name].zip (←evalAll [y])
  return ⟨←(Pure.pure vs:Sem (List Value)),kw⟩) Q E aa
 haveI hy:au M A (evalAll [y]) (fun l ag=>∃v,l=[v]∧Q ⟨vs,[(name,v)]⟩ ag) E aa:=by
  show au M A (do let v ←y;let l ←PySem.holding [v] (evalAll []);Pure.pure (v::l)) _ _ _;exact seq az fun v ag bw=>bind (holding (pure (pure ⟨v,rfl,bw⟩)))
 exact seq hy fun l ag ⟨v,e,bw⟩=>by subst e;exact bind (pure (pure bw))
end K
end
end Sv
namespace Sv
open PySem PySem.W PyProof.Rows PySem.Calls
section
set_option backward.match.sparseCases true
theorem rn{prog:Program}{w:World}{t:Sem Fin}{s:Shared}{R:Result→Shared→Prop}(p:Pos)
  (h:au (model prog w) callerA t (fun fin s'=>∃f,fin=.done f∧R (.ok f) s') (fun e s'=>R (.error e) s') s) :
  Sem.wp (model prog w) ⟨.builtin "claim.caller" {},none,none,[],none⟩ t (Sem.finPost (model prog w) ⟨.builtin "claim.caller" {},none,none,[],none⟩ R) (fun e j s'=>R (.error e) s') p s:=by
 refine Sem.wp_mono _ _ t (fun fin p' s' h'=>?_) (fun j j j h'=>h') p s (h _ p caller_in (by decide +kernel) gT.nil);obtain⟨f,rfl,hf⟩:=h';exact hf
theorem OR{t0 t1:Type _}{p:t0→t1→Prop}(a:t0)(b:t1)(h:p a b):∃a b,p a b:=⟨a,b,h⟩
theorem N0{t0 t1 t2:Type _}{p:t0→t1→t2→Prop}(a:t0)(b:t1)(c:t2)(h:p a b c):∃a b c,p a b c:=⟨a,b,c,h⟩
theorem cf{c:ClaimW}{Kk:List Value→Thread}{w:World}{free:Addr→Prop}{gens:Prop}{kept:Heap→Prop}{s:Shared}(jo:s.gens=#[])
  (h:∀args,c.pre args=true→WData.layableAll args=true→∀ord:List DictEntry→List DictEntry,(∀l,(ord l).Perm l) →
   ∃vs aa,layAllW c.records (classAt s.heap) w.params ord args s=some (vs,aa)∧∃n r s',schedN (denote table) c.prog w n (.single aa (Kk vs))=.halted (outcomeOf r) s'∧c.Ends s args vs aa r s'∧kept s'.heap∧s'.heap.life.seen=s.heap.life.seen∧s'.rest=s.rest):c.CallFrom Kk w free gens kept s:=fun args a b ord o=>by
 refine Classical.byContradiction fun hg=>?_
 obtain⟨vs,aa,h1,n,r,s',h2,h3,h4⟩:=h args a b ord o;exact hg <| OR vs aa ⟨h1,N0 n (outcomeOf r) s' ⟨h2,Or.imp (Exists.imp fun v h=>⟨congrArg outcomeOf h.1,h.2.1,h.2.2.1,h.2.2.2.1,fun b o y j=>h.2.2.2.2.1 b o y,h.2.2.2.2.2⟩) (fun h=>by
  obtain⟨e,ob,cls,h⟩:=h;exact N0 e ob cls ⟨congrArg outcomeOf h.1,h.2.1,h.2.2.1,h.2.2.2.1,h.2.2.2.2.1,fun b o y j=>h.2.2.2.2.2 b o y⟩) h3,(fun j i x hx=>by rw[jo] at hx;simp at hx),h4⟩⟩
theorem vk{c:ClaimW}{tree:List Value→Sem Fin}{w:World}{s:Shared}{free:Addr→Prop}{gens:Prop}{kept:Heap→Prop}(hz:s.asleep)(jo:s.gens=#[])
  (spec:∀args,c.pre args=true→WData.layableAll args=true→∀ord:List DictEntry→List DictEntry,(∀l,(ord l).Perm l) →
   ∃vs aa,layAllW c.records (classAt s.heap) w.params ord args s=some (vs,aa) ∧
    au (model c.prog w) callerA (tree vs) (fun fin s'=>∃f,fin=.done f∧(c.Ends s args vs aa (.ok f) s'∧s'.os=s.os∧AllBare s'.gens∧kept s'.heap))
     (fun e s'=>c.Ends s args vs aa (.error e) s'∧s'.os=s.os∧AllBare s'.gens∧kept s'.heap) aa) :
  c.CallFrom (fun vs=>⟨tree vs,.builtin "claim.caller" {},default,[]⟩) w free gens kept s:=cf jo fun args xo Bh ord CU=>by
 refine Classical.byContradiction fun hg=>?_
 obtain⟨vs,aa,lQ,Kb⟩:=spec args xo Bh ord CU;have lS:=layAllW_rest _ _ _ lQ;have hw:au (model c.prog w) callerA (tree vs) (fun fin s'=>∃f,fin=.done f∧((c.Ends s args vs aa (.ok f) s'∧s'.os=s.os∧kept s'.heap)∧leftWithCleanup s'.gens=false))
   (fun e s'=>(c.Ends s args vs aa (.error e) s'∧s'.os=s.os∧kept s'.heap)∧leftWithCleanup s'.gens=false) aa:=
  K.mono Kb (fun fin s' ⟨f,e,h1,h2,h3,h4⟩=>⟨f,e,⟨h1,h2,h4⟩,leftWithCleanup_false_of_bare h3⟩) fun e s' ⟨h1,h2,h3,h4⟩=>⟨⟨h1,h2,h4⟩,leftWithCleanup_false_of_bare h3⟩
 obtain⟨k,r,s',zE,GL,za,Px,Jb,Ma,JG⟩:=wp_halts_full (M:=model c.prog w) (R:=fun r s'=>c.Ends s args vs aa r s'∧s'.os=s.os∧kept s'.heap) (Shared.asleep_of_life lS.2.2.2 hz)
  (rn (R:=fun r s'=>(c.Ends s args vs aa r s'∧s'.os=s.os∧kept s'.heap)∧leftWithCleanup s'.gens=false) default hw)
 have hq:=Shared.forget_eq Px;exact hg <| OR vs aa ⟨lQ,N0 k r zE ⟨GL,Jb.congr hq.1,by rw[hq.1];exact JG,congrArg Life.seen ((runN_life _ _ _ za).trans lS.2.2.2),Shared.rest_eq (hq.2.2.2.1.trans Ma)⟩⟩
abbrev Fv(q:Program)(cY:List Str)(XP:(Str→Option Value)→Heap→Prop)(YP:World→Heap→Prop)(r:RowW)(d:DefRec)(DU:List (Str×Expr)):Prop:=
 ∀(w:World)(bD aa:Shared)(mg mb:Str→Option Value),Ground q cY r.records XP w bD mg mb aa.heap→YP w aa.heap→∀(a:Addr)(o:Obj)(pm cd doc dV kV:Value),aa.heap.get? a=some o →
  o.data=.func { docDef d.name d.params d.body d.scope pm cd doc with defaults:=dV,kwdefaults:=kV }→aa.heap.CodeRec cd d.name→Dflts mg aa.heap d.params DU dV kV→mg d.name=some (.ref a)→aa.gens=#[] →
  ∀(args:List WData)(vals:List Value)(as:List Addr),r.claim.pre args=true→WData.layableAll args=true→ReadsAllW r.records (classAt bD.heap) aa.heap vals args as→WellAll w.params aa.heap vals args→(∀a∈as,(a==sysModules)=false) →
   au (model r.prog w) callerA (PySem.call (.ref a) vals) (fun v s'=>GoodWG r.claim (classAt bD.heap) (ExcName.means bD.heap) args aa (.ok (.ret v)) s')
    (fun e s'=>GoodWG r.claim (classAt bD.heap) (ExcName.means bD.heap) args aa (.error e) s') aa
theorem th{r:OpenRow}{q:Program}{cY:List Str}{Xt:Shared→Bool}{XP:(Str→Option Value)→Heap→Prop}{α:Type}{Yf:Shared→α}{Ya:World→α}{YP:World→Heap→Prop}{d:DefRec}{DU:List (Str×Expr)}{N:Nat}
  (left:LeftO r.prog q cY Xt Yf Ya N) (hY:∀w s,Yf s=Ya w→YP w s.heap) (Qt:∀w h h',YP w h→(∀b o,h.get? b=some o→h'.get? b=some o)→YP w h')
  (hX:∀s,Xt s=true→XP (s.heap.nsMap mainGlobals) s.heap) (Rp:∀mg h h',XP mg h→(∀b o,h.get? b=some o→h'.get? b=some o)→XP mg h')
  (Bk:defOf q r.name=some (d,DU)) (hp:r.prog.theDef r.name=some (d.params,d.body,d.scope)) (hk:kwWritten? d.params.kwonlyargs d.params.kw_defaults=some DU) (Q1:∀s,Xt s=true→RecFacts r.records s.heap) (N6:(!r.writes||r.records.isEmpty)=true)
  (k1:r.wellSaid=true) (ok:(chainsOk q&&opensWell r.prog&&(frees r.toRowW&&r.within.isEmpty))=true) (hb:r.prog.bare) (hw:r.toRowW.promised)
  (walk:Fv q cY XP YP r.toRowW d DU):r.Holds:=by
 refine⟨k1,hw,?_⟩;obtain⟨Po,k5⟩:=Bool.and_eq_true_iff.mp ok;obtain⟨Pc,o1⟩:=Bool.and_eq_true_iff.mp Po;obtain⟨k5,k6⟩:=Bool.and_eq_true_iff.mp k5;obtain⟨EI,hu,ha,IK,hm⟩:=frees_parts k5;have hi:=ident_freeW hu ha IK;have O9:r.toRowW.claim.within=[]:=List.isEmpty_iff.mp k6;refine⟨⟨hb,o1,by show r.toRowW.makers.map _=[];rw[hm];rfl⟩,hw.witness,fun w=>⟨(left.behind hX Pc w).1,fun s' sL=>?_⟩⟩;obtain⟨bD,hf,Py,s,hT,hz,jo,hg,Gx,y⟩:=(left.behind (XP:=fun mg h=>XP mg h∧RecFacts r.records h) (fun s hs=>⟨hX s hs,Q1 s hs⟩) Pc w).2 s' sL;have G0:Ground q cY [] XP w s (s.heap.nsMap mainGlobals) (s.heap.nsMap builtinsNs) s.heap:=⟨Gx.T,Gx.B,Gx.D,Gx.TE,Gx.TD,Gx.W,Gx.X.1,Gx.cls,Gx.has,Gx.apart,Gx.once,Gx.K⟩;have RF:=Gx.X.2;have jo:s.gens=#[]:=Array.eq_empty_of_size_eq_zero (cj jo);have G1:Ground q cY r.records XP w s _ _ s.heap:=RF.ground G0;refine⟨bD,hf,Py,s,hT,fun n hn=>?_,RF.1,RF.2.1,?_⟩
 ·obtain rfl:n=r.name:=by split at hn<;>simp_all
  exact pinned_of_view hg G0 Bk hp hk
 refine Sv.vk (c:=r.toRowW.claim) (tree:=fun vs=>do match ←nsGet mainNs r.name with
   |some f=>do ret (←_root_.PySem.call f vs)
   |none=>unsupported "claim.caller:no-such-global") hz jo fun args xo Bh ord CU=>?_
 obtain⟨⟨vs,aa⟩,lQ⟩:=Option.isSome_iff_exists.mp (layAllW_isSome (P:=w.params) (ord:=ord) G1.has args r.args s (pre_splitW xo).1);have keeps:=layAllW_keeps _ _ _ lQ;have lS:=layAllW_rest _ _ _ lQ;obtain⟨as,MV,Q6,hold⟩:=reads_layAllW CU _ _ _ lQ Bh aa.heap (fun j j e=>e);have L:Laid r.records w s aa args vs as:=⟨⟨ord,CU,lQ⟩,MV,Q6,hold,keeps,lS.1.trans jo,lS.2.2.1⟩;have G2:=G1.keeps Rp keeps;obtain⟨a,o,pm,cd,doc,dV,kV,h1,h2,h3,h4,h5⟩:=G2.fn Bk;haveI main:=walk w s aa _ _ G2 (Qt _ _ _ (hY w s y) keeps) a o pm cd doc dV kV h2 h3 h4 h5 (defOf_name Bk▸h1) L.gens args vs as xo Bh L.reads L.well (L.low G1.low);refine⟨vs,aa,lQ,Sv.K.bind (Sv.K.of (wpAny_nsGet G2.T.g ?_))⟩;rw[h1];refine Sv.K.bind (Sv.K.mono main (fun v s' g=>Sv.K.pure ⟨_,rfl,?_⟩) fun e s' g=>?_)
 ·have z:=g.laid (c:=r.toRowW.claim) EI O9 hi L
  exact⟨z.1,z.2.1,z.2.2,fun q=>⟨namesKept_of hT hg r.keeps keeps g.2.1.old,noTable N6 q⟩⟩
 ·have z:=g.laid (c:=r.toRowW.claim) EI O9 hi L
  exact⟨z.1,z.2.1,z.2.2,fun q=>⟨namesKept_of hT hg r.keeps keeps g.2.1.old,noTable N6 q⟩⟩
end
end Sv
section
namespace Sv
open _root_.PySem _root_.PySem.W PyProof.Rows _root_.PySem.Calls
noncomputable def zi(life:Life):List Obj→Nat→BT→Option (BT×Nat)
 |[],n,t=>some (t,n)
 |o::r,n,t=>gd ((t.ins n o).get n).isSome (zi life r (n+1) (t.ins n o))
theorem tg{life:Life}:∀{l:List Obj}{n n':Nat}{t t':BT},zi life l n t=some (t',n')→absHeap t' n' life=⟨((absHeap t n life).objs.toList++l).toArray,life⟩
 |[],n,n',t,t',h=>by
  cases (h);rw[List.append_nil];rfl
 |o::r,n,n',t,t',h=>gO h fun e h=>by
  rw[tg h,absHeap_ins e];show Heap.mk _ _=Heap.mk _ _;refine congrArg (Heap.mk · life) (congrArg List.toArray ?_)
  show(((absHeap t n life).objs.push o).toList++r)=_
  rw[Array.toList_push,List.append_assoc];rfl
noncomputable def mG(tb:String→Option Builtin)(p:Program)(w:World)(qR:Nat)(ann:Option Value):Nat→SharedT→Thread→Option SharedT
 |0,_,_=>none
 |n+1,s,t=>match through t with
  |true=>some s
  |false=>gd (stepOk qR ann t) ((stepT (denote tb) p w s t).bind fun r=>mG tb p w qR ann n r.1 r.2)
theorem pK{tb:String→Option Builtin}{p:Program}{w:World}{qR:Nat}{ann:Option Value}:∀{n:Nat}{s s':SharedT}{t:Thread},mG tb p w qR ann n s t=some s'→topRun tb p w qR ann n s.abs t=some s'.abs
 |0,_,_,_,h=>nO h
 |n+1,s,s',t,h=>by
  have h:(match through t with
   |true=>some s
   |false=>gd (stepOk qR ann t) ((stepT (denote tb) p w s t).bind fun r=>mG tb p w qR ann n r.1 r.2))=some s':=h
  show(match through t with
   |true=>some s.abs
   |false=>match stepOk qR ann t with
    |false=>none
    |true=>match step (denote tb) p w s.abs t with
     |.go s' t'=>topRun tb p w qR ann n s' t'
     |.halt _ _=>none)=_
  cases he:through t with
  |true=>rw[he] at h;exact congrArg (fun x=>some x.abs) (cQ h)
  |false=>
   rw[he] at h;exact gO h fun hk h=>bO h fun r hs h=>by
    dsimp only;rw[hk,stepT_spec (s':=r.1) (t':=r.2) hs];exact pK h
noncomputable def ud(tb:String→Option Builtin)(p:Program)(w:World)(N:Nat)(bD:Shared):Option SharedT:=
 gd (bD.heap.isNs mainGlobals&&bD.gens.size==0) ((zi bD.heap.life bD.heap.objs.toList 0 .nil).bind fun r=>mG tb p w bD.heap.objs.size (bD.heap.nsMap mainGlobals "__annotations__") N ⟨r.1,r.2,bD.heap.life,bD.gens,bD.drawn,bD.toks,bD.os⟩ (topStub p))
noncomputable def vQ(p:Program)(bD aa:Shared):Bool:=staticsOk (importedModules p.main.body) bD.heap aa.heap&&namesBound p aa.heap&&gensDone aa&&laidKept bD.heap aa.heap
theorem wY{s:Shared}{r:BT×Nat}(q:zi s.heap.life s.heap.objs.toList 0 .nil=some r):(SharedT.mk r.1 r.2 s.heap.life s.gens s.drawn s.toks s.os).abs=s:=
 congrArg (fun x=>Shared.mk x s.gens s.drawn s.toks s.os) ((tg (t':=r.1) (n':=r.2) q).trans rfl)
theorem vd{tb:String→Option Builtin}{p:Program}{w:World}{N:Nat}{bD:Shared}{aa:SharedT}(h:ud tb p w N bD=some aa)(ok:vQ p bD aa.abs=true):topFrom tb p w N bD=some aa.abs:=
 gO h fun e h=>bO h fun r q h=>by
  have h:=pK h;rw[wY q] at h;unfold topFrom;rw[e]
  show(topRun tb p w bD.heap.objs.size (bD.heap.nsMap mainGlobals "__annotations__") N bD (topStub p)).bind _=_
  rw[h]
  show(match vQ p bD aa.abs with|true=>some aa.abs|false=>none)=_
  rw[ok]
noncomputable def fT(tb:String→Option Builtin)(p:Program)(w:World):Nat→SharedT→Thread→Option SharedT
 |0,_,_=>none
 |n+1,s,t=>match t.atExitBegin with
  |some l=>gd l.isEmpty (some s)
  |none=>(stepT (denote tb) p w s t).bind fun r=>fT tb p w n r.1 r.2
theorem ju{tb:String→Option Builtin}{p:Program}{w:World}:∀{n:Nat}{s s':SharedT}{t:Thread},fT tb p w n s t=some s'→importEnds tb p w n s.abs t=some s'.abs
 |0,_,_,_,h=>nO h
 |n+1,s,s',t,h=>by
  have h:(match t.atExitBegin with
   |some l=>gd l.isEmpty (some s)
   |none=>(stepT (denote tb) p w s t).bind fun r=>fT tb p w n r.1 r.2)=some s':=h
  show(match t.atExitBegin with
   |some []=>some s.abs
   |some (_::_)=>none
   |none=>match step (denote tb) p w s.abs t with
    |.go s' t'=>importEnds tb p w n s' t'
    |.halt _ _=>none)=_
  cases he:t.atExitBegin with
  |some l=>
   rw[he] at h;exact gO h fun hl h=>by
    rw[List.isEmpty_iff.mp hl];exact congrArg (fun x=>some x.abs) (cQ h)
  |none=>
   rw[he] at h;exact bO h fun r hs h=>by
    dsimp only;rw[stepT_spec (s':=r.1) (t':=r.2) hs];exact ju h
noncomputable def E2(s:Shared):Option SharedT:=(zi s.heap.life s.heap.objs.toList 0 .nil).map fun r=>⟨r.1,r.2,s.heap.life,s.gens,s.drawn,s.toks,s.os⟩
theorem xN{s:Shared}{t:SharedT}(h:E2 s=some t):t.abs=s:=mO h fun r q e=>e▸wY q
noncomputable def openT(p:Program)(w:World)(N:Nat):Option (Shared×SharedT):=
 (E2 (start (opening p)).1).bind fun t=>(fT treeTable (opening p) w N t (start (opening p)).2).bind fun e=>(fenceModules? p e.abs).bind fun bD=>(ud treeTable p w N bD).map fun aa=>(bD,aa)
theorem yq{p q:Program}{cY:List Str}{Xt:Shared→Bool}{α:Type}{Yf:Shared→α}{Ya:World→α}{N:Nat}
  (h:∀w,(openT p w N).map (fun r=>(vQ p r.1 r.2.abs,openSeen q cY (importedModules p.main.body) Xt true r.2.abs,Yf r.2.abs))=some (true,openGood q cY,Ya w)) :
  LeftO p q cY Xt Yf Ya N:=fun w=>
 mO (h w) fun r h h0=>bO h fun t h1 h=>bO h fun e h2 h=>bO h fun bD h3 h=>mO h fun aa h4 h=>by
  have e2:=ju h2;rw[xN h1] at e2;rw[←h] at h0
  show(openEnds treeTable p w N).map _=_
  unfold openEnds fencedOpening;rw[e2]
  show((fenceModules? p e.abs).bind (topFrom treeTable p w N)).map _=_
  rw[h3]
  show(topFrom treeTable p w N bD).map _=_
  rw[vd h4 (congrArg Prod.fst h0)];exact congrArg some (congrArg Prod.snd h0)
end Sv
end
section
set_option maxRecDepth 1000000
set_option tactic.hygienic true
open PySem PySem.W PyProof.Rows
namespace Sv
noncomputable def lookA(p q:Program)(cY:List Str)(w:World)(N:Nat):=
 (openT p w N).map fun r=>(vQ p r.1 r.2.abs,openSeen q cY (importedModules p.main.body) (fun _=>true) true r.2.abs)
noncomputable def goodA(q:Program)(cY:List Str):=(true,openGood q cY)
lay_quick Sv.openT Sv.lookA Sv.goodA
theorem xr{p q:Program}{cY:List Str}{N:Nat}(hA:∀w,@PySem.W.Fast.tw7845048922804544398 p q cY w N=some (@PySem.W.Fast.tw9127944253208629222 q cY)) :
  LeftO p q cY (fun u=>true) (fun s=>some s.heap) (fun w=>(openT p w N).map fun r=>r.2.abs.heap) N:=
 yq fun w=>by
  have h1:=hA w;rw[←@PySem.W.Fast.te7845048922804544398,←@PySem.W.Fast.te9127944253208629222] at h1;unfold lookA at h1;cases h:openT p w N with
  |none=>rw[h] at h1;cases h1
  |some r=>
   rw[h] at h1;have h3:=Prod.mk.inj (cQ h1);exact congrArg some (Prod.ext h3.1 (Prod.ext h3.2 rfl))
noncomputable def IG:Program:=view PySem.Challenge.pw_ac0015_02 [0,1,2,3,5,6,7,8,9,10,12,13,14,15,16,17,18,19,21,22,24,25,26,27,28,29,30,31,33,34,35,36,37,38,39,40,41,42]
noncomputable def qU:List Str:=[Str.ofString "string_types",Str.ofString "binary_types",Str.ofString "uint8",Str.ofString "uint16",Str.ofString "uint32",Str.ofString "int32",Str.ofString "uoffset",Str.ofString "soffset",Str.ofString "Uint8Flags",Str.ofString "Uint16Flags",Str.ofString "Uint32Flags",Str.ofString "Int32Flags",Str.ofString "Builder"]
theorem Jl:OpenLaw.wellSaid PySem.Challenge.rw_ac0015_02=true:=(congrFun PySem.W.Fast.te9446332074065402090 _).trans (by kernel_rfl)
theorem Ij(w:World):@PySem.W.Fast.tw7845048922804544398 PySem.Challenge.pw_ac0015_02 IG qU w 11422=some (@PySem.W.Fast.tw9127944253208629222 IG qU):=by kernel_rfl
end Sv
end
namespace Sv
open _root_.PySem _root_.PySem.W PyProof.Rows _root_.PySem.Calls
theorem By(l:OpenLaw)(d:WData):l.row.toRowW.claim.post [d] (.bool true) [d]=true:=by
 refine postW_of (X:=true) ?_ ?_ rfl
 ·rfl
 ·show WTm.value _ (.eq .res (.lit (.bool true))) _=_
  simp[WTm.value,W.same]
theorem D2(l:OpenLaw)(hm:l.most=some 63)(xs:List WData)(h:WTm.holds R l.pre { args:=[.list xs] }=true):xs.length≤63:=by
 haveI e:l.pre=.and (.not (.lt (.lit (.int 63)) (.len (.arg 0)))) (match l.bound with
    |some n=>.all (.lit (.int 0)) (.len (.arg 0)) (.and (.not (.lt (.item (.arg 0) (.var 0)) (.lit (.int (-(n:Int)))))) (.not (.lt (.lit (.int n)) (.item (.arg 0) (.var 0)))))
    |none=>.lit (.bool true)):=by unfold OpenLaw.pre;rw[hm];rfl
 rw[e] at h
 by_cases hc:xs.length≤63
 ·exact hc
 ·exfalso
  haveI h2:(63:Int)<(xs.length:Int):=by omega
  revert h
  simp[WTm.holds,WTm.value,W.less?,W.Num.less?,h2]
end Sv
section
namespace Sv
open PyProof.Rows
namespace Lin
set_option genCtorIdx false in
inductive T where
 |v (i:Nat)|n (k:Nat)|q (z:Int)|a (x y:T)|s (x y:T)|m (k:Nat) (x:T)|w (x:T) (k:Nat)|c (x:T)|g (x:T)|t (x:T)|u (x y:T)|d (x y:T)
set_option genCtorIdx false in
inductive F where
 |le (x y:T)|lt (x y:T)|eq (x y:T)|Le (x y:T)|Lt (x y:T)|Eq (x y:T)|no (a:F)|an (a b:F)|or (a b:F)|im (a b:F)
noncomputable def env(e:List Nat)(f:List Int):List Int:=e.map Int.ofNat++f
noncomputable def T.ev(e:List Nat)(f:List Int):T→Nat×Int
 |.v i=>(e.getD i 0,(env e f).getD i 0)|.n k=>(k,0)|.q z=>(0,z)
 |.a x y=>((x.ev e f).1+(y.ev e f).1,(x.ev e f).2+(y.ev e f).2)
 |.s x y=>((x.ev e f).1-(y.ev e f).1,(x.ev e f).2-(y.ev e f).2)
 |.m k x=>(k*(x.ev e f).1,k*(x.ev e f).2)
 |.w x k=>((x.ev e f).1*k,(x.ev e f).2*k)
 |.c x=>(0,(x.ev e f).1)|.g x=>(0,-(x.ev e f).2)|.t x=>((x.ev e f).2.toNat,0)
 |.u x y=>(max (x.ev e f).1 (y.ev e f).1,max (x.ev e f).2 (y.ev e f).2)
 |.d x y=>(min (x.ev e f).1 (y.ev e f).1,min (x.ev e f).2 (y.ev e f).2)
noncomputable def F.ev(e:List Nat)(f:List Int):F→Prop
 |.le x y=>(x.ev e f).1≤(y.ev e f).1|.lt x y=>(x.ev e f).1<(y.ev e f).1|.eq x y=>(x.ev e f).1=(y.ev e f).1
 |.Le x y=>(x.ev e f).2≤(y.ev e f).2|.Lt x y=>(x.ev e f).2<(y.ev e f).2|.Eq x y=>(x.ev e f).2=(y.ev e f).2
 |.no a=>¬a.ev e f|.an a b=>a.ev e f∧b.ev e f|.or a b=>a.ev e f∨b.ev e f|.im a b=>a.ev e f→b.ev e f
noncomputable abbrev L:=List Int
noncomputable def dot:L→List Int→Int
 |a::as,x::xs=>a*x+dot as xs
 |[],_=>0
 |_::_,[]=>0
noncomputable def add(p q:Int):L→L→L
 |a::as,b::bs=>(p*a+q*b)::add p q as bs
 |[],b=>b.map (q*·)
 |a::as,[]=>(a::as).map (p*·)
theorem eH(e:List Int):dot [] e=0:=by cases e<;>rfl
theorem mU(a:Int)(as:L):dot (a::as) []=0:=rfl
theorem Bo(a:Int)(as:L)(x:Int)(xs:List Int):dot (a::as) (x::xs)=a*x+dot as xs:=rfl
theorem add_nil(p q:Int)(b:L):add p q [] b=b.map (q*·):=by cases b<;>rfl
theorem GF(p q a:Int)(as:L):add p q (a::as) []=(a::as).map (p*·):=rfl
theorem Fq(p q a:Int)(as:L)(b:Int)(bs:L):add p q (a::as) (b::bs)=(p*a+q*b)::add p q as bs:=rfl
theorem iT(k:Int):∀(a e:List Int),dot (a.map (k*·)) e=k*dot a e
 |[],e=>by rw[List.map_nil,eH,Int.mul_zero]
 |_::_,[]=>by rw[List.map_cons,mU,mU,Int.mul_zero]
 |a::as,x::xs=>by rw[List.map_cons,Bo,Bo,iT k as xs,Int.mul_add,Int.mul_assoc]
theorem bH(p q:Int):∀(a b e:List Int),dot (add p q a b) e=p*dot a e+q*dot b e
 |[],b,e=>by rw[add_nil,iT,eH,Int.mul_zero,Int.zero_add]
 |a::as,[],e=>by rw[GF,iT,eH,Int.mul_zero,Int.add_zero]
 |_::_,_::_,[]=>by rw[Fq,mU,mU,mU,Int.mul_zero,Int.mul_zero];rfl
 |a::as,b::bs,x::xs=>by
  simp only[Fq,Bo,bH p q as bs xs,Int.mul_add,Int.add_mul,Int.mul_assoc,Int.add_assoc,Int.add_left_comm]
noncomputable def unit:Nat→L
 |0=>[1]
 |i+1=>0::unit i
theorem kH:∀(i:Nat)(e:List Int),dot (unit i) e=e.getD i 0
 |_,[]=>by cases ‹Nat›<;>rfl
 |0,x::xs=>by show 1*x+dot [] xs=x;rw[eH,Int.one_mul,Int.add_zero]
 |i+1,x::xs=>by show 0*x+dot (unit i) xs=xs.getD i 0;rw[kH i xs,Int.zero_mul,Int.zero_add]
noncomputable def dr:L→L
 |c::_::as=>c::as
 |l=>l
noncomputable def h1(l:L):Int:=(l.drop 1).headD 0
theorem m9:dot l (1::x::xs)=h1 l*x+dot (dr l) (1::xs):=by
 match l with
 |[]=>show dot [] _=0*x+dot [] _;rw[eH,eH,Int.zero_mul];rfl
 |[c]=>show c*1+dot [] (x::xs)=0*x+(c*1+dot [] xs);rw[eH,eH,Int.zero_mul,Int.zero_add]
 |c::a::as=>exact Int.add_left_comm (c*1) (a*x) (dot as xs)
noncomputable def MY(g c:Int)(as:L):L:=if 1<g∧(as.map (·/g)).map (g*·)=as then (c/g)::as.map (·/g) else c::as
noncomputable def Oi:L→L
 |c::as=>MY ((as.foldl (fun n a=>Nat.gcd n a.natAbs) 0:Nat):Int) c as
 |l=>l
set_option tactic.hygienic true in
theorem DI(h:0≤dot (c::as) (1::e)):0≤dot (MY g c as) (1::e):=by
 unfold MY;split
 ·rename_i k
  obtain⟨k1,k2⟩:=k;rw[←k2] at h;show 0≤c/g*1+dot _ e;haveI h:0≤c*1+dot ((as.map (·/g)).map (g*·)) e:=h;rw[iT] at h;haveI h3:-dot (as.map (·/g)) e≤c/g:=(Int.le_ediv_iff_mul_le (by omega)).mpr (by rw[Int.neg_mul,Int.mul_comm];omega);omega
 ·exact h
theorem C7(h:0≤dot l (1::e)):0≤dot (Oi l) (1::e):=by
 cases l with
 |nil=>exact h
 |cons c as=>exact DI h
noncomputable def step(ps:List L):List L:=ps.flatMap fun p=>if 0<h1 p then ps.flatMap (fun q=>if h1 q<0 then [Oi (dr (add (-h1 q) (h1 p) p q))] else []) else if h1 p=0 then [dr p] else []
noncomputable def fm:Nat→List L→Bool
 |0,ps=>ps.any fun p=>decide (p.headD 0<0)
 |n+1,ps=>fm n (step ps)
theorem Gi:h1 (add p q a b)=p*h1 a+q*h1 b:=by
 have e:∀l:L,h1 l=dot l [0,1]:=fun l=>match l with
  |[]=>rfl
  |[c]=>by rw[dot,dot,Int.mul_zero];rfl
  |c::d::r=>by rw[dot,dot,Int.mul_zero,Int.mul_one,Int.zero_add];cases r<;>exact(Int.add_zero d).symm
 rw[e,e,e,bH]
theorem Fw:∀{xs:List Int}{ps:List L},fm xs.length ps=true→(∀p∈ps,0≤dot p (1::xs))→False
 |[],ps,h,k=>by
  obtain⟨p,hp,h⟩:=List.any_eq_true.mp h
  have:=k p hp
  cases p with
  |nil=>cases h
  |cons c as=>
   haveI h:c<0:=d6 h;rw[show dot (c::as) [1]=c*1+dot as [] from rfl,show dot as []=0 by cases as<;>rfl] at this;omega
 |x::xs,ps,h,k=>Fw (xs:=xs) (ps:=step ps) h fun r hr=>by
  obtain⟨p,hp,hr⟩:=List.mem_flatMap.mp hr;have kp:=k p hp;rw[m9] at kp
  by_cases c1:0<h1 p
  ·rw[if_pos c1] at hr
   obtain⟨q,hq,hr⟩:=List.mem_flatMap.mp hr;haveI kq:=k q hq;rw[m9] at kq
   by_cases c2:h1 q<0
   ·rw[if_pos c2] at hr
    obtain rfl:=List.mem_singleton.mp hr;haveI e:=bH (-h1 q) (h1 p) p q (1::x::xs);rw[m9,Gi,m9,m9] at e;haveI e1:-h1 q*h1 p+h1 p*h1 q=0:=by rw[Int.neg_mul,Int.mul_comm];omega
    rw[e1,Int.zero_mul,Int.zero_add] at e;refine C7 ?_;rw[e];exact Int.add_nonneg (Int.mul_nonneg (by omega) kp) (Int.mul_nonneg (by omega) kq)
   ·rw[if_neg c2] at hr;cases hr
  ·rw[if_neg c1] at hr
   by_cases c2:h1 p=0
   ·rw[if_pos c2] at hr
    obtain rfl:=List.mem_singleton.mp hr;rw[c2,Int.zero_mul,Int.zero_add] at kp;exact kp
   ·rw[if_neg c2] at hr;cases hr
noncomputable abbrev B:=List (List L×L)
noncomputable def both(f:L→L→B)(x y:B):B:=x.flatMap fun p=>y.flatMap fun q=>(f p.2 q.2).map fun r=>(p.1++q.1++r.1,r.2)
noncomputable def T.b(n:Nat):Bool→T→B
 |true,.v i=>[([],if i<n then unit (i+1) else [])]
 |false,.v i=>[([],unit (i+1))]
 |true,.n k=>[([],[k])]
 |false,.q z=>[([],[z])]
 |b,.a x y=>both (fun p q=>[([],add 1 1 p q)]) (x.b n b) (y.b n b)
 |true,.s x y=>both (fun p q=>[([add 1 (-1) p q],add 1 (-1) p q),([add (-1) 1 p q],[])]) (x.b n true) (y.b n true)
 |false,.s x y=>both (fun p q=>[([],add 1 (-1) p q)]) (x.b n false) (y.b n false)
 |b,.m k x=>(x.b n b).map fun p=>(p.1,p.2.map ((k:Int)*·))
 |b,.w x k=>(x.b n b).map fun p=>(p.1,p.2.map ((k:Int)*·))
 |false,.c x=>x.b n true
 |false,.g x=>(x.b n false).map fun p=>(p.1,p.2.map (-1*·))
 |true,.t x=>(x.b n false).flatMap fun p=>[(p.2::p.1,p.2),(p.2.map (-1*·)::p.1,[])]
 |b,.u x y=>both (fun p q=>[([add 1 (-1) p q],p),([add (-1) 1 p q],q)]) (x.b n b) (y.b n b)
 |b,.d x y=>both (fun p q=>[([add 1 (-1) p q],q),([add (-1) 1 p q],p)]) (x.b n b) (y.b n b)
 |_,_=>[([],[])]
def Ok(e:List Int)(b:B)(z:Int):Prop:=∃p∈b,(∀l∈p.1,0≤dot l e)∧dot p.2 e=z
theorem Ok.one(h:dot l e=z):Ok e [([],l)] z:=⟨([],l),List.mem_singleton.mpr rfl,(fun j h=>by cases h),h⟩
theorem Ok.both(hx:Ok e x a)(hy:Ok e y b)(h:∀p q,dot p e=a→dot q e=b→Ok e (f p q) c):Ok e (Lin.both f x y) c:=by
 obtain⟨p,hp,p1,p2⟩:=hx;obtain⟨q,hq,q1,q2⟩:=hy;obtain⟨r,hr,r1,r2⟩:=h _ _ p2 q2;refine⟨_,List.mem_flatMap.mpr ⟨p,hp,List.mem_flatMap.mpr ⟨q,hq,List.mem_map.mpr ⟨r,hr,rfl⟩⟩⟩,fun l hl=>?_,r2⟩;rcases List.mem_append.mp hl with hl|hl
 ·rcases List.mem_append.mp hl with hl|hl
  ·exact p1 l hl
  ·exact q1 l hl
 ·exact r1 l hl
theorem Ok.map{e:List Int}{x:B}{a c:Int}{f:L→L}(hx:Ok e x a)(h:∀p,dot p e=a→dot (f p) e=c):Ok e (x.map fun p=>(p.1,f p.2)) c:=by
 obtain⟨p,hp,p1,p2⟩:=hx;exact⟨_,List.mem_map.mpr ⟨p,hp,rfl⟩,p1,h _ p2⟩
theorem Ok.two(h:0≤dot u e∧dot l e=c∨0≤dot v e∧dot m e=c):Ok e [([u],l),([v],m)] c:=by
 rcases h with h|h
 ·exact⟨_,.head _,fun x hx=>by rw[List.mem_singleton.mp hx];exact h.1,h.2⟩
 ·exact⟨_,.tail _ (.head _),fun x hx=>by rw[List.mem_singleton.mp hx];exact h.1,h.2⟩
theorem qS:∀{e:List Nat}{i:Nat},i<e.length→(env e f).getD i 0=(e.getD i 0:Nat)
 |x::e,0,_=>rfl
 |x::e,i+1,h=>qS (e:=e) (Nat.lt_of_succ_lt_succ h)
section
variable {e:List Nat}{f:List Int}
noncomputable def val(e:List Nat)(f:List Int):Bool→T→Int
 |true,t=>(t.ev e f).1
 |false,t=>(t.ev e f).2
theorem su(h:y≤x):0≤1*x+-1*y:=by rw[Int.one_mul,Int.neg_mul,Int.one_mul];exact Int.sub_nonneg_of_le h
theorem Mq(h:x≤y):0≤-1*x+1*y:=by rw[Int.add_comm];exact su h
theorem sb(x y:Nat):0≤1*(x:Int)+-1*y∧1*(x:Int)+-1*y=((x-y:Nat):Int)∨0≤-1*(x:Int)+1*y∧0=((x-y:Nat):Int):=
 (Nat.le_total y x).imp (fun h=>⟨su (Int.ofNat_le.mpr h),by rw[Int.one_mul,Int.neg_mul,Int.one_mul,Int.ofNat_sub h];rfl⟩) fun h=>⟨Mq (Int.ofNat_le.mpr h),by rw[Nat.sub_eq_zero_of_le h];rfl⟩
theorem mx(x y:Int):0≤1*x+-1*y∧x=max x y∨0≤-1*x+1*y∧y=max x y:=
 (Int.le_total y x).imp (fun h=>⟨su h,(Int.max_eq_left h).symm⟩) fun h=>⟨Mq h,(Int.max_eq_right h).symm⟩
theorem mn(x y:Int):0≤1*x+-1*y∧y=min x y∨0≤-1*x+1*y∧x=min x y:=
 (Int.le_total y x).imp (fun h=>⟨su h,(Int.min_eq_right h).symm⟩) fun h=>⟨Mq h,(Int.min_eq_left h).symm⟩
theorem Qh(x y:Nat):((max x y:Nat):Int)=max (x:Int) y:=(Nat.le_total y x).elim (fun h=>by rw[Nat.max_eq_left h,Int.max_eq_left (Int.ofNat_le.mpr h)]) fun h=>by rw[Nat.max_eq_right h,Int.max_eq_right (Int.ofNat_le.mpr h)]
theorem PT(x y:Nat):((min x y:Nat):Int)=min (x:Int) y:=(Nat.le_total y x).elim (fun h=>by rw[Nat.min_eq_right h,Int.min_eq_right (Int.ofNat_le.mpr h)]) fun h=>by rw[Nat.min_eq_left h,Int.min_eq_left (Int.ofNat_le.mpr h)]
theorem tn(x:Int):0≤x∧x=(x.toNat:Int)∨0≤-1*x∧0=(x.toNat:Int):=
 (Int.le_total 0 x).imp (fun h=>⟨h,(Int.toNat_of_nonneg h).symm⟩) fun h=>⟨by rw[Int.neg_mul,Int.one_mul];exact Int.neg_nonneg_of_nonpos h,by rw[Int.toNat_of_nonpos h];rfl⟩
theorem ad{p q e:List Int}{a b:Int}(hp:dot p e=a)(hq:dot q e=b):dot (add 1 1 p q) e=a+b:=by rw[bH,hp,hq,Int.one_mul,Int.one_mul]
theorem ma{p e:List Int}{a k:Int}(hp:dot p e=a):dot (p.map (k*·)) e=k*a:=by rw[iT,hp]
theorem T.bp:∀(t:T)(b:Bool),Ok (1::env e f) (t.b e.length b) (val e f b t)
 |.v i,true=>.one (by
  by_cases h:i<e.length
  ·rw[if_pos h,kH];exact qS h
  ·rw[if_neg h];show 0=((e.getD i 0:Nat):Int);rw[List.getD_eq_getElem?_getD,List.getElem?_eq_none (Nat.le_of_not_lt h)];rfl)
 |.v i,false=>.one (kH (i+1) (1::env e f))
 |.n k,true=>.one ((Int.add_zero _).trans (Int.mul_one _))
 |.n _,false=>.one rfl
 |.q _,true=>.one rfl
 |.q z,false=>.one ((Int.add_zero _).trans (Int.mul_one _))
 |.a x y,true=>.both (bp x true) (bp y true) fun j j hp hq=>.one (ad hp hq)
 |.a x y,false=>.both (bp x false) (bp y false) fun j j hp hq=>.one (ad hp hq)
 |.s x y,true=>.both (bp x true) (bp y true) fun j j hp hq=>.two (by rw[bH,bH,hp,hq];exact sb _ _)
 |.s x y,false=>.both (bp x false) (bp y false) fun j j hp hq=>.one (by rw[bH,hp,hq,Int.one_mul,Int.neg_mul,Int.one_mul];rfl)
 |.m _ x,true=>.map (bp x true) fun j hp=>ma hp
 |.m _ x,false=>.map (bp x false) fun j hp=>ma hp
 |.w x _,true=>.map (bp x true) fun j hp=>(ma hp).trans (Int.mul_comm _ _)
 |.w x _,false=>.map (bp x false) fun j hp=>(ma hp).trans (Int.mul_comm _ _)
 |.c _,true=>.one rfl
 |.c x,false=>bp x true
 |.g _,true=>.one rfl
 |.g x,false=>.map (bp x false) fun j hp=>(ma hp).trans (by rw[Int.neg_mul,Int.one_mul];rfl)
 |.t x,true=>by
  obtain⟨p,hp,p1,p2⟩:=bp x false;rcases tn (val e f false x) with ⟨h,g⟩|⟨h,g⟩
  ·exact⟨_,List.mem_flatMap.mpr ⟨p,hp,.head _⟩,List.forall_mem_cons.mpr ⟨by rw[p2];exact h,p1⟩,p2.trans g⟩
  ·exact⟨_,List.mem_flatMap.mpr ⟨p,hp,.tail _ (.head _)⟩,List.forall_mem_cons.mpr ⟨by rw[iT,p2];exact h,p1⟩,g⟩
 |.t _,false=>.one rfl
 |.u x y,true=>.both (bp x true) (bp y true) fun j j hp hq=>.two (by rw[bH,bH,hp,hq,show val e f true (.u x y)=max (val e f true x) (val e f true y) from Qh ..];exact mx _ _)
 |.u x y,false=>.both (bp x false) (bp y false) fun j j hp hq=>.two (by rw[bH,bH,hp,hq];exact mx _ _)
 |.d x y,true=>.both (bp x true) (bp y true) fun j j hp hq=>.two (by rw[bH,bH,hp,hq,show val e f true (.d x y)=min (val e f true x) (val e f true y) from PT ..];exact mn _ _)
 |.d x y,false=>.both (bp x false) (bp y false) fun j j hp hq=>.two (by rw[bH,bH,hp,hq];exact mn _ _)
noncomputable def ge(p q:L):L:=add 1 (-1) p q
noncomputable def gt(p q:L):L:=add 1 1 [-1] (add 1 (-1) p q)
noncomputable def cp(h:L→L→List (List L))(x y:B):List (List L):=x.flatMap fun p=>y.flatMap fun q=>(h p.2 q.2).map fun r=>r++(p.1++q.1)
noncomputable def pr(x y:List (List L)):List (List L):=x.flatMap fun p=>y.map (p++·)
noncomputable def F.b(n:Nat):Bool→F→List (List L)
 |true,.le x y=>cp (fun p q=>[[ge q p]]) (x.b n true) (y.b n true)
 |false,.le x y=>cp (fun p q=>[[gt p q]]) (x.b n true) (y.b n true)
 |true,.lt x y=>cp (fun p q=>[[gt q p]]) (x.b n true) (y.b n true)
 |false,.lt x y=>cp (fun p q=>[[ge p q]]) (x.b n true) (y.b n true)
 |true,.eq x y=>cp (fun p q=>[[ge p q,ge q p]]) (x.b n true) (y.b n true)
 |false,.eq x y=>cp (fun p q=>[[gt p q],[gt q p]]) (x.b n true) (y.b n true)
 |true,.Le x y=>cp (fun p q=>[[ge q p]]) (x.b n false) (y.b n false)
 |false,.Le x y=>cp (fun p q=>[[gt p q]]) (x.b n false) (y.b n false)
 |true,.Lt x y=>cp (fun p q=>[[gt q p]]) (x.b n false) (y.b n false)
 |false,.Lt x y=>cp (fun p q=>[[ge p q]]) (x.b n false) (y.b n false)
 |true,.Eq x y=>cp (fun p q=>[[ge p q,ge q p]]) (x.b n false) (y.b n false)
 |false,.Eq x y=>cp (fun p q=>[[gt p q],[gt q p]]) (x.b n false) (y.b n false)
 |true,.no a=>a.b n false
 |false,.no a=>a.b n true
 |true,.an a b=>pr (a.b n true) (b.b n true)
 |false,.an a b=>a.b n false++b.b n false
 |true,.or a b=>a.b n true++b.b n true
 |false,.or a b=>pr (a.b n false) (b.b n false)
 |true,.im a b=>a.b n false++b.b n true
 |false,.im a b=>pr (a.b n true) (b.b n false)
def S(e:List Int)(x:List (List L)):Prop:=∃b∈x,∀l∈b,0≤dot l e
theorem S.cp{e:List Int}{x y:B}{a b:Int}{h:L→L→List (List L)}(hx:Ok e x a)(hy:Ok e y b)(k:∀p q,dot p e=a→dot q e=b→S e (h p q)):S e (cp h x y):=by
 obtain⟨p,hp,p1,p2⟩:=hx;obtain⟨q,hq,q1,q2⟩:=hy;obtain⟨r,hr,r1⟩:=k p.2 q.2 p2 q2;refine⟨_,List.mem_flatMap.mpr ⟨p,hp,List.mem_flatMap.mpr ⟨q,hq,List.mem_map.mpr ⟨r,hr,rfl⟩⟩⟩,fun l hl=>?_⟩;rcases List.mem_append.mp hl with hl|hl
 ·exact r1 l hl
 ·rcases List.mem_append.mp hl with hl|hl
  ·exact p1 l hl
  ·exact q1 l hl
theorem S.pr{e:List Int}{x y:List (List L)}(hx:S e x)(hy:S e y):S e (pr x y):=by
 obtain⟨p,hp,p1⟩:=hx;obtain⟨q,hq,q1⟩:=hy;exact⟨_,List.mem_flatMap.mpr ⟨p,hp,List.mem_map.mpr ⟨q,hq,rfl⟩⟩,fun l hl=>(List.mem_append.mp hl).elim (p1 l) (q1 l)⟩
theorem S.l{e:List Int}{x y:List (List L)}(hx:S e x):S e (x++y):=by
 obtain⟨p,hp,p1⟩:=hx;exact⟨p,List.mem_append_left _ hp,p1⟩
theorem S.r{e:List Int}{x y:List (List L)}(hx:S e y):S e (x++y):=by
 obtain⟨p,hp,p1⟩:=hx;exact⟨p,List.mem_append_right _ hp,p1⟩
theorem S.ge{e:List Int}{p q:L}{a b:Int}(hp:dot p e=a)(hq:dot q e=b)(h:b≤a):S e [[ge p q]]:=
 ⟨_,.head _,fun l hl=>by rw[List.mem_singleton.mp hl,Lin.ge,bH,hp,hq];omega⟩
theorem Hm{e:List Int}{p q:L}{a b:Int}(hp:dot p (1::e)=a)(hq:dot q (1::e)=b)(h:b<a):0≤dot (gt p q) (1::e):=by
 rw[gt,bH,bH,hp,hq];show 0≤1*(-1*1+dot [] e)+_;rw[eH];omega
theorem S.gt{e:List Int}{p q:L}{a b:Int}(hp:dot p (1::e)=a)(hq:dot q (1::e)=b)(h:b<a):S (1::e) [[gt p q]]:=
 ⟨_,.head _,fun l hl=>by rw[List.mem_singleton.mp hl];exact Hm hp hq h⟩
theorem S.eq{e:List Int}{p q:L}{a b:Int}(hp:dot p e=a)(hq:dot q e=b)(h:a=b):S e [[Lin.ge p q,Lin.ge q p]]:=
 ⟨_,.head _,fun l hl=>by
  rcases List.mem_cons.mp hl with rfl|hl
  ·rw[Lin.ge,bH,hp,hq];omega
  ·rw[List.mem_singleton.mp hl,Lin.ge,bH,hp,hq];omega⟩
theorem S.ne{e:List Int}{p q:L}{a b:Int}(hp:dot p (1::e)=a)(hq:dot q (1::e)=b)(h:a≠b):S (1::e) [[Lin.gt p q],[Lin.gt q p]]:=by
 rcases Int.lt_or_gt_of_ne h with h|h
 ·exact S.r (x:=[[Lin.gt p q]]) (S.gt hq hp h)
 ·exact S.l (y:=[[Lin.gt q p]]) (S.gt hp hq h)
noncomputable def F.is(e:List Nat)(f:List Int):Bool→F→Prop
 |true,a=>a.ev e f
 |false,a=>¬a.ev e f
theorem F.bp:∀(a:F)(b:Bool),a.is e f b→S (1::env e f) (a.b e.length b)
 |.le x y,true,h=>.cp (x.bp true) (y.bp true) fun j j p q=>.ge q p (Int.ofNat_le.mpr h)
 |.le x y,false,h=>.cp (x.bp true) (y.bp true) fun j j p q=>.gt p q (Int.ofNat_lt.mpr (Nat.lt_of_not_le h))
 |.lt x y,true,h=>.cp (x.bp true) (y.bp true) fun j j p q=>.gt q p (Int.ofNat_lt.mpr h)
 |.lt x y,false,h=>.cp (x.bp true) (y.bp true) fun j j p q=>.ge p q (Int.ofNat_le.mpr (Nat.le_of_not_lt h))
 |.eq x y,true,h=>.cp (x.bp true) (y.bp true) fun j j p q=>.eq p q (congrArg Int.ofNat h)
 |.eq x y,false,h=>.cp (x.bp true) (y.bp true) fun j j p q=>.ne p q fun z=>h (Int.ofNat.inj z)
 |.Le x y,true,h=>.cp (x.bp false) (y.bp false) fun j j p q=>.ge q p h
 |.Le x y,false,h=>.cp (x.bp false) (y.bp false) fun j j p q=>.gt p q (Int.lt_of_not_ge h)
 |.Lt x y,true,h=>.cp (x.bp false) (y.bp false) fun j j p q=>.gt q p h
 |.Lt x y,false,h=>.cp (x.bp false) (y.bp false) fun j j p q=>.ge p q (Int.not_lt.mp h)
 |.Eq x y,true,h=>.cp (x.bp false) (y.bp false) fun j j p q=>.eq p q h
 |.Eq x y,false,h=>.cp (x.bp false) (y.bp false) fun j j p q=>.ne p q h
 |.no a,true,h=>a.bp false h
 |.no a,false,h=>a.bp true (Classical.not_not.mp h)
 |.an a b,true,h=>.pr (a.bp true h.1) (b.bp true h.2)
 |.an a b,false,h=>(Classical.not_and_iff_not_or_not.mp h).elim (fun h=>.l (a.bp false h)) fun h=>.r (b.bp false h)
 |.or a b,true,h=>h.elim (fun h=>.l (a.bp true h)) fun h=>.r (b.bp true h)
 |.or a b,false,h=>.pr (a.bp false fun z=>h (.inl z)) (b.bp false fun z=>h (.inr z))
 |.im a b,true,h=>(Classical.em (a.ev e f)).elim (fun z=>.r (b.bp true (h z))) fun z=>.l (a.bp false z)
 |.im a b,false,h=>.pr (a.bp true (Classical.byContradiction fun z=>h fun y=>absurd y z)) (b.bp false fun z=>h fun j=>z)
noncomputable def ck(n m:Nat)(a:F):Bool:=(a.b n false).all fun b=>fm (n+m) (b++(List.range n).map fun i=>unit (i+1))
theorem p(a:F)(n m:Nat)(h:ck n m a=true)(e:List Nat)(f:List Int)(he:e.length=n)(hf:f.length=m):a.ev e f:=Classical.byContradiction fun z=>by
 subst he;subst hf;obtain⟨b,hb,k⟩:=a.bp false z;haveI h:=List.all_eq_true.mp h b hb;rw[show e.length+f.length=(env e f).length by simp[env]] at h;refine Fw h fun l hl=>(List.mem_append.mp hl).elim (k l) fun hl=>?_
 obtain⟨i,hi,rfl⟩:=List.mem_map.mp hl;rw[kH];show 0≤(env e f).getD i 0;rw[qS (List.mem_range.mp hi)];exact Int.natCast_nonneg _
end
noncomputable def lit(k:Nat):Nat×Nat:=(k/256%16^(k%256),k/256/16^(k%256))
noncomputable def un(f:T→T)(r:T×Nat):T×Nat:=(f r.1,r.2)
noncomputable def bi{α β:Type}(g:Nat→α×Nat)(f:α→α→β)(r:α×Nat):β×Nat:=(f r.1 (g r.2).1,(g r.2).2)
noncomputable def ln{β:Type}(f:Nat→β)(r:Nat×Nat):β×Nat:=(f r.1,r.2)
noncomputable def dT:Nat→Nat→T×Nat
 |0,k=>(.n 0,k)
 |i+1,k=>match k%16 with
  |0=>(.v (k/16%16),k/256)
  |1=>ln .n (lit (k/16))
  |2=>ln (fun z=>.q z) (lit (k/16))
  |3=>ln (fun z=>.q (-z)) (lit (k/16))
  |4=>bi (dT i) .a (dT i (k/16))
  |5=>bi (dT i) .s (dT i (k/16))
  |6=>un (.m (lit (k/16)).1) (dT i (lit (k/16)).2)
  |7=>un (.w · (lit (k/16)).1) (dT i (lit (k/16)).2)
  |8=>un .c (dT i (k/16))
  |9=>un .g (dT i (k/16))
  |10=>un .t (dT i (k/16))
  |11=>bi (dT i) .u (dT i (k/16))
  |_=>bi (dT i) .d (dT i (k/16))
noncomputable def fu(f:F→F)(r:F×Nat):F×Nat:=(f r.1,r.2)
noncomputable def dF:Nat→Nat→F×Nat
 |0,k=>(.eq (.n 0) (.n 0),k)
 |i+1,k=>match k%16 with
  |0=>bi (dT 20) .le (dT 20 (k/16))
  |1=>bi (dT 20) .lt (dT 20 (k/16))
  |2=>bi (dT 20) .eq (dT 20 (k/16))
  |3=>bi (dT 20) .Le (dT 20 (k/16))
  |4=>bi (dT 20) .Lt (dT 20 (k/16))
  |5=>bi (dT 20) .Eq (dT 20 (k/16))
  |6=>fu .no (dF i (k/16))
  |7=>bi (dF i) .an (dF i (k/16))
  |8=>bi (dF i) .or (dF i (k/16))
  |_=>bi (dF i) .im (dF i (k/16))
noncomputable def cd(k:Nat):F:=(dF 20 k).1
end Lin
open Lin
theorem nm(x k:Nat)(h:Nat.ble 1 k=true):k*(x/k)+x%k=x∧x%k<k:=⟨Nat.div_add_mod x k,Nat.mod_lt _ (Nat.le_of_ble_eq_true h)⟩
theorem im(x:Int)(k:Nat)(h:Nat.ble 1 k=true):(k:Int)*(x/(k:Int))+x%(k:Int)=x∧(0:Int)≤x%(k:Int)∧x%(k:Int)<(k:Int):=by
 have h:=Nat.le_of_ble_eq_true h;exact⟨Int.mul_ediv_add_emod x k,Int.emod_nonneg _ (by omega),Int.emod_lt_of_pos _ (by omega)⟩
theorem ed(k:Nat)(h:autoParam (ck 0 0 (cd k)=true) kr):(cd k).ev [] []:=p _ 0 0 h _ _ rfl rfl
theorem fz(k:Nat)(h:autoParam (ck 0 1 (cd k)=true) kr):(cd k).ev [] [y0]:=p _ 0 1 h _ _ rfl rfl
theorem It(k:Nat)(h:autoParam (ck 0 2 (cd k)=true) kr):(cd k).ev [] [y0,y1]:=p _ 0 2 h _ _ rfl rfl
theorem O2(k:Nat)(h:autoParam (ck 0 3 (cd k)=true) kr):(cd k).ev [] [y0,y1,y2]:=p _ 0 3 h _ _ rfl rfl
theorem aO(k:Nat)(h:autoParam (ck 1 0 (cd k)=true) kr):(cd k).ev [x0] []:=p _ 1 0 h _ _ rfl rfl
theorem BR(k:Nat)(h:autoParam (ck 1 1 (cd k)=true) kr):(cd k).ev [x0] [y0]:=p _ 1 1 h _ _ rfl rfl
theorem aZ(k:Nat)(h:autoParam (ck 2 0 (cd k)=true) kr):(cd k).ev [x0,x1] []:=p _ 2 0 h _ _ rfl rfl
theorem yZ(k:Nat)(h:autoParam (ck 2 1 (cd k)=true) kr):(cd k).ev [x0,x1] [y0]:=p _ 2 1 h _ _ rfl rfl
theorem cM(k:Nat)(h:autoParam (ck 3 0 (cd k)=true) kr):(cd k).ev [x0,x1,x2] []:=p _ 3 0 h _ _ rfl rfl
theorem Oq(k:Nat)(h:autoParam (ck 3 1 (cd k)=true) kr):(cd k).ev [x0,x1,x2] [y0]:=p _ 3 1 h _ _ rfl rfl
theorem Qi(k:Nat)(h:autoParam (ck 3 2 (cd k)=true) kr):(cd k).ev [x0,x1,x2] [y0,y1]:=p _ 3 2 h _ _ rfl rfl
theorem gk(k:Nat)(h:autoParam (ck 4 0 (cd k)=true) kr):(cd k).ev [x0,x1,x2,x3] []:=p _ 4 0 h _ _ rfl rfl
theorem xg(k:Nat)(h:autoParam (ck 5 0 (cd k)=true) kr):(cd k).ev [x0,x1,x2,x3,x4] []:=p _ 5 0 h _ _ rfl rfl
theorem OY(k:Nat)(h:autoParam (ck 5 2 (cd k)=true) kr):(cd k).ev [x0,x1,x2,x3,x4] [y0,y1]:=p _ 5 2 h _ _ rfl rfl
theorem LD(k:Nat)(h:autoParam (ck 6 0 (cd k)=true) kr):(cd k).ev [x0,x1,x2,x3,x4,x5] []:=p _ 6 0 h _ _ rfl rfl
theorem Lw(k:Nat)(h:autoParam (ck 7 0 (cd k)=true) kr):(cd k).ev [x0,x1,x2,x3,x4,x5,x6] []:=p _ 7 0 h _ _ rfl rfl
end Sv
end
namespace Sv
open PySem PyProof.Rows
section
theorem ez{α:Type}{o:Option α}{f:α→Bool}{P:Prop}(h:o.any f=true)(k:∀a,o=some a→f a=true→P):P:=by
 cases o with
 |none=>cases h
 |some a=>exact k a rfl h
set_option genInjectivity true in
inductive AV where
 |none
 |bool (b:Bool)
 |int (i:Int)
 |str (s:Str)
 |bytes (b:List UInt8)
 |ba (v:Value)
 |obj (i:Nat)
 |tup (l:List AV)
 |lst (l:List AV)
 |aJ (b:List UInt8)
set_option genInjectivity true in
inductive ao where
 |list (l:List AV)
 |aj (l:List (Int×AV))
 |bo (l:List (List Int×AV))
 |bR (l:List ((Str⊕List UInt8)×AV))
 |set (l:List (Int×Int))
 |aJ (b:List UInt8)
 |inst (sl:List (Option AV))
noncomputable def AV.int?:AV→Option Int
 |.int i=>some i
 |_=>Option.none
noncomputable def AV.bool?:AV→Option Bool
 |.bool i=>some i
 |_=>Option.none
noncomputable def AV.vG:AV→Option Str
 |.str i=>some i
 |_=>Option.none
noncomputable def AV.gK:AV→Option (List UInt8)
 |.bytes i=>some i
 |_=>Option.none
noncomputable def AV.tK:AV→Option (List AV)
 |.lst i=>some i
 |_=>Option.none
noncomputable def AV.kU:AV→Option Nat
 |.obj i=>some i
 |_=>Option.none
noncomputable def AV.isNone:AV→Bool
 |.none=>true
 |_=>false
noncomputable def refOf:Value→Option Addr
 |.ref a=>some a
 |_=>none
theorem iA(h:refOf e=some v):e=.ref v:=by
 cases e<;>first|(cases h;done)|(cases h;rfl)
noncomputable def AV.Bt:AV→Option Value
 |.ba v=>some v
 |_=>.none
theorem AV.tW{a:AV}{v:Value}(h:a.Bt=some v):a=.ba v:=by cases a<;>first|(cases h;rfl)|cases h
noncomputable def AV.b7:AV→Bool
 |.ba _=>true
 |_=>false
@[simp] theorem AV.Li{x:Int}:(AV.int x).int?=some x:=rfl
@[simp] theorem AV.He{x:Bool}:(AV.bool x).bool?=some x:=rfl
@[simp] theorem AV.JT{x:Str}:(AV.str x).vG=some x:=rfl
@[simp] theorem AV.De{x:List UInt8}:(AV.bytes x).gK=some x:=rfl
@[simp] theorem AV.Jt{x:List AV}:(AV.lst x).tK=some x:=rfl
@[simp] theorem AV.KV{x:Nat}:(AV.obj x).kU=some x:=rfl
@[simp] def both{α:Type}(f:AV→Option α)(x y:AV):Option (α×α):=(f x).bind fun a=>(f y).map fun b=>(a,b)
theorem AV.view(v:AV):(match v.int? with|some i=>v=.int i|Option.none=>True)∧(match v.bool? with|some i=>v=.bool i|Option.none=>True)∧(match v.vG with|some i=>v=.str i|Option.none=>True)∧(match v.gK with|some i=>v=.bytes i|Option.none=>True) ∧
 (match v.tK with|some i=>v=.lst i|Option.none=>True)∧(match v.kU with|some i=>v=.obj i|Option.none=>True)∧(match v.isNone with|true=>v=.none|false=>True):=by
 cases v<;>exact⟨by first|exact trivial|rfl,by first|exact trivial|rfl,by first|exact trivial|rfl,by first|exact trivial|rfl,by first|exact trivial|rfl,by first|exact trivial|rfl,by first|exact trivial|rfl⟩
theorem AV.Eb{v:AV}{i:Int}(h:v.int?=some i):v=.int i:=by haveI:=v.view.1;rw[h] at this;exact this
theorem AV.BK{v:AV}{i:Bool}(h:v.bool?=some i):v=.bool i:=by haveI:=v.view.2.1;rw[h] at this;exact this
theorem AV.C6{v:AV}{i:Str}(h:v.vG=some i):v=.str i:=by haveI:=v.view.2.2.1;rw[h] at this;exact this
theorem AV.xY{v:AV}{i:List UInt8}(h:v.gK=some i):v=.bytes i:=by haveI:=v.view.2.2.2.1;rw[h] at this;exact this
theorem AV.Dd{v:AV}{i:List AV}(h:v.tK=some i):v=.lst i:=by haveI:=v.view.2.2.2.2.1;rw[h] at this;exact this
theorem AV.du{v:AV}{i:Nat}(h:v.kU=some i):v=.obj i:=by haveI:=v.view.2.2.2.2.2.1;rw[h] at this;exact this
theorem AV.xu{v:AV}(h:v.isNone=true):v=.none:=by haveI:=v.view.2.2.2.2.2.2;rw[h] at this;exact this
theorem sR{α β:Type}{f:AV→Option α}{x y:AV}{g:α×α→Option β}{b:β}{P:Prop}(h:(both f x y).bind g=some b)(k:∀a c,f x=some a→f y=some c→g (a,c)=some b→P):P:=
 bO h fun p e h=>bO e fun a e1 e=>mO e fun c e2 q=>k a c e1 e2 (q▸h)
theorem nr{α β:Type}{f:AV→Option α}{x y:AV}{g:α×α→β}{b:β}{P:Prop}(h:(both f x y).map g=some b)(k:∀a c,f x=some a→f y=some c→g (a,c)=b→P):P:=
 mO h fun p e h=>bO e fun a e1 e=>mO e fun c e2 q=>k a c e1 e2 (q▸h)
noncomputable def ao.lZ:ao→Option (List AV)
 |.list l=>some l
 |_=>none
noncomputable def ao.rL:ao→Option (List (Int×AV))
 |.aj l=>some l
 |_=>none
noncomputable def ao.rO:ao→Option (List ((Str⊕List UInt8)×AV))
 |.bR l=>some l
 |_=>none
noncomputable def ao.qr:ao→Option (List UInt8)
 |.aJ l=>some l
 |_=>none
theorem ao.gn{o:ao}{l:List AV}(h:o.lZ=some l):o=.list l:=by cases o<;>first|(cases h;rfl)|cases h
theorem ao.lh{o:ao}{l:List (Int×AV)}(h:o.rL=some l):o=.aj l:=by cases o<;>first|(cases h;rfl)|cases h
theorem ao.lK{o:ao}{l:List ((Str⊕List UInt8)×AV)}(h:o.rO=some l):o=.bR l:=by cases o<;>first|(cases h;rfl)|cases h
theorem ao.kJ{o:ao}{l:List UInt8}(h:o.qr=some l):o=.aJ l:=by cases o<;>first|(cases h;rfl)|cases h
noncomputable abbrev St:=List ao
noncomputable abbrev Lc:=List (Option AV)
inductive R(α:Type) where
 |ok (a:α) (st:St)
 |exc (k:Nat) (st:St)
 |stuck
@[reducible] def R.bind{α β:Type}:R α→(α→St→R β)→R β
 |.ok a st,f=>f a st
 |.exc _ _,_=>.stuck
 |.stuck,_=>.stuck
noncomputable def R.ei{α:Type}(st:St):Option α→R α
 |some a=>.ok a st
 |none=>.stuck
inductive pA where
 |add|sub|mul|floordiv|mod|pow|band
inductive LU where
 |neg|inv|not
inductive pC where
 |eq|ne|lt|le|gt|ge|is|qp|isin|ku
inductive BF where
 |len|yk|bytes|bytearray|chr|isStr|Fd|tuple|min2|MO|u4|vz|FL|sorted|intOf|Cz
inductive BM where
 |append|add|get|setdefault|encode|join|packInto
 deriving DecidableEq
set_option genCtorIdx false in
inductive T where
 |name (i:Nat)
 |tup (l:List Nat)
set_option genCtorIdx false in
mutual
inductive E where
 |lit (v:AV)
 |var (i:Nat)
 |bin (op:pA) (a b:E)
 |un (op:LU) (a:E)
 |and (a b:E)
 |or (a b:E)
 |cmp (op:pC) (a b:E)
 |tf (o1 o2:pC) (a b c:E)
 |ite (c a b:E)
 |slot (a:E) (i:Nat)
 |aQ (a:E) (n:Nat)
 |sub (a i:E)
 |slice (a:E) (l u:Option E) (rev:Bool)
 |tup (es:Es)
 |list (es:Es)
 |dw
 |cz (k:Nat)
 |kg (n:E)
 |aY (f:Addr) (args:Es) (B2:Option E) (kw:Option (Nat×E))
 |aA (o:E) (f:Addr) (args:Es) (B2:Option E) (kw:Option (Nat×E))
 |oU (args:Es)
 |bcall (f:BF) (args:Es)
 |aD (o:E) (m:BM) (args:Es)
 |comp (c:C)
inductive Es where
 |nil
 |cons (e:E) (r:Es)
inductive Src where
 |yV (e:E)
 |dM (e:E)
 |Hf (a b c:E)
 |rev (e:E)
inductive C where
 |elt (e:E)
 |gen (t:T) (s:Src) (ifs:Es) (c:C)
end
set_option genCtorIdx false in
structure Fn where
 np:Nat
 dflt:List AV
 vararg:Bool
 nv:Nat
set_option genCtorIdx false in
structure Tab where
 aQ:Addr→Nat→Option AV
 pack:Addr→Option (Nat×Bool×Bool)   -- a Struct object: width,signed,is '?'
 nV:Nat
 oz:Addr→Bool
 jZ:Addr→Bool
 init:Addr
noncomputable abbrev RC:=Addr→List AV→Option (Nat×AV)→St→R AV
noncomputable def jc(tb:Tab)(rc:RC):RC:=fun f args kw st=>if tb.oz f then rc f args kw st else .stuck
noncomputable def AV.Mh(x y:AV):Option Bool:=((both AV.int? x y).map fun p=>p.1==p.2).or (((both AV.bool? x y).map fun p=>p.1==p.2).or (((both AV.vG x y).map fun p=>p.1==p.2).or (((both AV.gK x y).map fun p=>p.1==p.2).or
 ((gd x.isNone ((y.int?.map fun j=>false).or (gd y.isNone (some true)))).or (gd y.isNone (x.int?.map fun j=>false))))))
noncomputable def oH(a:Int):Bool:=decide (a.natAbs<18446744073709551616)
noncomputable def AE(x y:AV):Option AV:=((both AV.int? x y).map fun p=>.int (p.1+p.2)).or (((both AV.vG x y).bind fun p=>gd (decide (p.1.cps.size+p.2.cps.size≤10000)) (some (.str (p.1++p.2)))).or
 (((both AV.gK x y).bind fun p=>gd (decide (p.1.length+p.2.length≤10000)) (some (.bytes (p.1++p.2)))).or ((both AV.tK x y).bind fun p=>gd (decide (p.1.length+p.2.length≤10000)) (some (.lst (p.1++p.2))))))
noncomputable def zl(x y:AV):Option AV:=((both AV.int? x y).bind fun p=>gd (oH p.1||oH p.2) (some (.int (p.1*p.2)))).or
 (x.gK.bind fun a=>y.int?.bind fun n=>gd (decide (a.length=1∧0≤n∧n≤10000)) (some (.bytes (List.replicate n.toNat (a.headD 0)))))
noncomputable def Ah(x y:AV):Option AV:=y.int?.bind fun b=>gd (!(b==0)&&oH b) ((x.int?.map fun a=>.int (a.fdiv b)).or (x.bool?.map fun a=>.int ((if a then 1 else 0:Int).fdiv b)))
noncomputable def aq:pA→AV→AV→Option AV
 |.add,x,y=>AE x y
 |.sub,x,y=>(both AV.int? x y).map fun p=>.int (p.1-p.2)
 |.mul,x,y=>zl x y
 |.floordiv,x,y=>Ah x y
 |.mod,x,y=>(both AV.int? x y).bind fun p=>gd (!(p.2==0)) (some (.int (p.1.fmod p.2)))
 |.pow,x,y=>(both AV.int? x y).bind fun p=>gd (decide (0≤p.2∧p.2≤1000000∧p.1.natAbs<2^64)) (some (.int (p.1^p.2.toNat)))
 |.band,x,y=>(both AV.int? x y).map fun p=>.int (Builtin.bitAnd p.1 p.2)
noncomputable def wF(o:ao):Option Bool:=(o.lZ.bind fun l=>gd (decide (l.length≤1000000)) (some (!l.isEmpty))).or (o.rO.bind fun l=>gd (decide (l.length≤1000000)) (some (!l.isEmpty)))
noncomputable def truthy(st:St):AV→Option Bool
 |.none=>some false
 |.bool b=>some b
 |.int i=>some (i != 0)
 |.lst l=>gd (decide (l.length≤1000000)) (some (!l.isEmpty))
 |.obj i=>(st[i]?).bind wF
 |_=>Option.none
noncomputable def vM(st:St):LU→AV→Option AV
 |.neg,v=>v.int?.map fun a=>.int (-a)
 |.inv,v=>v.int?.map fun a=>.int (Builtin.bitNot a)
 |.not,v=>(truthy st v).map fun b=>.bool (!b)
noncomputable def aN{K:Type}[DecidableEq K](l:List (K×AV))(k:K):Option AV:=(l.find? fun kv=>kv.1=k).map (·.2)
noncomputable def fy{K:Type}[DecidableEq K](l:List (K×AV))(k:K)(v:AV):List (K×AV):=
 if l.any (fun kv=>kv.1=k) then l.map (fun kv=>if kv.1=k then (kv.1,v) else kv) else l++[(k,v)]
noncomputable def AV.Ja:AV→Bool
 |.int _=>true
 |_=>false
noncomputable def iC:List AV→Option (List Int)
 |[]=>some []
 |.int i::r=>(iC r).map (i::·)
 |_=>Option.none
noncomputable def rf:AV→Option (List Int)
 |.tup l=>iC l
 |_=>Option.none
noncomputable def iG:AV→Option (Str⊕List UInt8)
 |.str s=>some (.inl s)
 |.bytes b=>some (.inr b)
 |_=>Option.none
noncomputable def xn(o:ao)(k:AV):Option (Option AV):=match o with
 |.aj l=>k.int?.map fun k=>aN l k
 |.bo l=>(rf k).map fun k=>aN l k
 |.bR l=>(iG k).map fun k=>aN l k
 |_=>Option.none
noncomputable def ky:ao→Nat
 |.aj l=>l.length
 |.bo l=>l.length
 |.bR l=>l.length
 |_=>0
noncomputable def CA(o:ao)(k v:AV):Option ao:=match o with
 |.aj l=>k.int?.map fun k=>.aj (fy l k v)
 |.bo l=>(rf k).map fun k=>.bo (fy l k v)
 |.bR l=>(iG k).map fun k=>.bR (fy l k v)
 |_=>Option.none
noncomputable def AV.zZ(i:Int):AV→Bool
 |.int j=>j==i
 |_=>false
noncomputable def jI(v:AV)(l:List AV):Option Bool:=v.int?.bind fun i=>gd (l.all AV.Ja) (some (l.any (AV.zZ i)))
noncomputable def Hk(v:AV)(o:ao):Option Bool:=(o.lZ.bind (jI v)).or ((o.rL.bind fun l=>v.int?.map fun k=>(aN l k).isSome).or (o.rO.bind fun l=>(iG v).map fun k=>(aN l k).isSome))
noncomputable def jS(st:St)(v y:AV):Option Bool:=(y.kU.bind fun i=>(st[i]?).bind (Hk v)).or (y.tK.bind (jI v))
noncomputable def A1:AV→Option Bool
 |.none=>some true
 |.obj _=>some false
 |.tup _=>some false
 |.int _=>some false
 |.bytes _=>some false
 |.bool _=>some false
 |_=>Option.none
noncomputable def two(x y:AV):Option (Int×Int):=both AV.int? x y
noncomputable def bB(st:St)(k:pC)(a b:AV):Option Bool:=match k with
 |.eq=>AV.Mh a b
 |.ne=>(AV.Mh a b).map (!·)
 |.lt=>(two a b).map fun p=>decide (p.1<p.2)
 |.le=>((both AV.int? a b).map fun p=>decide (p.1≤p.2)).or ((both AV.bool? a b).map fun p=>decide (b2i p.1≤b2i p.2))
 |.gt=>(two a b).map fun p=>decide (p.2<p.1)
 |.ge=>(two a b).map fun p=>decide (p.2≤p.1)
 |.is=>gd b.isNone (A1 a)
 |.qp=>gd b.isNone ((A1 a).map (!·))
 |.isin=>jS st a b
 |.ku=>b.tK.bind fun l=>(jI a l).map (!·)
noncomputable def idx(i:Int)(n:Nat):Option Nat:=gd (decide (n≤1000000∧-(n:Int)≤i∧i<n)) (some (if 0≤i then i.toNat else (i+n).toNat))
noncomputable def EL(k:AV)(o:ao):Option AV:=(o.lZ.bind fun l=>k.int?.bind fun i=>(idx i l.length).bind fun k=>l[k]?).or ((o.rL.bind fun l=>k.int?.bind fun i=>aN l i).or (o.rO.bind fun l=>(iG k).bind fun k=>aN l k))
noncomputable def cX(st:St)(x k:AV):Option AV:=match x with
 |.lst l=>k.int?.bind fun i=>(idx i l.length).bind fun k=>l[k]?
 |.tup l=>k.int?.bind fun i=>(idx i l.length).bind fun k=>l[k]?
 |.bytes l=>k.int?.bind fun i=>gd (decide (0≤i∧i<l.length∧l.length≤1000000)) (some (.int (l.getD i.toNat 0).toNat))
 |.obj j=>(st[j]?).bind (EL k)
 |_=>Option.none
noncomputable def cut{α:Type}(l:List α)(a b:Option Int):List α:=
 (l.drop (a.elim 0 (clipAt l.length))).take (b.elim l.length (clipAt l.length)-a.elim 0 (clipAt l.length))
noncomputable def fB:Option AV→Option (Option Int)
 |Option.none=>some Option.none
 |some (.int i)=>if -(2^62)<i∧i<2^62 then some (some i) else Option.none
 |_=>Option.none
noncomputable def LL(xs:List AV)(l u:Option Int)(rev:Bool):Option AV:=gd (decide (xs.length≤1000000)) (if rev then gd (l.isNone&&u.isNone) (some (.lst xs.reverse)) else some (.lst (cut xs l u)))
noncomputable def cw(st:St)(a:AV)(l u:Option AV)(rev:Bool):Option AV:=(fB l).bind fun l=>(fB u).bind fun u=>(a.tK.bind fun xs=>LL xs l u rev).or ((a.gK.bind fun xs=>gd (!rev&&decide (xs.length≤1000000)) (some (.bytes (cut xs l u)))).or
 (a.kU.bind fun i=>(st[i]?).bind fun o=>(o.lZ.bind fun xs=>LL xs l u rev).or (o.qr.bind fun xs=>gd (!rev&&decide (xs.length≤1000000)) (some (.aJ (cut xs l u))))))
noncomputable def ah(st:St)(i:Nat):AV→Option AV
 |.obj j=>match st[j]? with
  |some (.inst sl)=>match sl[i]? with
   |some (some v)=>if v.b7 then Option.none else some v
   |_=>Option.none
  |_=>Option.none
 |_=>Option.none
noncomputable def ao.EO:ao→Option (List (Option AV))
 |.inst l=>some l
 |_=>none
theorem ao.ze{o:ao}{l:List (Option AV)}(h:o.EO=some l):o=.inst l:=by cases o<;>first|(cases h;rfl)|cases h
noncomputable def nL(st:St)(x:AV):Option Nat:=x.kU.bind fun j=>(st[j]?).bind fun o=>o.EO.bind fun z=>(st[j+1]?).bind fun d=>d.rL.bind fun l=>gd l.isEmpty (some j)
theorem yM{st:St}{x:AV}{j:Nat}{P:Prop}(h:nL st x=some j)(k:∀sl,x=.obj j→st[j]?=some (.inst sl)→st[j+1]?=some (.aj [])→P):P:=
 bO h fun i e1 h=>bO h fun o e2 h=>bO h fun sl e3 h=>bO h fun d e4 h=>bO h fun l e5 h=>gO h fun h1 h=>by
  have h:=cQ h;rw[ao.ze e3] at e2;rw[ao.lh e5,List.isEmpty_iff.mp h1] at e4;exact k sl (h▸AV.du e1) (h▸e2) (h▸e4)
theorem qz{st:St}{j:Nat}{sl:List (Option AV)}(h1:st[j]?=some (.inst sl))(h2:st[j+1]?=some (.aj [])):nL st (.obj j)=some j:=by
 show(st[j]?).bind _=_
 rw[h1]
 show(st[j+1]?).bind _=_
 rw[h2];rfl
noncomputable def dD(a b:Int)(up:Bool):List AV:=
 if up then (List.range (b-a).toNat).map fun(k:Nat)=>.int (a+k) else (List.range (a-b).toNat).map fun(k:Nat)=>.int (a-k)
noncomputable def mC:List AV→Option (List UInt8)
 |[]=>some []
 |.int i::r=>if 0≤i∧i<256 then (mC r).map fun l=>i.toNat.toUInt8::l else Option.none
 |_=>Option.none
noncomputable def iW:List AV→Option (List Bool)
 |[]=>some []
 |.bool i::r=>(iW r).map (i::·)
 |_=>Option.none
noncomputable def Bi:List AV→Option (List Str)
 |[]=>some []
 |.str i::r=>(Bi r).map (i::·)
 |_=>Option.none
noncomputable def w3:List AV→Option (List (Int×Int))
 |[]=>some []
 |.tup [.int a,.int b]::r=>(w3 r).map ((a,b)::·)
 |_=>Option.none
noncomputable def GU(x y:Int×Int):Bool:=decide (x.1<y.1)||(x.1==y.1&&decide (x.2≤y.2))
noncomputable def so(s:Str):Option (List UInt8):=if s.cps.any Str.isSurrogate=false then (if (s.cps.toList.flatMap Str.utf8Of).length≤1000000 then some (s.cps.toList.flatMap Str.utf8Of) else Option.none) else Option.none
noncomputable def one(args:List AV)(k:AV→R AV):R AV:=match args with
 |[x]=>k x
 |_=>.stuck
noncomputable def pair(args:List AV)(k:AV→AV→R AV):R AV:=match args with
 |[x,y]=>k x y
 |_=>.stuck
noncomputable def IU(args:List AV)(k:AV→AV→AV→R AV):R AV:=match args with
 |[x,y,z]=>k x y z
 |_=>.stuck
theorem xa(h:IU args k=.ok v st'):∃x y z,args=[x,y,z]∧k x y z=.ok v st':=by
 match args,h with
 |[x,y,z],h=>exact⟨x,y,z,rfl,h⟩
theorem iD(h:one args k=.ok v st'):∃x,args=[x]∧k x=.ok v st':=by
 match args,h with
 |[x],h=>exact⟨x,rfl,h⟩
 |[],h=>cases h
 |_::_::_,h=>cases h
theorem wj(h:pair args k=.ok v st'):∃x y,args=[x,y]∧k x y=.ok v st':=by
 match args,h with
 |[x,y],h=>exact⟨x,y,rfl,h⟩
 |[],h=>cases h
 |[_],h=>cases h
 |_::_::_::_,h=>cases h
noncomputable def d7(st:St):AV→R AV
 |.bytes b=>if b.length≤1000000 then .ok (.int b.length) st else .stuck
 |.obj i=>match st[i]? with
  |some (.list l)=>if l.length≤1000000 then .ok (.int l.length) st else .stuck
  |some (.aJ b)=>if b.length≤1000000 then .ok (.int b.length) st else .stuck
  |_=>.stuck
 |.lst l=>if l.length≤1000000 then .ok (.int l.length) st else .stuck
 |_=>.stuck
noncomputable def u2(st:St):AV→R AV
 |.int n=>if 0≤n∧n≤10000 then .ok (.bytes (List.replicate n.toNat 0)) st else .stuck
 |.lst l=>if l.length≤1000000 then R.ei st ((mC l).map .bytes) else .stuck
 |.aJ b=>if b.length≤1000000 then .ok (.bytes b) st else .stuck
 |_=>.stuck
noncomputable def kM(st:St):AV→R AV
 |.obj i=>match st[i]? with
  |some (.set l)=>if l.length<64 then .ok (.lst ((l.mergeSort GU).map fun p=>.tup [.int p.1,.int p.2])) st else .stuck
  |some (.aj l)=>if l.length<64 then .ok (.lst (((l.map (·.1)).mergeSort fun a b=>decide (a≤b)).map .int)) st else .stuck
  |_=>.stuck
 |_=>.stuck
noncomputable def bcall(f:BF)(args:List AV)(st:St):R AV:=
 match f with
 |.len=>one args (d7 st)
 |.yk=>one args fun x=>match x with|.int n=>if n≤10000 then .ok (.lst (dD 0 n true)) st else .stuck|_=>.stuck
 |.bytes=>one args (u2 st)
 |.bytearray=>one args fun x=>match x with|.int n=>if 0≤n∧n≤1000000 then .ok (.obj st.length) (st++[.aJ (List.replicate n.toNat 0)]) else .stuck|_=>.stuck
 |.chr=>one args fun x=>match x with|.int n=>if 0≤n∧n<0xD800 then .ok (.str ⟨#[n.toNat]⟩) st else .stuck|_=>.stuck
 |.isStr=>one args fun x=>match x with|.str _=>.ok (.bool true) st|.bytes _=>.ok (.bool false) st|_=>.stuck
 |.Fd=>one args fun x=>match x with|.str _=>.ok (.bool false) st|.bytes _=>.ok (.bool true) st|_=>.stuck
 |.tuple=>one args fun x=>match x with
  |.obj i=>match st[i]? with
   |some (.list l)=>if l.length≤1000000 then .ok (.tup l) st else .stuck
   |_=>.stuck
  |_=>.stuck
 |.min2=>pair args fun x y=>match x,y with|.int a,.int b=>.ok (.int (if b<a then b else a)) st|_,_=>.stuck
 |.MO=>one args fun x=>match x with
  |.lst l=>match iC l with
   |some (x::r)=>.ok (.int (r.foldl (fun m y=>if m<y then y else m) x)) st
   |_=>.stuck
  |_=>.stuck
 |.u4=>one args fun x=>match x with
  |.lst l=>R.ei st ((iC l).map fun l=>.int l.sum)
  |.bytes l=>.ok (.int (l.map fun b=>(b.toNat:Int)).sum) st
  |_=>.stuck
 |.vz=>one args fun x=>match x with|.lst l=>R.ei st ((iW l).map fun l=>.bool (l.all id))|_=>.stuck
 |.FL=>one args fun x=>match x with
  |.lst l=>match w3 l with
   |some [p]=>.ok (.obj st.length) (st++[.set [p]])
   |_=>.stuck
  |_=>.stuck
 |.sorted=>one args (kM st)
 |.intOf=>one args fun x=>match x with|.int n=>.ok (.int n) st|_=>.stuck
 |.Cz=>one args fun x=>match x with|.bytes b=>if b.length=4 then .ok (.tup (b.map fun x=>.int x.toNat)) st else .stuck|_=>.stuck
noncomputable def leB(w:Nat)(i:Int):List UInt8:=(List.range w).map fun k=>((i%2^(8*w)).toNat/256^k%256).toUInt8
noncomputable def putAt{α:Type}(l:List α)(p:Nat)(x:List α):List α:=l.take p++x++l.drop (p+x.length)
noncomputable def listAt(st:St)(o:AV):Option (Nat×List AV):=o.kU.bind fun i=>(st[i]?).bind fun x=>x.lZ.bind fun l=>gd (decide (l.length<10000)) (some (i,l))
noncomputable def wu(st:St)(o v:AV):R AV:=(R.ei st (listAt st o)).bind fun p st=>.ok .none (st.set p.1 (.list (p.2++[v])))
noncomputable def NA(st:St)(o v:AV):R AV:=match o with
 |.obj i=>match st[i]? with
  |some (.set l)=>match v with
   |.tup [.int a,.int b]=>if l.length<10000 then .ok .none (st.set i (.set (if (a,b)∈l then l else l++[(a,b)]))) else .stuck
   |_=>.stuck
  |_=>.stuck
 |_=>.stuck
noncomputable def Ju(st:St)(o k:AV):R AV:=R.ei st (o.kU.bind fun i=>(st[i]?).bind fun x=>(xn x k).map fun r=>r.getD .none)
noncomputable def ao.PQ:ao→Bool
 |.bo _=>true
 |_=>false
noncomputable def Qd(st:St)(o k v:AV):Option (AV×St):=o.kU.bind fun i=>(st[i]?).bind fun x=>gd (!x.PQ&&decide (ky x<10000)) ((xn x k).bind fun r=>match r with
 |some w=>some (w,st)
 |Option.none=>(CA x k v).map fun x'=>(v,st.set i x'))
noncomputable def l3(st:St)(o k v:AV):R AV:=(R.ei st (Qd st o k v)).bind fun p j=>.ok p.1 p.2
noncomputable def we(tb:Tab)(st:St)(a:Addr)(i:Nat)(p:Int)(v:AV):Option St:=
 (tb.pack a).bind fun w=>gd (!w.2.2) ((st[i]?).bind fun o=>o.qr.bind fun b=>gd (decide (0≤p∧p+w.1≤b.length∧b.length≤1000000)) (v.int?.bind fun x=>
  gd (decide ((if w.2.1 then -(2^(8*w.1-1)) else 0)≤x∧x<(if w.2.1 then 2^(8*w.1-1) else 2^(8*w.1)))) (some (st.set i (.aJ (putAt b p.toNat (leB w.1 x)))))))
noncomputable def Oc(m:BM):ao→Bool
 |.list _=>m==.append
 |.set _=>m==.add
 |.aj _=>m==.get||m==.setdefault
 |.bo _=>m==.get||m==.setdefault
 |.bR _=>m==.get||m==.setdefault
 |_=>false
noncomputable def c6(st:St)(m:BM)(o:AV):Bool:=(o.kU.bind fun j=>st[j]?).any (Oc m)||(o.vG.isSome&&(m==.encode||m==.join))||(o.b7&&m==.packInto)
noncomputable def aD(tb:Tab)(m:BM)(o:AV)(args:List AV)(st:St):R AV:=
 match m with
 |.append=>one args (wu st o)
 |.add=>one args (NA st o)
 |.get=>one args (Ju st o)
 |.setdefault=>pair args (l3 st o)
 |.encode=>one args fun x=>match o,x with|.str s,.str e=>if e=="utf-8" then R.ei st ((so s).map .bytes) else .stuck|_,_=>.stuck
 |.join=>one args fun x=>match o,x with
  |.str s,.lst l=>if s.cps.size=0 then (match Bi l with
   |some l=>if l.length≤1000∧l.all (fun s=>decide (s.cps.size=1)) then .ok (.str ⟨(l.flatMap fun s=>s.cps.toList).toArray⟩) st else .stuck
   |Option.none=>.stuck) else .stuck
  |_,_=>.stuck
 |.packInto=>IU args fun x y v=>(R.ei st (o.Bt.bind fun s=>(refOf s).bind fun a=>x.kU.bind fun i=>y.int?.bind fun p=>we tb st a i p v)).bind fun s j=>.ok .none s
noncomputable def fH(t:T)(v:AV)(lc:Lc):Option Lc:=
 match t with
 |.name i=>some (lc.set i (some v))
 |.tup is=>match v with
  |.tup vs=>if is.length=vs.length then some ((is.zip vs).foldl (fun lc p=>lc.set p.1 (some p.2)) lc) else Option.none
  |_=>Option.none
def same(o:Option Nat)(st st':St):Prop:=match o with
 |Option.none=>True
 |some i=>st'[i]?=st[i]?
open Classical in
noncomputable def jw(o:Option Nat)(f:AV→St→R (List AV)):List AV→St→R (List AV)
 |[],st=>.ok [] st
 |x::r,st=>(f x st).bind fun l st'=>if same o st st' then (jw o f r st').bind fun l' st=>.ok (l++l') st else .stuck
mutual
noncomputable def aC(tb:Tab)(rc:RC)(lc:Lc):E→St→R AV
 |.lit v,st=>.ok v st
 |.var i,st=>R.ei st (lc[i]?).join
 |.bin op a b,st=>(aC tb rc lc a st).bind fun x st=>(aC tb rc lc b st).bind fun y st=>R.ei st (aq op x y)
 |.un op a,st=>(aC tb rc lc a st).bind fun x st=>R.ei st (vM st op x)
 |.and a b,st=>(aC tb rc lc a st).bind fun x st=>match truthy st x with
  |some true=>aC tb rc lc b st
  |some false=>.ok x st
  |Option.none=>.stuck
 |.or a b,st=>(aC tb rc lc a st).bind fun x st=>match truthy st x with
  |some true=>.ok x st
  |some false=>aC tb rc lc b st
  |Option.none=>.stuck
 |.cmp op a b,st=>(aC tb rc lc a st).bind fun x st=>(aC tb rc lc b st).bind fun y st=>R.ei st ((bB st op x y).map .bool)
 |.tf o1 o2 a b c,st=>(aC tb rc lc a st).bind fun x st=>(aC tb rc lc b st).bind fun y st=>match bB st o1 x y with
  |some true=>(aC tb rc lc c st).bind fun z st=>R.ei st ((bB st o2 y z).map .bool)
  |some false=>.ok (.bool false) st
  |Option.none=>.stuck
 |.ite c a b,st=>(aC tb rc lc c st).bind fun x st=>match truthy st x with
  |some true=>aC tb rc lc a st
  |some false=>aC tb rc lc b st
  |Option.none=>.stuck
 |.slot a i,st=>(aC tb rc lc a st).bind fun x st=>R.ei st (ah st i x)
 |.aQ a n,st=>(aC tb rc lc a st).bind fun x st=>match x with
  |.ba (.ref C)=>R.ei st (tb.aQ C n)
  |_=>.stuck
 |.sub a i,st=>(aC tb rc lc a st).bind fun x st=>(aC tb rc lc i st).bind fun y st=>R.ei st (cX st x y)
 |.slice a l u rev,st=>(aC tb rc lc a st).bind fun x st=>(u5 tb rc lc l st).bind fun y st=>(u5 tb rc lc u st).bind fun z st=>R.ei st (cw st x y z rev)
 |.tup es,st=>(cT tb rc lc es st).bind fun vs st=>.ok (.tup vs) st
 |.list es,st=>(cT tb rc lc es st).bind fun vs st=>.ok (.lst vs) st
 |.dw,st=>.ok (.obj st.length) (st++[.list []])
 |.cz k,st=>.ok (.obj st.length) (st++[match k with|0=>.aj []|1=>.bo []|_=>.bR []])
 |.kg n,st=>(aC tb rc lc n st).bind fun x st=>match x with
  |.int n=>if 0≤n∧n≤10000 then .ok (.obj st.length) (st++[.list (List.replicate n.toNat (.int 0))]) else .stuck
  |_=>.stuck
 |.aY f args B2 kw,st=>(cT tb rc lc args st).bind fun vs st=>(zh tb rc lc B2 st).bind fun ws st=>(DD tb rc lc kw st).bind fun k st=>rc f (vs++ws) k st
 |.aA o f args B2 kw,st=>(aC tb rc lc o st).bind fun x st=>(R.ei st (nL st x)).bind fun j st=>(cT tb rc lc args st).bind fun vs st=>(zh tb rc lc B2 st).bind fun ws st=>(DD tb rc lc kw st).bind fun k st=>rc f (.obj j::vs++ws) k st
 |.oU args,st=>(cT tb rc lc args st).bind fun vs st=>
  (rc tb.init (.obj st.length::vs) Option.none (st++[.inst (List.replicate tb.nV Option.none),.aj []])).bind fun v st'=>match v with
   |.none=>.ok (.obj st.length) st'
   |_=>.stuck
 |.bcall f args,st=>(cT tb rc lc args st).bind fun vs st=>bcall f vs st
 |.aD o m args,st=>(aC tb rc lc o st).bind fun x st=>if c6 st m x then (cT tb rc lc args st).bind fun vs st=>aD tb m x vs st else .stuck
 |.comp c,st=>(Ce tb rc lc c st).bind fun vs st=>.ok (.lst vs) st
noncomputable def u5(tb:Tab)(rc:RC)(lc:Lc):Option E→St→R (Option AV)
 |Option.none,st=>.ok Option.none st
 |some e,st=>(aC tb rc lc e st).bind fun v st=>.ok (some v) st
noncomputable def zh(tb:Tab)(rc:RC)(lc:Lc):Option E→St→R (List AV)
 |Option.none,st=>.ok [] st
 |some e,st=>(aC tb rc lc e st).bind fun v st=>match v with
  |.tup l=>.ok l st
  |_=>.stuck
noncomputable def DD(tb:Tab)(rc:RC)(lc:Lc):Option (Nat×E)→St→R (Option (Nat×AV))
 |Option.none,st=>.ok Option.none st
 |some (i,e),st=>(aC tb rc lc e st).bind fun v st=>.ok (some (i,v)) st
noncomputable def cT(tb:Tab)(rc:RC)(lc:Lc):Es→St→R (List AV)
 |.nil,st=>.ok [] st
 |.cons e r,st=>(aC tb rc lc e st).bind fun v st=>(cT tb rc lc r st).bind fun vs st=>.ok (v::vs) st
noncomputable def jj(tb:Tab)(rc:RC)(lc:Lc):Src→St→R (Option Nat×List AV)
 |.yV e,st=>(aC tb rc lc e st).bind fun v st=>match v with
  |.lst l=>.ok (Option.none,l) st
  |.obj i=>match st[i]? with
   |some (.list l)=>.ok (some i,l) st
   |_=>.stuck
  |_=>.stuck
 |.dM e,st=>(aC tb rc lc e st).bind fun v st=>match v with
  |.int n=>if -10000≤n∧n≤10000 then .ok (Option.none,dD 0 n true) st else .stuck
  |_=>.stuck
 |.Hf a b c,st=>(aC tb rc lc a st).bind fun x st=>(aC tb rc lc b st).bind fun y st=>(aC tb rc lc c st).bind fun z st=>match x,y,z with
  |.int x,.int y,.int z=>if z=-1∧x≤10000∧-10000≤y then .ok (Option.none,dD x y false) st else .stuck
  |_,_,_=>.stuck
 |.rev e,st=>(aC tb rc lc e st).bind fun v st=>match v with
  |.obj i=>match st[i]? with
   |some (.list l)=>.ok (some i,l.reverse) st
   |_=>.stuck
  |_=>.stuck
noncomputable def Ce(tb:Tab)(rc:RC)(lc:Lc):C→St→R (List AV)
 |.elt e,st=>(aC tb rc lc e st).bind fun v st=>.ok [v] st
 |.gen t s ifs c,st=>(jj tb rc lc s st).bind fun src st=>if 100000<src.2.length then .stuck else jw src.1 (fun x st=>match fH t x lc with
   |some aK=>(A7 tb rc aK ifs st).bind fun b st=>if b then Ce tb rc aK c st else .ok [] st
   |Option.none=>.stuck) src.2 st
noncomputable def A7(tb:Tab)(rc:RC)(lc:Lc):Es→St→R Bool
 |.nil,st=>.ok true st
 |.cons e r,st=>(aC tb rc lc e st).bind fun v st=>match truthy st v with
  |some true=>A7 tb rc lc r st
  |some false=>.ok false st
  |Option.none=>.stuck
end
set_option genCtorIdx false in
mutual
inductive S where
 |expr (e:E)
 |assign (i:Nat) (e:E)
 |fp (e:E)
 |cy (i:Nat) (e:E)
 |bA (is:List Nat) (e:E)
 |setSlot (o:E) (i:Nat) (e:E)
 |eZ (o i e:E)
 |cE (o:E) (l u:Option E) (e:E)
 |aug (i:Nat) (op:pA) (e:E)
 |ite (c:E) (a b:Ss)
 |gN (c:E) (b:Ss)
 |mi (t:T) (s:Src) (b:Ss)
 |ret (e:Option E)
 |cont
 |pass
 |raise (k:Nat)
 |n8 (b:Ss) (k:Nat) (h:Ss)
inductive Ss where
 |nil
 |cons (s:S) (r:Ss)
end
inductive Fl where
 |next
 |cont
 |ret (v:AV)
noncomputable def Fl.val:Fl→AV
 |.ret v=>v
 |_=>.none
inductive X where
 |ok (f:Fl) (lc:Lc) (st:St)
 |exc (k:Nat) (lc:Lc) (st:St)
 |stuck
@[elab_as_elim] theorem okE{α:Type}{a b:α}{s t:St}{C:α→St→Prop}(h:R.ok a s=R.ok b t)(k:C a s):C b t:=by cases (h);exact k
@[elab_as_elim] theorem okX{f g:Fl}{l m:Lc}{s t:St}{C:Fl→Lc→St→Prop}(h:X.ok f l s=X.ok g m t)(k:C f l s):C g m t:=by cases (h);exact k
@[elab_as_elim] theorem okS{α:Type}{a b:α}{C:α→Prop}(h:Option.some a=Option.some b)(k:C a):C b:=by cases (h);exact k
@[reducible] def R.gy{α:Type}(lc:Lc):R α→(α→St→X)→X
 |.ok a st,f=>f a st
 |.exc _ _,_=>.stuck
 |.stuck,_=>.stuck
@[reducible] def R.Fs{α:Type}(lc:Lc):R α→(α→St→X)→X
 |.ok a st,f=>f a st
 |.exc k st,_=>.exc k lc st
 |.stuck,_=>.stuck
@[reducible] def X.next:X→(Lc→St→X)→X
 |.ok .next lc st,f=>f lc st
 |x,_=>x
noncomputable def bF(c:Lc→St→R AV)(b:Lc→St→X):Nat→Lc→St→X
 |0,_,_=>.stuck
 |n+1,lc,st=>(c lc st).gy lc fun v st=>match truthy st v with
  |some true=>match b lc st with
   |.ok .next lc st=>bF c b n lc st
   |.ok .cont lc st=>bF c b n lc st
   |x=>x
  |some false=>.ok .next lc st
  |Option.none=>.stuck
open Classical in
noncomputable def loopF(o:Option Nat)(t:T)(b:Lc→St→X):List AV→Lc→St→X
 |[],lc,st=>.ok .next lc st
 |x::r,lc,st=>match fH t x lc with
  |some aK=>match b aK st with
   |.ok .next aK st'=>if same o st st' then loopF o t b r aK st' else .stuck
   |.ok .cont aK st'=>if same o st st' then loopF o t b r aK st' else .stuck
   |x=>x
  |Option.none=>.stuck
noncomputable def ak(st:St)(x:AV)(i:Nat)(v:AV):Option St:=match x with
 |.obj j=>match st[j]? with
  |some (.inst sl)=>if i<sl.length then some (st.set j (.inst (sl.set i (some v)))) else Option.none
  |_=>Option.none
 |_=>Option.none
noncomputable def Dr(st:St)(j:Nat)(k v:AV)(o:ao):Option St:=(o.lZ.bind fun l=>k.int?.bind fun i=>gd (decide (0≤i∧i<l.length∧i<1000000)) (some (st.set j (.list (l.set i.toNat v))))).or (gd (decide (ky o<10000)) ((CA o k v).map fun o'=>st.set j o'))
noncomputable def cP(st:St)(x k v:AV):Option St:=x.kU.bind fun j=>(st[j]?).bind (Dr st j k v)
noncomputable def xh(st:St)(j:Nat)(v:AV):Option (List UInt8):=(v.gK).or (v.kU.bind fun k=>gd (!(k==j)) ((st[k]?).bind fun o=>o.qr))
noncomputable def bU(st:St)(x:AV)(l u:Option AV)(v:AV):Option St:=x.kU.bind fun j=>(st[j]?).bind fun o=>o.qr.bind fun b=>(fB l).bind fun l=>(fB u).bind fun u=>(xh st j v).bind fun c=>
 gd (decide (l.elim 0 (clipAt b.length)≤u.elim b.length (clipAt b.length)∧c.length=u.elim b.length (clipAt b.length)-l.elim 0 (clipAt b.length)∧b.length≤1000000)) (some (st.set j (.aJ (b.take (l.elim 0 (clipAt b.length))++c++b.drop (u.elim b.length (clipAt b.length))))))
noncomputable def Lk(op:pA)(a b:Int):Option AV:=match op with
 |.add=>some (.int (a+b))
 |.sub=>some (.int (a-b))
 |.mul=>gd (oH a||oH b) (some (.int (a*b)))
 |.band=>some (.int (Builtin.bitAnd a b))
 |_=>Option.none
noncomputable def fi(op:pA)(x y:AV):Option AV:=(both AV.int? x y).bind fun p=>Lk op p.1 p.2
noncomputable def X.ei(lc:Lc):Option St→X
 |some st=>.ok .next lc st
 |Option.none=>.stuck
mutual
noncomputable def eK(tb:Tab)(rc:RC):S→Lc→St→X
 |.expr e,lc,st=>(aC tb rc lc e st).gy lc fun z st=>.ok .next lc st
 |.assign i e,lc,st=>(aC tb rc lc e st).gy lc fun v st=>.ok .next (lc.set i (some v)) st
 |.fp e,lc,st=>(aC tb rc lc e st).Fs lc fun z st=>.ok .next lc st
 |.cy i e,lc,st=>(aC tb rc lc e st).Fs lc fun v st=>.ok .next (lc.set i (some v)) st
 |.bA is e,lc,st=>(aC tb rc lc e st).gy lc fun v st=>match fH (.tup is) v lc with
  |some lc=>.ok .next lc st
  |Option.none=>.stuck
 |.setSlot o i e,lc,st=>(aC tb rc lc e st).gy lc fun v st=>(aC tb rc lc o st).gy lc fun x st=>X.ei lc (ak st x i v)
 |.eZ o i e,lc,st=>(aC tb rc lc e st).gy lc fun v st=>(aC tb rc lc o st).gy lc fun x st=>(aC tb rc lc i st).gy lc fun k st=>X.ei lc (cP st x k v)
 |.cE o l u e,lc,st=>(aC tb rc lc e st).gy lc fun v st=>(aC tb rc lc o st).gy lc fun x st=>(u5 tb rc lc l st).gy lc fun a st=>(u5 tb rc lc u st).gy lc fun b st=>X.ei lc (bU st x a b v)
 |.aug i op e,lc,st=>match (lc[i]?).join with
  |some x=>(aC tb rc lc e st).gy lc fun v st=>match fi op x v with
   |some w=>.ok .next (lc.set i (some w)) st
   |Option.none=>.stuck
  |Option.none=>.stuck
 |.ite c a b,lc,st=>(aC tb rc lc c st).gy lc fun v st=>match truthy st v with
  |some true=>aT tb rc a lc st
  |some false=>aT tb rc b lc st
  |Option.none=>.stuck
 |.gN c b,lc,st=>bF (fun lc st=>aC tb rc lc c st) (fun lc st=>aT tb rc b lc st) 1000 lc st
 |.mi t s b,lc,st=>(jj tb rc lc s st).gy lc fun src st=>loopF src.1 t (fun lc st=>aT tb rc b lc st) src.2 lc st
 |.ret e,lc,st=>match e with
  |Option.none=>.ok (.ret .none) lc st
  |some e=>(aC tb rc lc e st).gy lc fun v st=>.ok (.ret v) lc st
 |.cont,lc,st=>.ok .cont lc st
 |.pass,lc,st=>.ok .next lc st
 |.raise k,lc,st=>.exc k lc st
 |.n8 b k h,lc,st=>match aT tb rc b lc st with
  |.exc j lc st=>if j=k then aT tb (jc tb rc) h lc st else .stuck
  |x=>x
noncomputable def aT(tb:Tab)(rc:RC):Ss→Lc→St→X
 |.nil,lc,st=>.ok .next lc st
 |.cons s r,lc,st=>(eK tb rc s lc st).next fun lc st=>aT tb rc r lc st
end
noncomputable def nz(fn:Fn)(args:List AV)(kw:Option (Nat×AV))(i:Nat):Option AV:=
 (args[i]?).or ((kw.bind fun p=>gd (p.1==i) (some p.2)).or (gd (decide (fn.np-fn.dflt.length≤i)) (fn.dflt[i-(fn.np-fn.dflt.length)]?)))
noncomputable def Q3(fn:Fn)(args:List AV)(kw:Option (Nat×AV)):Bool:=(kw.all fun p=>decide (args.length≤p.1)&&decide (p.1<fn.np))&&(decide (args.length≤fn.np)||(fn.vararg&&kw.isNone&&decide (args.length≤1000)))
noncomputable def uh(fn:Fn)(args:List AV):Lc:=(if fn.vararg then [some (.tup (args.drop fn.np))] else [])++List.replicate fn.nv Option.none
noncomputable def fS(fn:Fn)(args:List AV)(kw:Option (Nat×AV)):Option Lc:=
 gd (Q3 fn args kw&&((List.range fn.np).map (nz fn args kw)).all (·.isSome)) (some ((List.range fn.np).map (nz fn args kw)++uh fn args))
noncomputable def run(tb:Tab)(fns:Addr→Option (Fn×Ss)):Nat→RC
 |0=>fun j j j j=>.stuck
 |n+1=>fun f args kw st=>match fns f with
  |some (fn,body)=>match fS fn args kw with
   |some lc=>match aT tb (if tb.oz f then jc tb (run tb fns n) else run tb fns n) body lc st with
    |.ok (.ret v) _ st=>.ok v st
    |.ok _ _ st=>.ok .none st
    |.exc k _ st=>.exc k st
    |.stuck=>.stuck
   |Option.none=>.stuck
  |Option.none=>.stuck
example (tb rc lc v st):aC tb rc lc (.lit v) st=.ok v st:=rfl
end
end Sv
namespace Sv
open PySem PySem.W PyProof.Rows PySem.Calls
def H8(h:Heap)(a:Addr)(b:List UInt8):Prop:=∃d sl,h.get? a=some ⟨.type "bytearray",d,.bytearray b.toArray 0,sl⟩
noncomputable def jQ:Obj→Prop
 |⟨_,_,.seq ..,_⟩=>True
 |⟨_,_,.bytearray ..,_⟩=>True
 |_=>False
mutual
noncomputable def av(h:Heap)(ρ N:List Addr):AV→Value→Prop
 |.none,v=>v=.none
 |.bool b,v=>v=.bool b
 |.int i,v=>∃t,v=.int i t
 |.str s,v=>∃t,v=.str s t
 |.bytes b,v=>∃t,v=.bytes b.toArray t
 |.ba u,v=>v=u
 |.obj i,v=>∃a,ρ[i]?=some a∧v=.ref a
 |.tup l,v=>∃a items,v=.ref a∧a∉ρ∧a∉N∧h.IsTuple a (List.toArray items)∧ae h ρ N l items
 |.lst l,v=>∃a items,v=.ref a∧a∉ρ∧a∉N∧h.IsList a (List.toArray items)∧ae h ρ N l items
 |.aJ b,v=>∃a,v=.ref a∧a∉ρ∧a∉N∧H8 h a b
noncomputable def ae(h:Heap)(ρ N:List Addr):List AV→List Value→Prop
 |[],vs=>vs=[]
 |x::xs,vs=>∃v r,vs=v::r∧av h ρ N x v∧ae h ρ N xs r
end
theorem ae.length:∀{l:List AV}{vs:List Value},ae h ρ N l vs→vs.length=l.length
 |[],vs,e=>by unfold ae at e;subst e;rfl
 |x::xs,_,e=>by
  unfold ae at e;obtain⟨v,r,rfl,_,e⟩:=e;simp[ae.length e]
theorem ae.get:∀{l:List AV}{vs:List Value},ae h ρ N l vs→∀(i:Nat)(x:AV),l[i]?=some x→∃v,vs[i]?=some v∧av h ρ N x v
 |[],_,_,i,x,hx=>by simp at hx
 |y::ys,_,e,i,x,hx=>by
  unfold ae at e;obtain⟨v,r,rfl,e1,e2⟩:=e;cases i with
  |zero=>simp at hx;subst hx;exact⟨v,rfl,e1⟩
  |succ n=>simp at hx;simpa using ae.get e2 n x hx
theorem ae.of_get:∀{l:List AV}{vs:List Value},vs.length=l.length→(∀(i:Nat)(x:AV)(v:Value),l[i]?=some x→vs[i]?=some v→av h ρ N x v)→ae h ρ N l vs
 |[],vs,e,_=>by unfold ae;exact List.length_eq_zero_iff.mp e
 |y::ys,vs,e,f=>by
  cases vs with
  |nil=>simp at e
  |cons v r=>exact⟨v,r,rfl,f 0 y v rfl rfl,ae.of_get (by simpa using e) fun i x w h1 h2=>f (i+1) x w (by simpa using h1) (by simpa using h2)⟩
theorem ae.append:∀{l l':List AV}{vs Jn:List Value},ae h ρ N l vs→ae h ρ N l' Jn→ae h ρ N (l++l') (vs++Jn)
 |[],_,vs,_,e,e'=>by
  unfold ae at e;subst e;exact e'
 |y::ys,l',_,Jn,e,e'=>by
  unfold ae at e;obtain⟨v,r,rfl,e1,e2⟩:=e;exact⟨v,r++Jn,rfl,e1,ae.append e2 e'⟩
theorem ae.single(e:av h ρ N x v):ae h ρ N [x] [v]:=⟨v,[],rfl,e,by simp[ae]⟩
theorem ae.nil:ae h ρ N [] []:=by simp[ae]
theorem ae.cons(e:av h ρ N x v)(e':ae h ρ N l vs):ae h ρ N (x::l) (v::vs):=⟨v,vs,rfl,e,e'⟩
structure Ext(N:List Addr)(h:Heap)(ρ:List Addr)(h':Heap)(aF:List Addr):Prop where
 pre:ρ <+: aF
 fresh:∀a∈aF,a∈ρ∨h.get? a=none
 keep:∀b o,h.get? b=some o→b∉ρ→b∉N→jQ o→h'.get? b=some o
theorem eU{α:Type}{l l':List α}(p:l <+: l'){i:Nat}{x:α}(e:l[i]?=some x):l'[i]?=some x:=by
 obtain⟨r,rfl⟩:=p;rw[List.getElem?_append_left (by rcases List.getElem?_eq_some_iff.mp e with ⟨q,_⟩;exact q)];exact e
theorem N2{N:List Addr}{h h':Heap}{ρ aF:List Addr}(X:Ext N h ρ h' aF){a:Addr}{P:Obj→Prop}(i:∀o,P o→jQ o)(n:a∉ρ)(n2:a∉N)(H:∃o,h.get? a=some o∧P o):a∉aF∧∃o,h'.get? a=some o∧P o:=
 H.elim fun o H=>⟨fun m=>(X.fresh a m).elim n fun z=>(nomatch H.1.symm.trans z),o,X.keep a o H.1 n n2 (i o H.2),H.2⟩
theorem Ag(H:c∧∃n,o.data=.seq vs n):jQ o:=by
 obtain⟨c,d,dt,sl⟩:=o;exact H.2.elim fun n hd=>(show dt=_ from hd)▸trivial
theorem GJ{N' N:List Addr}{h:Heap}{a:Addr}{o:Obj}(hN:∀a∈N',a∈N∨h.get? a=none)(n2:a∉N)(ho:h.get? a=some o):a∉N':=fun m=>(hN a m).elim n2 fun z=>nomatch ho.symm.trans z
mutual
theorem av.mono{N:List Addr}{h h':Heap}{ρ aF:List Addr}(X:Ext N h ρ h' aF){x:AV}{v:Value}(r:av h ρ N x v):av h' aF N x v:=by
 cases x with
 |obj _=>exact r.elim fun a e=>⟨a,eU X.pre e.1,e.2⟩
 |tup l=>
  obtain⟨a,items,q,n,n2,H,e⟩:=r;have u:=N2 (P:=fun o=>o.cls=_∧∃n,o.data=.seq _ n) X (fun o=>Ag) n n2 H;exact⟨a,items,q,u.1,n2,u.2,ae.mono X e⟩
 |lst l=>
  obtain⟨a,items,q,n,n2,H,e⟩:=r;have u:=N2 (P:=fun o=>o.cls=_∧∃n,o.data=.seq _ n) X (fun o=>Ag) n n2 H;exact⟨a,items,q,u.1,n2,u.2,ae.mono X e⟩
 |aJ b=>
  obtain⟨a,q,n,n2,d,sl,ho⟩:=r;have u:=N2 X (P:=fun o=>o=⟨_,_,_,_⟩) (fun o e=>by rw[e];trivial) n n2 ⟨_,ho,rfl⟩;exact⟨a,q,u.1,n2,d,sl,X.keep a _ ho n n2 trivial⟩
 |_=>exact r
theorem ae.mono(X:Ext N h ρ h' aF)(e:ae h ρ N x v):ae h' aF N x v:=by
 cases x with
 |nil=>exact e
 |cons _ _=>
  obtain⟨v,r,q,e1,e2⟩:=e;exact⟨v,r,q,av.mono X e1,ae.mono X e2⟩
end
mutual
theorem av.bar{N N':List Addr}{h:Heap}{ρ:List Addr}(hN:∀a∈N',a∈N∨h.get? a=none){x:AV}{v:Value}(r:av h ρ N x v):av h ρ N' x v:=by
 cases x with
 |tup l=>
  obtain⟨a,items,q,n,n2,H,e⟩:=r;exact⟨a,items,q,n,H.elim fun o ho=>GJ hN n2 ho.1,H,ae.bar hN e⟩
 |lst l=>
  obtain⟨a,items,q,n,n2,H,e⟩:=r;exact⟨a,items,q,n,H.elim fun o ho=>GJ hN n2 ho.1,H,ae.bar hN e⟩
 |aJ b=>
  obtain⟨a,q,n,n2,d,sl,ho⟩:=r;exact⟨a,q,n,GJ hN n2 ho,d,sl,ho⟩
 |_=>exact r
theorem ae.bar(hN:∀a∈N',a∈N∨h.get? a=none)(e:ae h ρ N x v):ae h ρ N' x v:=by
 cases x with
 |nil=>exact e
 |cons _ _=>
  obtain⟨v,r,q,e1,e2⟩:=e;exact⟨v,r,q,av.bar hN e1,ae.bar hN e2⟩
end
end Sv
namespace Sv
open PySem PySem.W PyProof.Rows PySem.Calls PySem.Builtin
section
section
variable {prog:Program}{w:World}{A:Around}{E:Value→Shared→Prop}{s:Shared}
theorem kS(a:Str)(t:Tok)(b:Array UInt8)(u:Tok):Gives (Builtin.«str.__eq__» ⟨[.str a t,.bytes b u],[]⟩) (.val Value.notImplemented):=by
 refine .of_wp fun M A E s Q h=>?_
 show wpAny M A (do rule _;ret .notImplemented) _ E s;exact wpAny_bind (wpAny_rule (wpAny_pure ⟨_,rfl,h⟩))
theorem kh(a:Str)(t:Tok)(b:Array UInt8)(u:Tok):Gives (Builtin.«bytes.__eq__» ⟨[.bytes b u,.str a t],[]⟩) (.val Value.notImplemented):=by
 refine .of_wp fun M A E s Q h=>?_
 haveI ub:=PySem.F.sub_str_bytes;show wpAny M A (isInstance (.str a t) (.type "bytes")>>=fun r=>_) _ E s;refine wpAny_bind ?_;refine wpAny_isInstance (T:="str") (b:=false) rfl ub ?_;show wpAny M A (do rule _;ret .notImplemented) _ E s;exact wpAny_bind (wpAny_rule (wpAny_pure ⟨_,rfl,h⟩))
theorem fc:Slot "bytes" (cmpInfo .Eq).2.2 "bytes.__eq__":=PySem.W.FB.slot_bytes_eq
theorem nh(h:Q (.bool false) s):wpAny (model prog w) A (richCompare .Eq (.str a t) (.bytes b u)) Q E s:=
 EqNone.wpAny_richCompare_eq_decline (k:=false) (fun s'=>rfl) (fun s'=>rfl) (by decide) PySem.F.sub_bytes_str PySem.F.slot_str_eq fc rfl
  (call_gives PySem.F.slot_str_eq (show s.TypeIs (.str a t) "str" from rfl) PySem.F.entry_str_eq (PySem.F.args_str_eq_2 _ _) (kS a t b u)
   ⟨rfl,call_gives fc (show s.TypeIs (.bytes b u) "bytes" from rfl) PySem.W.FB.entry_bytes_eq (PySem.W.FB.args_bytes_eq_2 _ _) (kh a t b u) ⟨rfl,h⟩⟩)
theorem nA(h:Q (.bool false) s):wpAny (model prog w) A (richCompare .Eq (.bytes b u) (.str a t)) Q E s:=
 EqNone.wpAny_richCompare_eq_decline (k:=false) (fun s'=>rfl) (fun s'=>rfl) (by decide) PySem.F.sub_str_bytes PySem.W.FB.slot_bytes_eq PySem.F.slot_str_eq_refl rfl
  (call_gives PySem.W.FB.slot_bytes_eq (show s.TypeIs (.bytes b u) "bytes" from rfl) PySem.W.FB.entry_bytes_eq (PySem.W.FB.args_bytes_eq_2 _ _) (kh a t b u)
   ⟨rfl,call_gives PySem.F.slot_str_eq_refl (show s.TypeIs (.str a t) "str" from rfl) PySem.F.entry_str_eq (PySem.F.args_str_eq_2 _ _) (kS a t b u) ⟨rfl,h⟩⟩)
theorem oR(h:Q false s):wpAny (model prog w) A (eqBool (.str a t) (.bytes b u)) Q E s:=by
 unfold eqBool;refine wpAny_holding ?_;rw[if_neg (by simp)];exact wpAny_bind (nh (wpAny_truthy_bool h))
theorem oA(h:Q false s):wpAny (model prog w) A (eqBool (.bytes b u) (.str a t)) Q E s:=by
 unfold eqBool;refine wpAny_holding ?_;rw[if_neg (by simp)];exact wpAny_bind (nA (wpAny_truthy_bool h))
end
noncomputable def MK:Str⊕List UInt8→Value→Bool
 |.inl x,v=>Value.isStrOf x v
 |.inr b,v=>isBytes b v
theorem gp(h:MK k v=true):(∃x t,k=.inl x∧v=.str x t)∨∃b t,k=.inr b∧v=.bytes b.toArray t:=by
 cases k with
 |inl x=>obtain⟨t,rfl⟩:=Value.isStrOf_shape h;exact .inl ⟨x,t,rfl,rfl⟩
 |inr b=>obtain⟨t,rfl⟩:=isBytes_shape h;exact .inr ⟨b,t,rfl,rfl⟩
noncomputable def qg(prog:Program)(w:World):KeyKind prog w (Str⊕List UInt8) where
 is:=MK
 hash k:=match k with
  |.inl x=>(strKind prog w).hash x
  |.inr b=>(bytesKind prog w).hash b
 inj v a b ha hb:=by
  rcases gp ha with ⟨x,t,rfl,rfl⟩|⟨x,t,rfl,rfl⟩<;>rcases gp hb with ⟨y,u,rfl,e⟩|⟨y,u,rfl,e⟩
  ·cases e;rfl
  ·cases e
  ·cases e
  ·injection e with e1;rw[show x=y from by have:=congrArg Array.toList e1;simpa using this]
 byValue k v h:=by rcases gp h with ⟨x,t,rfl,rfl⟩|⟨x,t,rfl,rfl⟩<;>rfl
 pyHash:=fun {A E s k v Q} hv h=>by
  cases k with
  |inl x=>exact(strKind prog w).pyHash (k:=x) hv h
  |inr b=>exact(bytesKind prog w).pyHash (k:=b) hv h
 eqBool:=fun {A E s a b u v Q} hu hv h=>by
  rcases gp hu with ⟨x,t,rfl,rfl⟩|⟨x,t,rfl,rfl⟩<;>rcases gp hv with ⟨y,u,rfl,rfl⟩|⟨y,u,rfl,rfl⟩
  ·exact wpAny_eqBool_str (by simpa using h)
  ·exact oR (by simpa using h)
  ·exact oA (by simpa using h)
  ·exact eqBool_bytes (by simpa using h)
 «strs» k x t v h:=by
  cases k with
  |inl y=>exact(strKind prog w).strs y x t v h
  |inr b=>cases h
theorem xC(prog:Program)(w:World)(x:Str)(t:Tok):(qg prog w).is (.inl x) (.str x t)=true:=strKind_is prog w x t
theorem tE(prog:Program)(w:World)(b:List UInt8)(t:Tok):(qg prog w).is (.inr b) (.bytes b.toArray t)=true:=by
 haveI:MK (.inr b) (.bytes b.toArray t)=isBytes b (.bytes b.toArray t):=rfl
 exact this.trans (by simp[isBytes])
end
end Sv
namespace Sv
open PySem PySem.W PyProof.Rows PySem.Calls
section
structure ml where
 a:Addr
 o:Obj
 vs:Array Value
 hd:o.data=.fields vs
 h2:vs[2]?=some .none
structure Ctx where
 prog:Program
 w:World
 h₀:Heap
 B:Addr
 tb:Tab
 mg:Str→Option Value
 mb:Str→Option Value
 K:Frag
 pn:Addr→Nat→Option Str
 DB:∃o,h₀.get? sysModules=some o
 exc:Option ml
variable {prog:Program}{w:World}
def eN{K:Type}(h:Heap)(ρ N:List Addr)(l:List (K×AV))(kvs:List (K×Value)):Prop:=
 l.map (·.1)=kvs.map (·.1)∧ae h ρ N (l.map (·.2)) (kvs.map (·.2))
def eX(h:Heap)(ρ N:List Addr)(sl:List (Option AV))(ar:Array (Option Value)):Prop:=
 ar.size≤sl.length∧∀(i:Nat)(v:AV),sl[i]?=some (some v)→∃x,(ar[i]?).join=some x∧av h ρ N v x
noncomputable abbrev Pn:={ d:Option Addr // d=none }
noncomputable abbrev Pm:={ d:Array (Option Value) // d=#[] }
def yR{K:Type}[DecidableEq K](knd:KeyKind prog w K)(h:Heap)(ρ N:List Addr)(l:List (K×AV))(o:Obj):Prop:=
 ∃kvs es n,o=⟨.type "dict",none,.dict es n,#[]⟩∧KeysOf knd es∧Pairs knd es.toList kvs∧(kvs.map (·.1)).Nodup∧eN h ρ N l kvs
noncomputable def dJ(G:Ctx)(h:Heap)(ρ N:List Addr)(i:Nat):ao→Obj→Prop
 |.list l,o=>∃(items:List Value)(n:Nat)(d:Pn)(sl:Pm),o=⟨.type "list",d.1,.seq (List.toArray items) n,sl.1⟩∧ae h ρ N l items
 |.aj l,o=>yR (intKind G.prog G.w) h ρ N l o
 |.bo l,o=>∃(xs:List (List Int×Addr×Value)) (es:Array DictEntry) (n:Nat),o=⟨.type "dict",none,.dict es n,#[]⟩∧es.toList=xs.map (entryOfKey (tupleKind (intKind G.prog G.w))) ∧
   (∀x∈xs,IsTupleKey (intKind G.prog G.w) h x.1 x.2.1∧x.2.1∉ρ∧x.2.1∉N)∧(xs.map (·.1)).Nodup∧eN h ρ N l (xs.map fun x=>(x.1,x.2.2))
 |.bR l,o=>yR (qg G.prog G.w) h ρ N l o
 |.set _,_=>False
 |.aJ b,o=>∃d sl,o=⟨.type "bytearray",d,.bytearray b.toArray 0,sl⟩
 |.inst sl,o=>∃ar dx,o=⟨.ref G.B,some dx,.plain,ar⟩∧ρ[i+1]?=some dx∧eX h ρ N sl ar∧sl.length≤100
structure Inv(G:Ctx)(ρ N:List Addr)(st:St)(h:Heap):Prop where
 base:∀b o,G.h₀.get? b=some o→h.get? b=some o
 len:ρ.length=st.length
 nodup:ρ.Nodup
 new:∀a∈ρ,G.h₀.get? a=none
 apart:∀a∈ρ,a∉N
 lO:∀a∈N,∃o,h.get? a=some o
 exc:∀x,G.exc=some x→x.a∉ρ∧h.get? x.a=some x.o
 objs:∀i a x,ρ[i]?=some a→st[i]?=some x→∃o,h.get? a=some o∧dJ G h ρ N i x o
structure bG(s:Shared)(ρ:List Addr)(s':Shared)(aF:List Addr):Prop where
 pre:ρ <+: aF
 fresh:∀a∈aF,a∈ρ∨s.heap.get? a=none
 keep:∀b o,s.heap.get? b=some o→b∉ρ→s'.heap.get? b=some o
 os:s'.os=s.os
 gens:s'.gens=s.gens
theorem bG.refl:bG s ρ s ρ:=⟨List.prefix_refl _,fun j x=>.inl x,fun j j e j=>e,rfl,rfl⟩
theorem bG.same(h:s'.heap=s.heap)(ho:s'.os=s.os)(hg:s'.gens=s.gens):bG s ρ s' ρ:=
 ⟨List.prefix_refl _,fun j x=>.inl x,fun j j e j=>h▸e,ho,hg⟩
theorem bG.trans{s aa ag:Shared}{ρ ρ₁ ρ₂:List Addr}(X:bG s ρ aa ρ₁)(Y:bG aa ρ₁ ag ρ₂):bG s ρ ag ρ₂ where
 pre:=X.pre.trans Y.pre
 fresh:=fun a m=>by
  rcases Y.fresh a m with h|h
  ·exact X.fresh a h
  ·by_cases hm:a∈ρ
   ·exact .inl hm
   ·right
    cases e:s.heap.get? a with
    |none=>rfl
    |some o=>rw[X.keep a o e hm] at h;cases h
 keep:=fun b o e n=>by
  haveI h1:=X.keep b o e n;refine Y.keep b o h1 fun m=>?_
  rcases X.fresh b m with h|h
  ·exact n h
  ·rw[e] at h;cases h
 os:=Y.os.trans X.os
 gens:=Y.gens.trans X.gens
theorem bG.ext(X:bG s ρ s' aF):Ext N s.heap ρ s'.heap aF:=⟨X.pre,X.fresh,fun b o e n j j=>X.keep b o e n⟩
theorem bG.toks(X:bG s ρ s' aF):bG s ρ { s' with toks:=t } aF:=⟨X.pre,X.fresh,X.keep,X.os,X.gens⟩
theorem bG.push(o:Obj)(t:Nat):bG s ρ { s with heap:=s.heap.push o,toks:=t } ρ:=
 ⟨List.prefix_refl _,fun j x=>.inl x,fun j j e j=>Heap.get?_push_of_some _ e,rfl,rfl⟩
theorem eN.mono(X:Ext N h ρ h' aF)(e:eN h ρ N l kvs):eN h' aF N l kvs:=⟨e.1,e.2.mono X⟩
theorem eN.bar(hN:∀a∈N',a∈N∨h.get? a=none)(e:eN h ρ N l kvs):eN h ρ N' l kvs:=⟨e.1,e.2.bar hN⟩
theorem pg(x:IsTupleKey (intKind prog w) h ks a)(k:∀o,h.get? a=some o→jQ o→h'.get? a=some o):IsTupleKey (intKind prog w) h' ks a:=by
 obtain⟨o,items,n,ho,hc,hd,r⟩:=x;haveI jN:jQ o:=by obtain⟨c,d,dt,sl⟩:=o;simp only at hd;subst hd;trivial
 exact⟨o,items,n,k o ho jN,hc,hd,r⟩
theorem ij(x:IsTupleKey (intKind prog w) h ks a):h.get? a≠none:=by
 obtain⟨o,_,_,ho,_⟩:=x;rw[ho];simp
theorem eX.mono(X:Ext N h ρ h' aF)(e:eX h ρ N sl ar):eX h' aF N sl ar:=
 ⟨e.1,fun i v hv=>let ⟨x,h1,h2⟩:=e.2 i v hv;⟨x,h1,h2.mono X⟩⟩
theorem dJ.mono(X:Ext N h ρ h' aF)(r:dJ G h ρ N i x o):dJ G h' aF N i x o:=by
 cases x with
 |list _=>obtain⟨items,n,d,sl,q,e⟩:=r;exact⟨items,n,d,sl,q,e.mono X⟩
 |aj _=>obtain⟨kvs,es,n,q,e1,e2,e3,e⟩:=r;exact⟨kvs,es,n,q,e1,e2,e3,e.mono X⟩
 |bo _=>obtain⟨xs,es,n,q,e1,e2,e3,e⟩:=r;exact⟨xs,es,n,q,e1,fun x m=>⟨pg (e2 x m).1 fun o ho jN=>X.keep _ _ ho (e2 x m).2.1 (e2 x m).2.2 jN,fun m'=>(X.fresh _ m').elim (e2 x m).2.1 (ij (e2 x m).1),(e2 x m).2.2⟩,e3,e.mono X⟩
 |bR _=>obtain⟨kvs,es,n,q,e1,e2,e3,e⟩:=r;exact⟨kvs,es,n,q,e1,e2,e3,e.mono X⟩
 |set _=>exact r.elim
 |aJ _=>exact r
 |inst _=>obtain⟨ar,dx,q,e1,e,e2⟩:=r;exact⟨ar,dx,q,eU X.pre e1,e.mono X,e2⟩
theorem dJ.bar(hN:∀a∈N',a∈N∨h.get? a=none)(r:dJ G h ρ N i x o):dJ G h ρ N' i x o:=by
 cases x with
 |list _=>obtain⟨items,n,d,sl,q,e⟩:=r;exact⟨items,n,d,sl,q,e.bar hN⟩
 |aj _=>obtain⟨kvs,es,n,q,e1,e2,e3,e⟩:=r;exact⟨kvs,es,n,q,e1,e2,e3,e.bar hN⟩
 |bo _=>obtain⟨xs,es,n,q,e1,e2,e3,e⟩:=r;exact⟨xs,es,n,q,e1,fun x m=>⟨(e2 x m).1,(e2 x m).2.1,fun m'=>(hN _ m').elim (e2 x m).2.2 (ij (e2 x m).1)⟩,e3,e.bar hN⟩
 |bR _=>obtain⟨kvs,es,n,q,e1,e2,e3,e⟩:=r;exact⟨kvs,es,n,q,e1,e2,e3,e.bar hN⟩
 |set _=>exact r.elim
 |aJ _=>exact r
 |inst _=>obtain⟨ar,dx,q,e1,e2,e4⟩:=r;exact⟨ar,dx,q,e1,⟨e2.1,fun i v hv=>(e2.2 i v hv).elim fun x h=>⟨x,h.1,h.2.bar hN⟩⟩,e4⟩
theorem Inv.lt{G:Ctx}{ρ N:List Addr}{st:St}{h:Heap}(I:Inv G ρ N st h){i:Nat}{a:Addr}(e:ρ[i]?=some a):i<st.length:=by
 rw[←I.len];exact(List.getElem?_eq_some_iff.mp e).1
theorem Inv.grow{G:Ctx}{ρ N:List Addr}{st:St}{h h':Heap}(I:Inv G ρ N st h)(k:∀b o,h.get? b=some o→h'.get? b=some o):Inv G ρ N st h' where
 base:=fun b o e=>k b o (I.base b o e)
 len:=I.len
 nodup:=I.nodup
 new:=I.new
 apart:=I.apart
 lO:=fun a m=>let ⟨o,ho⟩:=I.lO a m;⟨o,k a o ho⟩
 exc:=fun x e=>⟨(I.exc x e).1,k _ _ (I.exc x e).2⟩
 objs:=fun i a x e1 e2=>by
  obtain⟨o,ho,r⟩:=I.objs i a x e1 e2;exact⟨o,k a o ho,r.mono ⟨List.prefix_refl _,fun j m=>.inl m,fun b o e j j j=>k b o e⟩⟩
theorem Inv.push{G:Ctx}{ρ N:List Addr}{st:St}{h:Heap}(I:Inv G ρ N st h)(o:Obj):Inv G ρ N st (h.push o):=I.grow fun j j e=>Heap.get?_push_of_some _ e
theorem Inv.bar{G:Ctx}{ρ N N':List Addr}{st:St}{h:Heap}(I:Inv G ρ N st h)(hN:∀a∈N',a∈N):Inv G ρ N' st h where
 base:=I.base
 len:=I.len
 nodup:=I.nodup
 new:=I.new
 apart:=fun a m n=>I.apart a m (hN a n)
 lO:=fun a m=>I.lO a (hN a m)
 exc:=I.exc
 objs:=fun i a x e1 e2=>let ⟨o,ho,r⟩:=I.objs i a x e1 e2;⟨o,ho,r.bar fun a m=>.inl (hN a m)⟩
theorem Inv.lay{G:Ctx}{ρ N:List Addr}{st:St}{h h':Heap}{a:Addr}{o:Obj}(I:Inv G ρ N st h)(hn:h.get? a=none)(k:∀b o,h.get? b=some o→h'.get? b=some o)(ho:h'.get? a=some o):Inv G ρ (a::N) st h' where
 base:=fun b o e=>k b o (I.base b o e)
 len:=I.len
 nodup:=I.nodup
 new:=I.new
 apart:=fun b m n=>by
  rcases List.mem_cons.mp n with rfl|n
  ·obtain⟨i,e⟩:=List.getElem?_of_mem m
   have:i<st.length:=I.lt e
   obtain⟨o,ho,_⟩:=I.objs i b _ e (List.getElem?_eq_getElem this);rw[ho] at hn;cases hn
  ·exact I.apart b m n
 lO:=fun b m=>by
  rcases List.mem_cons.mp m with rfl|m
  ·exact⟨o,ho⟩
  ·obtain⟨o',e⟩:=I.lO b m;exact⟨o',k _ _ e⟩
 exc:=fun x e=>⟨(I.exc x e).1,k _ _ (I.exc x e).2⟩
 objs:=fun i b x e1 e2=>by
  obtain⟨o',mq,r⟩:=I.objs i b x e1 e2;haveI r2:dJ G h ρ (a::N) i x o':=r.bar fun c m=>by
   rcases List.mem_cons.mp m with rfl|m
   ·exact .inr hn
   ·exact .inl m
  exact⟨o',k _ _ mq,r2.mono ⟨List.prefix_refl _,fun j m=>.inl m,fun b o e j j j=>k b o e⟩⟩
theorem pN{l:List Addr}(h:l.Nodup){i j:Nat}{a:Addr}(e1:l[i]?=some a)(e2:l[j]?=some a):i=j:=by
 obtain⟨q1,_⟩:=List.getElem?_eq_some_iff.mp e1;exact(List.getElem?_inj q1 h).mp (e1.trans e2.symm)
theorem Inv.set{G:Ctx}{ρ N:List Addr}{st:St}{h h':Heap}{j:Nat}{a:Addr}{x:ao}{o:Obj}(I:Inv G ρ N st h)(ha:ρ[j]?=some a)
  (k:∀b o,h.get? b=some o→b≠a→h'.get? b=some o) (ho:h'.get? a=some o)
  (r:Ext N h ρ h' ρ→dJ G h' ρ N j x o):Inv G ρ N (st.set j x) h':=by
 have X:Ext N h ρ h' ρ:=⟨List.prefix_refl _,fun z m=>.inl m,fun b o e n z z=>k b o e fun q=>n (q▸List.mem_of_getElem? ha)⟩;refine⟨fun b o e=>k b o (I.base b o e) fun q=>?_,by rw[I.len,List.length_set],I.nodup,I.new,I.apart,fun b m=>?_,fun y e=>⟨(I.exc y e).1,k _ _ (I.exc y e).2 fun q=>(I.exc y e).1 (q▸List.mem_of_getElem? ha)⟩,fun i b y e1 e2=>?_⟩
 ·rw[q,I.new a (List.mem_of_getElem? ha)] at e;cases e
 ·obtain⟨o',e⟩:=I.lO b m
  exact⟨o',k b o' e fun q=>I.apart a (List.mem_of_getElem? ha) (q▸m)⟩
 ·by_cases JE:j=i
  ·subst JE
   rw[ha] at e1;cases e1;rw[List.getElem?_set_self (I.lt ha)] at e2;cases e2;exact⟨o,ho,r X⟩
  ·rw[List.getElem?_set_ne JE] at e2
   obtain⟨o',mq,r'⟩:=I.objs i b y e1 e2;refine⟨o',k b o' mq fun q=>?_,r'.mono X⟩;subst q;exact JE (pN I.nodup ha e1)
theorem bG.set{s:Shared}{ρ:List Addr}{h':Heap}{t:Nat}{j:Nat}{a:Addr}(ha:ρ[j]?=some a)(k:∀b o,s.heap.get? b=some o→b≠a→h'.get? b=some o) :
  bG s ρ { s with heap:=h',toks:=t } ρ:=⟨List.prefix_refl _,fun z m=>.inl m,fun b o e n=>k b o e fun q=>n (q▸List.mem_of_getElem? ha),rfl,rfl⟩
theorem Inv.zm{G:Ctx}{ρ N ρ₂:List Addr}{st st₂:St}{h h':Heap}(I:Inv G ρ N st h)(hn:∀a∈ρ₂,h.get? a=none∧a∉N)(hd:ρ₂.Nodup)(hl:ρ₂.length=st₂.length)(k:∀b o,h.get? b=some o→h'.get? b=some o)
  (r:Ext N h ρ h' (ρ++ρ₂)→∀i a x,ρ₂[i]?=some a→st₂[i]?=some x→∃o,h'.get? a=some o∧dJ G h' (ρ++ρ₂) N (st.length+i) x o):Inv G (ρ++ρ₂) N (st++st₂) h':=by
 have X:Ext N h ρ h' (ρ++ρ₂):=⟨List.prefix_append _ _,fun b m=>(List.mem_append.mp m).imp id fun m=>(hn b m).1,fun b o e j j j=>k b o e⟩;refine⟨fun b o e=>k b o (I.base b o e),by rw[List.length_append,List.length_append,I.len,hl],List.nodup_append.mpr ⟨I.nodup,hd,fun b m c m' q=>?_⟩,fun b m=>(List.mem_append.mp m).elim (I.new b) fun m=>?_,fun b m=>(List.mem_append.mp m).elim (I.apart b) fun m=>(hn b m).2,
  fun b m=>(I.lO b m).elim fun o' e=>⟨o',k b o' e⟩,fun y e=>⟨fun m=>(List.mem_append.mp m).elim (I.exc y e).1 fun m=>(nomatch (hn _ m).1.symm.trans (I.exc y e).2),k _ _ (I.exc y e).2⟩,fun i c z e1 e2=>?_⟩
 ·obtain⟨i,e⟩:=List.getElem?_of_mem m
  obtain⟨o,ho,_⟩:=I.objs i b _ e (List.getElem?_eq_getElem (I.lt e));exact nomatch (hn c m').1.symm.trans ((congrArg h.get? q.symm).trans ho)
 ·cases e:G.h₀.get? b with
  |none=>rfl
  |some o=>exact nomatch (hn b m).1.symm.trans (I.base _ _ e)
 ·by_cases hi:i<st.length
  ·rw[List.getElem?_append_left (by rw[I.len];exact hi)] at e1
   rw[List.getElem?_append_left hi] at e2;exact(I.objs i c z e1 e2).elim fun o' r'=>⟨o',k c o' r'.1,r'.2.mono X⟩
  ·have hi:=Nat.le_of_not_lt hi
   rw[List.getElem?_append_right (by rw[I.len];exact hi),I.len] at e1;rw[List.getElem?_append_right hi] at e2;have q:=r X (i-st.length) c z e1 e2;rw[Nat.add_sub_cancel' hi] at q;exact q
theorem Inv.alloc{G:Ctx}{ρ N:List Addr}{st:St}{h h':Heap}{a:Addr}{x:ao}{o:Obj}(I:Inv G ρ N st h)(hn:h.get? a=none)(hN:a∉N)
  (k:∀b o,h.get? b=some o→h'.get? b=some o) (ho:h'.get? a=some o) (r:Ext N h ρ h' (ρ++[a])→dJ G h' (ρ++[a]) N st.length x o):Inv G (ρ++[a]) N (st++[x]) h':=
 I.zm (ρ₂:=[a]) (st₂:=[x]) (fun b m=>by rw[List.mem_singleton.mp m];exact⟨hn,hN⟩) (by simp) rfl k fun X i b y e1 e2=>by
  cases i with
  |zero=>cases e1;cases e2;exact⟨o,ho,r X⟩
  |succ i=>cases e1
theorem bG.alloc(hn:s.heap.get? a=none)(k:∀b o,s.heap.get? b=some o→h'.get? b=some o) :
 bG s ρ { s with heap:=h',toks:=t } (ρ++[a]):=⟨List.prefix_append _ _,fun b m=>by
  rcases List.mem_append.mp m with m|m
  ·exact .inl m
  ·obtain rfl:=List.mem_singleton.mp m;exact .inr hn,fun b o e j=>k b o e,rfl,rfl⟩
theorem aW(h:Heap):h.get? h.objs.size=none:=by
 cases e:h.get? h.objs.size with
 |none=>rfl
 |some o=>exact absurd (Heap.lt_size e) (Nat.lt_irrefl _)
structure eB(G:Ctx)(n:Nat)(A:Around):Prop where
 depth:A.depth+3*n≤900
 units:A.units+20*n≤9000
 guards:A.guards=some []
 handled:A.handled=G.exc.map fun x=>.ref x.a
structure iZ(G:Ctx)(n:Nat)(A:Around):Prop where
 depth:A.depth+3*n+2≤900
 units:A.units+20*n+10≤9000
 guards:A.guards=some []
 handled:A.handled=G.exc.map fun x=>.ref x.a
theorem iZ.none(h:iZ G n A)(hx:G.exc=Option.none):A.handled=Option.none:=by rw[h.handled,hx];rfl
theorem iZ.call(h:iZ G n A):eB G n A:=⟨by haveI:=h.depth;exact(aZ 0x38403110301600403840312011103016004409) this,by haveI:=h.units;exact(aZ 0x2328041101402600402328041a0111014026004409) this,h.guards,h.handled⟩
theorem eB.body(h:eB G (n+1) A):iZ G n (A.deeper env):=
 ⟨by show A.depth+1+_+2≤900;haveI:=h.depth;exact(aZ 0x384031201110301610110044403840311011104301600409) this,by show A.units+3+_+10≤9000;haveI:=h.units;exact(aZ 0x2328041a01110140263011004440232804110111041402600409) this,h.guards,h.handled⟩
structure Fm(nm:List Str)(sc:List (Str×NameKind))(env:Env)(ρ N:List Addr)(h:Heap)(lc:Lc):Prop where
 kind:env.scope.kind=.function
 names:∀x k,sc.lookup x=some k→env.kindOf x=some k∨(k=.free∧env.kindOf x=some .cell)
 glob:env.globals=mainGlobals
 blt:env.builtins=builtinsNs
 has:∀x,(sc.lookup x=some .cell∨sc.lookup x=some .free)→∃c,env.cells.lookup x=some c
 loc:∃m,h.Ns env.locals m∧∀(i:Nat)(x:Str)(v:AV),nm[i]?=some x→lc[i]?=some (some v)→sc.lookup x=some .local→∃val,m x=some val∧av h ρ N v val
 B6:∀(i:Nat)(x:Str)(v:AV),nm[i]?=some x→lc[i]?=some (some v)→(sc.lookup x=some .cell∨sc.lookup x=some .free)→∃c val,env.cells.lookup x=some c∧h.IsCell c (some val)∧av h ρ N v val
 bC:env.locals∉ρ∧∀x c,env.cells.lookup x=some c→c∉ρ∧∃o,h.get? c=some o
theorem Fm.bX{nm:List Str}{sc:List (Str×NameKind)}{env:Env}{ρ aF N:List Addr}{s s':Shared}{lc:Lc}(F:Fm nm sc env ρ N s.heap lc)(X:bG s ρ s' aF):Fm nm sc env aF N s'.heap lc:=by
 obtain⟨m,hn,hm⟩:=F.loc;haveI hL:∃o,s.heap.get? env.locals=some o:=let ⟨o,_,_,ho,_⟩:=hn;⟨o,ho⟩;refine⟨F.kind,F.names,F.glob,F.blt,F.has,⟨m,?_,fun i x v h1 h2 h3=>let ⟨val,e1,e2⟩:=hm i x v h1 h2 h3;⟨val,e1,e2.mono X.ext⟩⟩,fun i x v h1 h2 h3=>?_,?_,fun x c hc=>?_⟩
 ·obtain⟨o,es,ep,ho,r⟩:=hn
  exact⟨o,es,ep,X.keep _ _ ho F.bC.1,r⟩
 ·obtain⟨c,val,e1,⟨o,ho,hd⟩,e3⟩:=F.B6 i x v h1 h2 h3
  exact⟨c,val,e1,⟨o,X.keep _ _ ho (F.bC.2 x c e1).1,hd⟩,e3.mono X.ext⟩
 ·intro m
  obtain⟨o,ho⟩:=hL;rcases X.fresh _ m with q|q
  ·exact F.bC.1 q
  ·rw[ho] at q;cases q
 ·obtain⟨n,o,ho⟩:=F.bC.2 x c hc
  exact⟨fun m=>(X.fresh _ m).elim n (fun q=>by rw[ho] at q;cases q),o,X.keep _ _ ho n⟩
end
end Sv
namespace Sv
open PySem PySem.W PyProof.Rows PySem.Calls PySem.Builtin
section
def yg(A:Around)(x:Option ml)(h:Heap):Prop:=A.handled=x.map (fun x=>.ref x.a)∧∀y,x=some y→h.get? y.a=some y.o
theorem yg.keep(H:yg A x h)(k:∀y,x=some y→∀o,h.get? y.a=some o→h'.get? y.a=some o):yg A x h':=⟨H.1,fun y e=>k y e _ (H.2 y e)⟩
theorem pj:entryFor table "proto.unchain"=some Builtin.«proto.unchain»:=by first|exact entryFor_of_tree (by kernel_rfl)|exact entryFor_of_fast (by kernel_rfl)
section
variable {prog:Program}{w:World}{A:Around}{E:Value→Shared→Prop}{s:Shared}
theorem oG(H:yg A x s.heap)(he:s.heap.get? e=some o)(hd:o.data=.fields vs)(h2:2<vs.size)(cS:∀y,x=some y→y.a≠e)
(h:∀h',(∀b,b≠e→h'.get? b=s.heap.get? b)→(∃o',h'.get? e=some o'∧o'.cls=o.cls)→E (.ref e) { s with heap:=h' }):wpAny (model prog w) A (raiseNew (.ref e):Sem α) Q E s:=by
 unfold raiseNew;refine wpAny_bind (wpAny_handled ?_);rw[H.1];cases x with
 |none=>exact wpAny_bind (wpAny_pure (wpAny_throw (h s.heap (fun j j=>rfl) ⟨_,he,rfl⟩)))
 |some y=>
  haveI hy:=H.2 y rfl;haveI hn:=cS y rfl;dsimp only[Option.map];rw[if_pos (by simpa using hn)];refine wpAny_bind (wpAny_holding (wpAny_runValue (codeAny_builtin pj ?_)));unfold Builtin.«proto.unchain»;show wpAny _ _ (field (.ref y.a) 2>>=_) _ _ _;refine wpAny_bind (wpAny_field hy y.hd y.h2 ?_);dsimp only;refine PySem.bm_if_true rfl ?_;refine wpAny_bind (wpAny_pure (wpAny_pure ?_));obtain⟨c,d,dt,sl⟩:=o;simp only at hd;subst hd;unfold updateField;refine wpAny_bind (wpAny_bind (wpAny_load he ?_));dsimp only;rw[if_pos h2];refine wpAny_update he (wpAny_throw ?_);exact h _ (fun b hb=>Heap.get?_update_other _ _ (Ne.symm hb)) ⟨_,Heap.get?_update_self _ he rfl,rfl⟩
theorem iX(H:yg A x s.heap)
(h:∀e h',(∀b o,s.heap.get? b=some o→h'.get? b=some o)→(∃o,h'.get? e=some o∧o.cls=.type "StopIteration")→E (.ref e) { s with heap:=h' }) :
 wpAny (model prog w) A (newExc (.type "StopIteration") []>>=fun e=>(raiseNew e:Sem α)) Q E s:=by
 refine wpAny_bind ?_;simp only[newExc,newTuple];refine wpAny_bind (wpAny_newObj_type ?_ (by size_fits));refine wpAny_bind (m:=firstArgMember _ _) (wpAny_of_eq (a:=Value.none) (by first|rfl|(simp only[firstArgMember];rfl)) ?_);refine wpAny_newObj_type ?_ (by size_fits);have hk:∀b o,s.heap.get? b=some o→∀p q,((s.heap.push p).push q).get? b=some o:=fun b o e p q=>Heap.get?_push_of_some _ (Heap.get?_push_of_some _ e)
 have dh:∀b o p,s.heap.get? b=some o→b≠(s.heap.push p).objs.size:=fun b o p e q=>by
  haveI:=Heap.lt_size e;rw[q,Heap.size_push] at this;exact Nat.lt_irrefl _ (Nat.lt_of_succ_lt this)
 refine oG (H.keep fun y hy o e=>hk _ _ e _ _) (Heap.get?_push_size _ rfl) rfl (by simp;exact aO 0x6011420111) (fun y hy=>dh _ _ _ (H.2 y hy)) fun h' k1 k2=>?_
 exact h _ h' (fun b o e=>by rw[k1 b (dh _ _ _ e)];exact hk _ _ e _ _) k2
theorem t8{items}(H:yg A x s.heap)(gZ:∀y,x=some y→y.a≠it)
(hit:s.heap.IsListIter it l i)(hl:s.heap.IsList l items)(hx:items[i]?=none)
(hQ:∀h',Heap.ExtBut it s.heap h'→Q none { s with heap:=h' }):wpAny (model prog w) A (pyNext (.ref it)) Q E s:=by
 obtain⟨o,ho,hc,hd⟩:=id hit;obtain⟨ol,Nb,_,nl,uN⟩:=hl;unfold pyNext;refine wpAny_bind (wpAny_attempt (wpAny_callSpecial?_slot (name:=Str.ofString "__next__") hit.typeIs slot_listiter_next
  (wpAny_call_entry slot_listiter_next hit.typeIs entry_listiter_next ?_ (args_listiter_next _))))
 show wpAny _ _ (field (.ref it) 0>>=_) _ _ s;refine wpAny_bind (wpAny_field ho hd (x:=.ref l) rfl ?_);show wpAny _ _ (if (Value.ref l==Value.none)=true then _ else _) _ _ s;rw[if_neg (show ¬((Value.ref l==Value.none)=true) from Bool.false_ne_true)];show wpAny _ _ (field (.ref it) 1>>=_) _ _ s;refine wpAny_bind (wpAny_field ho hd (x:=.int i 0) rfl ?_);show wpAny _ _ (seqItems? (.ref l)>>=_) _ _ s;refine wpAny_bind (wpAny_seqItems Nb uN ?_);simp only[Int.toNat_natCast,hx];refine wpAny_bind (wpAny_rule (wpAny_bind (wpAny_setField ho hd (by simp) ?_)));refine iX (A:=A.in1) (H.keep fun y hy o e=>(Heap.get?_update_other _ _ (Ne.symm (gZ y hy))).trans e) fun e h' k1 ⟨o',he,ht⟩=>?_
 refine wpAny_bind (wpAny_isInstance (T:="StopIteration") (b:=true) ⟨_,he,ht⟩ isSubtype_stop ?_);exact wpAny_pure (hQ _ (fun b o hb e=>k1 b o ((Heap.get?_update_other _ _ (Ne.symm hb)).trans e)))
theorem ya{items}(H:yg A x s.heap)(gZ:∀y,x=some y→y.a≠it)
(hit:s.heap.IsTupleIter it t i)(ht:s.heap.IsTuple t items)(hx:items[i]?=none)
(hQ:∀h',Heap.ExtBut it s.heap h'→Q none { s with heap:=h' }):wpAny (model prog w) A (pyNext (.ref it)) Q E s:=by
 obtain⟨o,ho,hc,hd⟩:=id hit;obtain⟨ol,Nb,_,nl,uN⟩:=ht;unfold pyNext;refine wpAny_bind (wpAny_attempt (wpAny_callSpecial?_slot (name:=Str.ofString "__next__") hit.typeIs PySem.F.slot_tuple_iterator_next
  (wpAny_call_entry PySem.F.slot_tuple_iterator_next hit.typeIs PySem.F.entry_tuple_iterator_next ?_ (PySem.F.args_tuple_iterator_next_1 _))))
 show wpAny _ _ (field (.ref it) 0>>=_) _ _ s;refine wpAny_bind (wpAny_field ho hd (x:=.ref t) rfl ?_);show wpAny _ _ (if (Value.ref t==Value.none)=true then _ else _) _ _ s;rw[if_neg (show ¬((Value.ref t==Value.none)=true) from Bool.false_ne_true)];show wpAny _ _ (field (.ref it) 1>>=_) _ _ s;refine wpAny_bind (wpAny_field ho hd (x:=.int i 0) rfl ?_);show wpAny _ _ (seqItems? (.ref t)>>=_) _ _ s;refine wpAny_bind (wpAny_seqItems Nb uN ?_);simp only[Int.toNat_natCast,hx];refine wpAny_bind (wpAny_rule (wpAny_bind (wpAny_setField ho hd (by simp) ?_)));refine iX (A:=A.in1) (H.keep fun y hy o e=>(Heap.get?_update_other _ _ (Ne.symm (gZ y hy))).trans e) fun e h' k1 ⟨o',he,ht⟩=>?_
 refine wpAny_bind (wpAny_isInstance (T:="StopIteration") (b:=true) ⟨_,he,ht⟩ isSubtype_stop ?_);exact wpAny_pure (hQ _ (fun b o hb e=>k1 b o ((Heap.get?_update_other _ _ (Ne.symm hb)).trans e)))
noncomputable def qE:Option ml→List Addr
 |some y=>[y.a]
 |none=>[]
theorem uH(h:x=some y):y.a∈qE x:=by subst h;simp[qE]
theorem sN{x:Option ml}(hA:A.handled=x.map (fun x=>.ref x.a))(I ax:Addr)(cS:ax≠I)(gZ:∀y,x=some y→y.a≠I)(items:Array Value) :
  Walks prog w A I (I::ax::qE x) [I] items.size (fun i v=>items[i]?=some v) (fun i h=>yg A x h∧h.IsTupleIter I ax i∧h.IsTuple ax items) where
 sub:=fun b hb=>by simp at hb;simp[hb]
 frame:=fun j j j st hk=>⟨st.1.keep fun y hy o e=>hk _ (by simp[uH hy]) o e,st.2.1.at fun o e=>hk I (by simp) o e,st.2.2.at fun o e=>hk ax (by simp) o e⟩
 item:=fun i s Q E hi st hQ=>by
  refine wpAny_pyNext_tuple_item st.2.1 st.2.2 (x:=items[i]) (by simp[hi]) fun h' qG sL=>?_
  exact hQ _ h' s.toks (by simp[hi]) ⟨st.1.keep fun y hy o e=>sL.extBut _ o (gZ y hy) e,qG,st.2.2.extBut sL.extBut cS⟩ fun b o hb e=>sL.extBut b o (fun h=>hb (by simp[h])) e
 done:=fun s Q E st hQ=>ya st.1 gZ st.2.1 st.2.2 (by simp) fun h' Cn=>hQ h' s.toks fun b o hb e=>Cn b o (fun h=>hb (by simp[h])) e
 self:=fun j j j j st hQ=>wpAny_pyIter_tupleiter st.2.1 hQ
theorem min_two(H:yg A x s.heap)
(h:∀h' tk,(∀c o,s.heap.get? c=some o→h'.get? c=some o)→Q (if b<a then .int b u else .int a t) { s with heap:=h',toks:=tk }) :
 wpAny (model prog w) A (call (.builtin "min") [.int a t,.int b u]) Q E s:=by
 have hT:(s.heap.push { cls:=.type "tuple",data:=.seq #[.int a t,.int b u] }).IsTuple s.heap.objs.size (intItems #[(a,t),(b,u)]):=⟨_,Heap.get?_push_size _ rfl,rfl,0,by simp[intItems]⟩;refine call_min_two (wpAny_pyIter_tuple hT ?_);have js:(s.heap.push { cls:=.type "tuple",data:=.seq #[.int a t,.int b u] }).objs.size=s.heap.objs.size+1:=Heap.size_push ..;have dh:∀y,x=some y→y.a<s.heap.objs.size:=fun y hy=>Heap.lt_size (H.2 y hy)
 refine⟨_,_::s.heap.objs.size::qE x,[_],_,_,_,_,rfl,sN (A:=A.in1) (x:=x) H.1 _ s.heap.objs.size (by rw[js];exact Nat.ne_of_lt (Nat.lt_succ_self _)) (fun y hy=>by rw[js];exact Nat.ne_of_lt (Nat.lt_succ_of_lt (dh y hy))) (intItems #[(a,t),(b,u)]),
  ⟨H.keep fun y hy o e=>Heap.get?_push_of_some _ (Heap.get?_push_of_some _ e),⟨_,Heap.get?_push_size _ rfl,rfl,rfl⟩,hT.push _⟩,fun c hc=>?_,by simp[intItems],CmpOf.ints_lt (numAt #[(a,t),(b,u)]) (fun z z=>intItems_at),fun v h' tk hP hk=>?_⟩
 ·show c<((s.heap.push _).push _).objs.size
  rw[Heap.size_push,js];rcases List.mem_cons.mp hc with rfl|hc
  ·rw[js];exact Nat.lt_succ_self _
  ·rcases List.mem_cons.mp hc with rfl|hc
   ·exact Nat.lt_succ_of_lt (Nat.lt_succ_self _)
   ·cases x with
    |none=>cases hc
    |some y=>rw[List.mem_singleton.mp hc];exact Nat.lt_succ_of_lt (Nat.lt_succ_of_lt (dh y rfl))
 ·haveI hold:∀c o,s.heap.get? c=some o→h'.get? c=some o:=fun c o e=>by
   refine hk c o (fun hm=>?_) (Heap.get?_push_of_some _ (Heap.get?_push_of_some _ e));rcases List.mem_cons.mp hm with e1|hm
   ·haveI:=Heap.lt_size e;rw[e1,js] at this;exact Nat.lt_irrefl _ (Nat.lt_of_succ_lt this)
   ·cases hm
  haveI:=h h' tk hold
  haveI hv:v=if b<a then Value.int b u else Value.int a t:=by
   have Lv:(intItems #[(a,t),(b,u)])[argBest (fun i j=>decide (numAt #[(a,t),(b,u)] i<numAt #[(a,t),(b,u)] j)) 1]?=some v:=by
    haveI Mp:(intItems #[(a,t),(b,u)]).size-1=1:=by simp[intItems]
    rw[←Mp];exact hP
   by_cases Lo:b<a
   ·haveI e:argBest (fun i j=>decide (numAt #[(a,t),(b,u)] i<numAt #[(a,t),(b,u)] j)) 1=1:=by simp[argBest,numAt,Lo]
    rw[e] at Lv;simpa[intItems,Lo] using Lv.symm
   ·haveI e:argBest (fun i j=>decide (numAt #[(a,t),(b,u)] i<numAt #[(a,t),(b,u)] j)) 1=0:=by simp[argBest,numAt,Lo]
    rw[e] at Lv;simpa[intItems,Lo] using Lv.symm
  rw[hv];exact this
end
theorem Inv.Ca{G:Ctx}{ρ N:List Addr}{st:St}{h:Heap}(I:Inv G ρ N st h){n:Nat}{A:Around}(hA:iZ G n A):yg A G.exc h:=⟨hA.handled,fun y e=>(I.exc y e).2⟩
end
end Sv
namespace Sv
open PySem PySem.W PyProof.Rows PySem.Calls
section
set_option maxRecDepth 20000
theorem R.mH{α β:Type}{r:R α}{f:α→St→R β}{v:β}{st':St}(h:r.bind f=.ok v st'):∃x af,r=.ok x af∧f x af=.ok v st':=by
 cases r with
 |ok a st=>exact⟨a,st,rfl,h⟩
 |exc k st=>cases h
 |stuck=>cases h
theorem R.bE{α β:Type}{r:R α}{f:α→St→R β}{t:R β}{P:Prop}(h:r.bind f=t)(ht:t≠.stuck)(k:∀x af,r=.ok x af→f x af=t→P):P:=by
 cases r with
 |ok a st=>exact k a st rfl h
 |exc k st=>exact absurd h.symm ht
 |stuck=>exact absurd h.symm ht
theorem R.oE{α β:Type}{o:Option α}{st:St}{f:α→St→R β}{t:R β}{P:Prop}(h:(R.ei st o).bind f=t)(ht:t≠.stuck)(k:∀x,o=some x→f x st=t→P):P:=by
 cases o with
 |none=>exact absurd h.symm ht
 |some a=>exact k a rfl h
theorem R.ay{α:Type}{a:α}{st:St}:R.ok a st≠.stuck:=fun h=>by cases h
theorem R.b8{α:Type}{k:Nat}{st:St}:(R.exc k st:R α)≠.stuck:=fun h=>by cases h
theorem nW{tb:Tab}{rc:RC}{lc:Lc}{a:Sv.E}{f:Addr}{es:Es}{st:St}{t:R AV}{kw:Option (Nat×Sv.E)}{P:Prop}(h:aC tb rc lc (.aA a f es Option.none kw) st=t)(ht:t≠.stuck)
  (k:∀j sl eo vs af,aC tb rc lc a st=.ok (.obj j) eo→eo[j]?=some (.inst sl)→eo[j+1]?=some (.aj [])→cT tb rc lc es eo=.ok vs af→((DD tb rc lc kw af).bind fun k st=>rc f (.obj j::vs) k st)=t→P):P:=
 R.bE h ht fun x eo h0 h=>R.oE h ht fun j h1 h=>R.bE h ht fun vs af h2 h=>yM h1 fun sl q q1 q2=>k j sl eo vs af (q▸h0) q1 q2 h2 (by
  haveI h:((DD tb rc lc kw af).bind fun k st=>rc f (.obj j::vs++[]) k st)=t:=h;rw[List.append_nil] at h;exact h)
theorem qm{tb:Tab}{rc:RC}{lc:Lc}{f:Addr}{es:Es}{st:St}{t:R AV}{P:Prop}(h:aC tb rc lc (.aY f es Option.none Option.none) st=t)(ht:t≠.stuck)
  (k:∀vs af,cT tb rc lc es st=.ok vs af→rc f vs Option.none af=t→P):P:=
 R.bE h ht fun vs af h2 h=>k vs af h2 (by
  haveI h:rc f (vs++[]) Option.none af=t:=h;rw[List.append_nil] at h;exact h)
theorem R.cq{α:Type}{o:Option α}{st st':St}{v:α}(h:R.ei st o=.ok v st'):st'=st∧o=some v:=by
 cases o with
 |none=>cases h
 |some a=>cases h;exact⟨rfl,rfl⟩
inductive Ends(G:Ctx)(ρ N:List Addr)(s:Shared)(st':St)(v:AV)(val:Value)(s':Shared):Prop where
 |mk (aF:List Addr) (a:bG s ρ s' aF) (i:Inv G aF N st' s'.heap) (r:av s'.heap aF N v val)
theorem Ends.after(A:bG s ρ aa ρ₁)(h:Ends G ρ₁ N aa st' v val s'):Ends G ρ N s st' v val s':=
 h.rec fun aF a i r=>⟨aF,A.trans a,i,r⟩
theorem Ends.here{G:Ctx}{ρ N:List Addr}{s:Shared}{st:St}{v:AV}{val:Value}{t:Nat}(I:Inv G ρ N st s.heap)(r:av s.heap ρ N v val):Ends G ρ N s st v val { s with toks:=t }:=
 ⟨ρ,bG.same rfl rfl rfl,I,r⟩
theorem Ends.jG{G:Ctx}{ρ N:List Addr}{s:Shared}{st:St}{v:AV}{o:Obj}{t:Nat}(I:Inv G ρ N st s.heap)
  (r:s.heap.objs.size∉ρ→s.heap.objs.size∉N→Ext N s.heap ρ (s.heap.push o) ρ→av (s.heap.push o) ρ N v (.ref s.heap.objs.size)):Ends G ρ N s st v (.ref s.heap.objs.size) { s with heap:=s.heap.push o,toks:=t }:=by
 refine⟨ρ,bG.push o t,I.push o,r (fun m=>?_) (fun m=>?_) (bG.push (s:=s) o t).ext⟩
 ·obtain⟨i,e⟩:=List.getElem?_of_mem m
  obtain⟨o',ho,_⟩:=I.objs i _ _ e (List.getElem?_eq_getElem (I.lt e));rw[aW] at ho;cases ho
 ·obtain⟨o',ho⟩:=I.lO _ m
  rw[aW] at ho;cases ho
variable {prog:Program}{w:World}{G:Ctx}{ρ N:List Addr}{s:Shared}{st:St}{A:Around}{E:Value→Shared→Prop}
noncomputable def l7:Operator→Option pA
 |.Add=>some .add
 |.Sub=>some .sub
 |.Mult=>some .mul
 |.FloorDiv=>some .floordiv
 |.Mod=>some .mod
 |.Pow=>some .pow
 |.BitAnd=>some .band
 |_=>none
theorem ny{op:Operator}{k:pA}{C:Operator→pA→Prop}(hk:l7 op=some k)(h1:C .Add .add)(h2:C .Sub .sub)(h3:C .Mult .mul)(h4:C .Mod .mod)(h5:C .Pow .pow)(h6:C .BitAnd .band)(h7:C .FloorDiv .floordiv):C op k:=by
 cases op<;>cases hk<;>assumption
set_option tactic.hygienic true in
theorem mT(h:oH a=true):Builtin.Int.intBits a≤64:=by
 unfold oH at h;haveI h:=d6 h
 show(if (a==0)=true then 0 else a.natAbs.log2+1)≤64
 split
 ·exact ed 0x400210010
 ·rename_i hz
  haveI hz:a.natAbs≠0:=by intro q;apply hz;simp;omega
  haveI:a.natAbs.log2<64:=(Nat.log2_lt hz).mpr h
  exact(aO 0x4002110110040400210019) this
theorem EB(h:(oH a||oH b)=true):IntMulOk a b:=by
 unfold IntMulOk;rcases Bool.or_eq_true_iff.mp h with h|h
 ·haveI:¬Builtin.Int.intBits a>shortFactorBits:=by haveI:=mT h;unfold shortFactorBits;exact(aO 0x4002116400210009) this
  rw[decide_eq_false this];simp
 ·haveI:¬Builtin.Int.intBits b>shortFactorBits:=by haveI:=mT h;unfold shortFactorBits;exact(aO 0x4002116400210009) this
  rw[decide_eq_false this];simp
set_option tactic.hygienic true in
theorem noPylong(h:oH b=true):Builtin.divisionGoesByPylong a b=false:=by
 haveI h1:=mT h;unfold Builtin.Int.intBits at h1;unfold Builtin.divisionGoesByPylong
 haveI:(if (b==0)=true then 0 else b.natAbs.log2/30+1)≤300:=by
  split
  ·exact ed 0x12c0310010
  ·rename_i hz;rw[if_neg hz] at h1;exact(cM 0x12c031101120401e0211010010201e026427940021101100409) h1 (nm _ 30 rfl)
 simp only[];rw[decide_eq_false (by exact(aO 0x12c0311612c0310009) this)];rfl
theorem uR(a:Bool)(b:Int)(u:Tok)(hb:b≠0)(Ca:oH b=true) :
 Gives (Builtin.«int.__floordiv__» ⟨[.bool a,.int b u],[]⟩) (.int ((if a=true then (1:Int) else 0).fdiv b)):=by
 refine .of_wp fun M A E s Q h=>?_
 haveI PG:(b==0)=false:=by simpa using hb
 show wpAny _ _ (do
  if b==0 then rule "int.floordiv.zero";raiseError "ZeroDivisionError" "integer division or modulo by zero"
  Builtin.roomForPylong (if a=true then (1:Int) else 0) b
  ret (←mkInt ((if a=true then (1:Int) else 0).fdiv b))) _ _ s
 refine PySem.bm_if_false PG ?_;unfold Builtin.roomForPylong;rw[noPylong Ca];refine wpAny_bind (wpAny_pure ?_);exact wpAny_bind (wpAny_mkInt (wpAny_pure ⟨_,rfl,h⟩))
theorem pD(hb:b≠0)(Ca:oH b=true)(h:Q (.int ((if p=true then (1:Int) else 0).fdiv b) s.toks) { s with toks:=s.toks+1 }) :
 wpAny (model prog w) A (binaryOp .FloorDiv (.bool p) (.int b u)) Q E s:=
 binaryOp_left_gives (op:=.FloorDiv) (T:="bool") (U:="int") (by decide) rfl (fun s'=>typeIs_int s' b u) F.fills_bool_floordiv F.fills_int_floordiv F.sub_int_bool F.slot_bool_floordiv F.slot_int_rfloordiv F.entry_int_floordiv (F.args_int_floordiv_2 _ _)
  (uR p b u hb Ca) trivial h
theorem add_lists(hl:s.heap.IsList l items)(hb:s.heap.IsList b nM)
(h:Q (.ref s.heap.objs.size) { s with heap:=s.heap.push { cls:=.type "list",data:=.seq (items++nM) } })(js:items.size+nM.size≤sizeLine):wpAny (model prog w) A (binaryOp .Add (.ref l) (.ref b)) Q E s:=by
 obtain⟨⟨cls,dd,data,sl⟩,ho,hc,n,hd⟩:=id hl;obtain⟨⟨PU,Qm,data2,Ox⟩,LH,um,n2,hd2⟩:=id hb;simp only at hc hd um hd2;subst hc hd um hd2;exact concat_meets ⟨_,ho,rfl⟩ ⟨_,LH,rfl⟩ noFill_list_add seq_list_add PySem.F.slot_list_add PySem.F.entry_list_add (PySem.F.args_list_add_2 _ _) (list_addW l b items nM n n2 dd Qm sl Ox (by simpa using js)) ⟨ho,LH,h⟩
section
variable {x y v:AV}{xv yv:Value}
theorem av.bt(hx:av h ρ N x xv)(e:x.int?=some a):∃t,xv=.int a t:=by rw[AV.Eb e] at hx;exact hx
theorem av.kN(hx:av h ρ N x xv)(e:x.bool?=some a):xv=.bool a:=by rw[AV.BK e] at hx;exact hx
theorem av.nj(hx:av h ρ N x xv)(e:x.vG=some a):∃t,xv=.str a t:=by rw[AV.C6 e] at hx;exact hx
theorem av.ej(hx:av h ρ N x xv)(e:x.gK=some a):∃t,xv=.bytes a.toArray t:=by rw[AV.xY e] at hx;exact hx
theorem av.of_none(hx:av h ρ N x xv)(e:x.isNone=true):xv=.none:=by rw[AV.xu e] at hx;exact hx
theorem av.lg(hx:av h ρ N x xv)(e:x.tK=some l):av h ρ N (.lst l) xv:=by rw[AV.Dd e] at hx;exact hx
variable (I:Inv G ρ N st s.heap)(hx:av s.heap ρ N x xv)(hy:av s.heap ρ N y yv)
include I hx hy
theorem jF(e:(both AV.int? x y).map f=some v)
(k:∀a b t u,wpAny (model G.prog G.w) A (binaryOp op (.int a t) (.int b u)) (Ends G ρ N s st (f (a,b))) E s):wpAny (model G.prog G.w) A (binaryOp op xv yv) (Ends G ρ N s st v) E s:=
 nr e fun a b e1 e2 q=>by
  obtain⟨t,rfl⟩:=hx.bt e1;obtain⟨u,rfl⟩:=hy.bt e2;exact q▸k a b t u
theorem iq(e:(both AV.int? x y).bind f=some v)
(k:∀a b t u,f (a,b)=some v→wpAny (model G.prog G.w) A (binaryOp op (.int a t) (.int b u)) (Ends G ρ N s st v) E s):wpAny (model G.prog G.w) A (binaryOp op xv yv) (Ends G ρ N s st v) E s:=
 sR e fun a b e1 e2 q=>by
  obtain⟨t,rfl⟩:=hx.bt e1;obtain⟨u,rfl⟩:=hy.bt e2;exact k a b t u q
theorem zu(hx:av s.heap ρ N (.lst l) xv)(hy:av s.heap ρ N (.lst l2) yv)(h:l.length+l2.length≤10000):wpAny (model G.prog G.w) A (binaryOp .Add xv yv) (Ends G ρ N s st (.lst (l++l2))) E s:=by
 obtain⟨a,items,rfl,na,nN,hl,r⟩:=hx;obtain⟨b,nM,rfl,nb,Sb,IY,r2⟩:=hy;refine add_lists hl IY (Ends.jG I fun n1 n2 X=>?_) (by rw[List.size_toArray,List.size_toArray,r.length,r2.length,sizeLine_eq];exact Nat.le_trans h (by decide));exact⟨_,items++nM,rfl,n1,n2,⟨_,Heap.get?_push_size _ rfl,rfl,0,by simp⟩,(r.mono X).append (r2.mono X)⟩
theorem xQ(e:AE x y=some v):wpAny (model G.prog G.w) A (binaryOp .Add xv yv) (Ends G ρ N s st v) E s:=
 oO e (fun e=>jF I hx hy e fun a b t u=>add_int (Ends.here I ⟨_,rfl⟩)) fun e=>oO e (fun e=>sR e fun a b e1 e2 q=>gO q fun h1 q=>by
  obtain⟨t,rfl⟩:=hx.nj e1;obtain⟨u,rfl⟩:=hy.nj e2;exact cQ q▸PyProof.Rows.add_str (fun t' k=>Ends.here I ⟨t',rfl⟩) (by show Array.size _+Array.size _≤_;rw[sizeLine_eq];exact Nat.le_trans (d6 h1) (by decide))) fun e=>oO e (fun e=>sR e fun a b e1 e2 q=>gO q fun h1 q=>by
  obtain⟨t,rfl⟩:=hx.ej e1;obtain⟨u,rfl⟩:=hy.ej e2;exact cQ q▸KBy.add_bytes (by rw[List.size_toArray,List.size_toArray];exact Nat.le_trans (d6 h1) (by decide)) fun t' k=>Ends.here I ⟨t',by simp⟩) fun e=>sR e fun a b e1 e2 q=>gO q fun h1 q=>
  cQ q▸zu I hx hy (hx.lg e1) (hy.lg e2) (d6 h1)
theorem yI(e:zl x y=some v):wpAny (model G.prog G.w) A (binaryOp .Mult xv yv) (Ends G ρ N s st v) E s:=
 oO e (fun e=>iq I hx hy e fun a b t u q=>gO q fun h1 q=>cQ q▸mul_int (Ends.here I ⟨_,rfl⟩) (EB h1)) fun e=>bO e fun a e1 e=>bO e fun n e2 q=>gO q fun h1 q=>by
  obtain⟨t,rfl⟩:=hx.ej e1;obtain⟨u,rfl⟩:=hy.bt e2;have h1:=d6 h1;obtain⟨x,rfl⟩:=List.length_eq_one_iff.mp h1.1;refine cQ q▸bytes_mul_any (by simp) (Int.le_trans (by decide) h1.2.1) (Int.le_trans h1.2.2 (by decide)) (by simp) fun t' k=>Ends.here I ⟨t',?_⟩
  congr 1
  simp
theorem yl(e:Ah x y=some v):wpAny (model G.prog G.w) A (binaryOp .FloorDiv xv yv) (Ends G ρ N s st v) E s:=
 bO e fun b e1 e=>gO e fun h1 e=>by
  obtain⟨u,rfl⟩:=hy.bt e1;have hb:b≠0:=by haveI:=aL h1;simpa using this
  refine oO e (fun e=>mO e fun a e2 q=>?_) fun e=>mO e fun a e2 q=>?_
  ·obtain⟨t,rfl⟩:=hx.bt e2
   exact q▸floordiv_int hb (Ends.here I ⟨_,rfl⟩) (.inl (noPylong (aR h1)))
  ·obtain rfl:=hx.kN e2
   exact q▸pD hb (aR h1) (Ends.here I ⟨_,rfl⟩)
theorem sO{op:Operator}{k:pA}(hk:l7 op=some k)(e:aq k x y=some v):wpAny (model G.prog G.w) A (binaryOp op xv yv) (Ends G ρ N s st v) E s:=
 ny (C:=fun op k=>aq k x y=some v→wpAny (model G.prog G.w) A (binaryOp op xv yv) (Ends G ρ N s st v) E s) hk
  (fun e=>xQ I hx hy e)
  (fun e=>jF I hx hy e fun a b t u=>sub_int' (Ends.here I ⟨_,rfl⟩))
  (fun e=>yI I hx hy e)
  (fun e=>iq I hx hy e fun a b t u q=>gO q fun h1 q=>cQ q▸mod_int' (by simpa using h1) (Ends.here I ⟨_,rfl⟩))
  (fun e=>iq I hx hy e fun a b t u q=>gO q fun h1 q=>cQ q▸pow_int_small (d6 h1).1 (d6 h1).2.1 (d6 h1).2.2 (Ends.here I ⟨_,rfl⟩))
  (fun e=>jF I hx hy e fun a b t u=>and_int (Ends.here I ⟨_,rfl⟩))
  (fun e=>yl I hx hy e) e
end
theorem intsAre_of(hl:l.all AV.Ja=true)(r:ae s.heap ρ N l vs):∃ns,IntsAre vs ns∧l=ns.map AV.int:=by
 induction l generalizing vs with
 |nil=>unfold ae at r;subst r;exact⟨[],.nil,rfl⟩
 |cons x xs ih=>
  unfold ae at r;obtain⟨v,r',rfl,e1,e2⟩:=r;simp only[List.all_cons,Bool.and_eq_true] at hl;obtain⟨ns,h1,h2⟩:=ih hl.2 e2;cases x with
  |int i=>obtain⟨t,rfl⟩:=e1;exact⟨i::ns,.cons i t h1,by rw[h2];rfl⟩
  |_=>cases hl.1
theorem sf(r:ae h ρ N l vs):vs.isEmpty=l.isEmpty:=by
 have:=r.length
 cases l<;>cases vs<;>simp_all
theorem Inv.obj(I:Inv G ρ N st s.heap)(e:st[i]?=some x)(r:av s.heap ρ N (.obj i) v):∃a o,ρ[i]?=some a∧v=.ref a∧s.heap.get? a=some o∧dJ G s.heap ρ N i x o:=by
 obtain⟨a,h1,rfl⟩:=r;obtain⟨o,ho,r⟩:=I.objs i a x h1 e;exact⟨a,o,h1,rfl,ho,r⟩
theorem Inv.qo(I:Inv G ρ N st s.heap)(m:a∈ρ)(e:G.h₀.get? b=some o):(a==b)=false:=by
 cases q:a==b with
 |false=>rfl
 |true=>rw[cj q] at m;rw[I.new b m] at e;cases e
theorem eM(I:Inv G ρ N st s.heap){i:Nat}{a:Addr}(h1:ρ[i]?=some a):(a==sysModules)=false:=by
 obtain⟨o',mq⟩:=G.DB;exact I.qo (List.mem_of_getElem? h1) mq
theorem nc(hl:s.heap.IsList a (List.toArray items))(r:ae s.heap ρ N l items)(h:decide (l.length≤1000000)=true)(hz:∀t,Q (!l.isEmpty) { s with toks:=t }):wpAny (model G.prog G.w) A (PySem.truthy (.ref a)) Q E s:=by
 refine wpAny_truthy_list hl (by rw[List.size_toArray,r.length];haveI:=d6 h;exact(aO 0x80000000000000001020084f42400510009) this) ?_;rw[List.isEmpty_toArray,sf r];exact hz _
theorem vB{i:Nat}{b:Bool}{val:Value}{Q:Bool→Shared→Prop}(I:Inv G ρ N st s.heap)(r:av s.heap ρ N (.obj i) val)(e:(st[i]?).bind wF=some b)(hz:∀t,Q b { s with toks:=t }):wpAny (model G.prog G.w) A (PySem.truthy val) Q E s:=
 bO e fun x e1 e=>by
  obtain⟨a,o,h1,rfl,ho,r⟩:=I.obj e1 r;refine oO e (fun e=>bO e fun l e2 e=>gO e fun h2 e=>?_) fun e=>bO e fun l e2 e=>gO e fun h2 e=>?_
  ·rw[ao.gn e2] at r
   obtain⟨items,n,d,sl,rfl,r⟩:=r;exact nc ⟨_,ho,rfl,n,rfl⟩ r h2 (cQ e▸hz)
  ·rw[ao.lK e2] at r
   obtain⟨kvs,es,n,rfl,e1,e2,e3,e4⟩:=r;have hlen:kvs.length=l.length:=by haveI:=congrArg List.length e4.1;rw[List.length_map,List.length_map] at this;exact this.symm
   refine wpAny_truthy_dict (kvs:=kvs) (knd:=qg G.prog G.w) (eM I h1) ⟨_,es,n,ho,⟨rfl,rfl,rfl⟩,rfl,e1,e2,e3⟩ (by rw[hlen];haveI:=d6 h2;exact(aO 0x80000000000000001020084f42400510009) this) ?_
   haveI:kvs.isEmpty=l.isEmpty:=by cases kvs<;>cases l<;>first|rfl|cases hlen
   rw[this];exact cQ e▸hz _
theorem cC(I:Inv G ρ N st s.heap)(r:av s.heap ρ N v val)(e:Sv.truthy st v=some b)(hz:∀t,Q b { s with toks:=t }) :
 wpAny (model G.prog G.w) A (PySem.truthy val) Q E s:=by
 cases v<;>try (cases (e);done)
 ·cases (e);obtain rfl:=r;exact truthy_none (hz s.toks)
 ·cases (e);obtain rfl:=r;exact wpAny_truthy_bool (hz s.toks)
 ·cases (e);obtain⟨t,rfl⟩:=r;exact P.truthy_int (hz s.toks)
 ·exact vB I r e hz
 ·obtain⟨a,items,rfl,n1,n2,hl,r⟩:=r
  exact gO e fun h1 e=>nc hl r h1 (cQ e▸hz)
noncomputable def FH:UnaryOp→Option LU
 |.Not=>some .not
 |.Invert=>some .inv
 |.USub=>some .neg
 |_=>none
theorem uT{op:UnaryOp}{k:LU}(hk:FH op=some k){x v:AV}{xv:Value}(I:Inv G ρ N st s.heap)(hx:av s.heap ρ N x xv)(e:vM st k x=some v) :
  wpAny (model G.prog G.w) A (unaryOp op xv) (Ends G ρ N s st v) E s:=by
 cases op<;>first|exact nO hk|(have hk:=cQ hk;rw[←hk] at e)
 ·exact mO e fun a e1 q=>by obtain⟨t,r0⟩:=hx.bt e1;exact r0▸q▸invert_int (Ends.here I ⟨_,rfl⟩)
 ·exact mO e fun b hb q=>q▸not_of (cC I hx hb fun t=>Ends.here I rfl)
 ·exact mO e fun a e1 q=>by obtain⟨t,r0⟩:=hx.bt e1;exact r0▸q▸neg_int (Ends.here I ⟨_,rfl⟩)
noncomputable def kA:CmpOp→Option pC
 |.Eq=>some .eq
 |.NotEq=>some .ne
 |.Lt=>some .lt
 |.LtE=>some .le
 |.Gt=>some .gt
 |.GtE=>some .ge
 |.Is=>some .is
 |.IsNot=>some .qp
 |.In=>some .isin
 |.NotIn=>some .ku
end
section
variable {prog:Program}{w:World}{G:Ctx}{ρ N:List Addr}{s:Shared}{st:St}{A:Around}{E:Value→Shared→Prop}
section
set_option maxRecDepth 20000
structure cg(G:Ctx):Prop where
 DB:∃o,G.h₀.get? sysModules=some o
 g:G.h₀.Ns mainGlobals G.mg
 b:G.h₀.Ns builtinsNs G.mb
 nolimit:G.h₀.NoLimit
 sG:G.K.In G.h₀
 plain:plainGet G.K G.B ""=true
 cls:isClsIn G.K G.B=true
 over:plainOver G.K G.B=true
 sets:findIn G.K (.ref G.B) "__setattr__"=some (some (.builtin "object.__setattr__"))
theorem eN.cons_inv(e:eN h ρ N ((a,v)::l) kvs):∃x r,kvs=(a,x)::r∧av h ρ N v x∧eN h ρ N l r:=by
 cases kvs with
 |nil=>cases e.1
 |cons p r=>
  have e1:=List.cons.inj e.1;obtain⟨v',r',h1,h2,h3⟩:=e.2;have h1:=List.cons.inj h1;exact⟨p.2,r,by rw[show a=p.1 from e1.1],by rw[show p.2=v' from h1.1];exact h2,e1.2,by rw[h1.2];exact h3⟩
theorem eN.find{K:Type}[DecidableEq K]{h:Heap}:∀{l:List (K×AV)}{kvs:List (K×Value)},eN h ρ N l kvs→∀k,match aN l k with
  |some v=>∃x,valueAt kvs k=some x∧av h ρ N v x
  |none=>valueAt kvs k=none
 |[],kvs,e,k=>by
  rw[show kvs=[] from List.map_eq_nil_iff.mp e.1.symm];rfl
 |(a,v)::l,kvs,e,k=>by
  obtain⟨x,r,q,h2,h3⟩:=e.cons_inv;rw[q];haveI ih:=eN.find h3 k;unfold aN valueAt at ih ⊢;simp only[List.find?_cons]
  by_cases q:a=k
  ·simp only[q,decide_true,Option.map_some];exact⟨_,rfl,h2⟩
  ·simp only[q,decide_false];exact ih
theorem gq(ho:s.heap.get? a=some o)(r:dJ G s.heap ρ N i (.aj l) o):∃kvs,s.heap.DictOf (intKind G.prog G.w) a kvs∧eN s.heap ρ N l kvs:=by
 obtain⟨kvs,es,n,rfl,e1,e2,e3,e⟩:=r;exact⟨kvs,⟨_,es,n,ho,⟨rfl,rfl,rfl⟩,rfl,e1,e2,e3⟩,e⟩
theorem iK(ho:s.heap.get? a=some o)(r:dJ G s.heap ρ N i (.bR l) o):∃kvs,s.heap.DictOf (qg G.prog G.w) a kvs∧eN s.heap ρ N l kvs:=by
 obtain⟨kvs,es,n,rfl,e1,e2,e3,e⟩:=r;exact⟨kvs,⟨_,es,n,ho,⟨rfl,rfl,rfl⟩,rfl,e1,e2,e3⟩,e⟩
theorem iw(e:iG v=some k)(r:av s.heap ρ N v val):(qg G.prog G.w).is k val=true:=by
 cases v<;>try (cases e;done)
 ·cases e;obtain⟨t,rfl⟩:=r;exact xC _ _ _ _
 ·cases e;obtain⟨t,rfl⟩:=r;exact tE _ _ _ _
theorem tI(ho:s.heap.get? a=some o)(r:dJ G s.heap ρ N i (.bo l) o) :
 ∃xs:List (List Int×Addr×Value),s.heap.DictOfH (tupleKind (intKind G.prog G.w)) a xs∧(∀x∈xs,x.2.1∉ρ∧x.2.1∉N)∧eN s.heap ρ N l (xs.map fun x=>(x.1,x.2.2)):=by
 obtain⟨xs,es,n,rfl,e1,e2,e3,e⟩:=r;exact⟨xs,⟨_,es,n,ho,⟨rfl,rfl,rfl⟩,rfl,e1,fun x m=>(e2 x m).1,e3⟩,fun x m=>(e2 x m).2,e⟩
set_option tactic.hygienic true in
theorem tj(e:rf v=some ks)(r:av s.heap ρ N v val):∃a,val=.ref a∧a∉ρ∧a∉N∧IsTupleKey (intKind G.prog G.w) s.heap ks a:=by
 unfold rf at e;split at e
 ·obtain⟨a,items,rfl,n1,n2,⟨o,ho,hc,n,hd⟩,r⟩:=r
  refine⟨a,rfl,n1,n2,o,_,n,ho,hc,hd,?_⟩
  rename_i l
  clear hd ho
  induction l generalizing ks items with
  |nil=>unfold ae at r;subst r;cases e;exact .nil
  |cons x xs ih=>
   unfold ae at r;obtain⟨v,r',rfl,e1,e2⟩:=r;cases x with
   |int i=>
    obtain⟨R6,h1,rfl⟩:=Option.map_eq_some_iff.mp e;obtain⟨t,rfl⟩:=e1;exact .cons (intKind_is _ _ _ _) (ih h1 _ e2)
   |_=>cases e
 ·cases e
theorem gG(e:jI v l=some b)(hv:av s.heap ρ N v val)(hl:s.heap.IsList a (List.toArray items))(r:ae s.heap ρ N l items) :
 (Q (.bool b) s→wpAny (model prog w) A (compareOp .In val (.ref a)) Q E s)∧(Q (.bool (!b)) s→wpAny (model prog w) A (compareOp .NotIn val (.ref a)) Q E s):=
 bO e fun i e1 e=>gO e fun Hc e=>by
  obtain⟨t,rfl⟩:=hv.bt e1;obtain⟨ns,h1,rfl⟩:=intsAre_of Hc r;haveI hb:(ns.map AV.int).any (AV.zZ i)=ns.any (·==i):=by rw[List.any_map];rfl
  rw[←cQ e,hb];exact⟨fun h=>in_list_ints hl h1 h,fun h=>notin_list_ints hl h1 h⟩
theorem Cx{K:Type}[DecidableEq K]{h:Heap}{l:List (K×AV)}{kvs:List (K×Value)}(hk:eN h ρ N l kvs)(k:K):(valueAt kvs k).isSome=(aN l k).isSome:=by
 have:=hk.find k
 cases q:aN l k with
 |none=>rw[q] at this;rw[this];rfl
 |some v=>rw[q] at this;obtain⟨x,e2,_⟩:=this;rw[e2];rfl
theorem w4{K:Type}[DecidableEq K]{knd:KeyKind G.prog G.w K}{i:Nat}{a:Addr}{xv:Value}{l:List (K×AV)}{kvs:List (K×Value)}{k:K}{b:Bool}{Q:Value→Shared→Prop}(I:Inv G ρ N st s.heap)(h1:ρ[i]?=some a)(hd:s.heap.DictOf knd a kvs)(hk:eN s.heap ρ N l kvs)
  (hx:knd.is k xv=true) (e:(aN l k).isSome=b) (h:∀t,Q (.bool b) { s with toks:=t }):wpAny (model G.prog G.w) A (compareOp .In xv (.ref a)) Q E s:=by
 refine wpAny_in_of hx (eM I h1) hd.mapOf ?_
 have:=Cx hk k
 subst e;cases q:valueAt kvs k with
 |none=>rw[q] at this;rw[←this] at h;exact h _
 |some v=>rw[q] at this;rw[←this] at h;exact h _
theorem sM{x y:AV}{xv yv:Value}{b:Bool}{Q:Value→Shared→Prop}(hS:cg G){n:Nat}(hA:iZ G n A)(I:Inv G ρ N st s.heap)(hx:av s.heap ρ N x xv)(hy:av s.heap ρ N y yv)
  (e:jS st x y=some b) (h:∀t,Q (.bool b) { s with toks:=t }):wpAny (model G.prog G.w) A (compareOp .In xv yv) Q E s:=by
 refine oO e (fun e=>bO e fun i e1 e=>bO e fun o e2 e=>?_) fun e=>bO e fun l e1 e=>?_
 ·rw[AV.du e1] at hy
  obtain⟨a,o',h1,rfl,ho,r⟩:=I.obj e2 hy;clear hy e1 e2;refine oO e (fun e=>bO e fun l e1 e=>?_) fun e=>oO e (fun e=>bO e fun l e1 e=>mO e fun k e3 q=>?_) fun e=>bO e fun l e1 e=>mO e fun k e3 q=>?_
  ·rw[ao.gn e1] at r
   obtain⟨items,n,d,sl,rfl,r⟩:=r;exact(gG e hx ⟨_,ho,rfl,n,rfl⟩ r).1 (h _)
  ·rw[ao.lh e1] at r
   obtain⟨t,rfl⟩:=hx.bt e3;obtain⟨kvs,hd,hk⟩:=gq ho r;exact w4 I h1 hd hk (intKind_is _ _ _ _) q h
  ·rw[ao.lK e1] at r
   obtain⟨kvs,hd,hk⟩:=iK ho r;exact w4 I h1 hd hk (iw e3 hx) q h
 ·obtain⟨a,items,rfl,n1,n2,hl,r⟩:=hy.lg e1
  exact(gG e hx hl r).1 (h _)
theorem pT(hx:av s.heap ρ N x xv)(hy:av s.heap ρ N y yv)(e:AV.Mh x y=some b) :
 (Q (.bool b) s→wpAny (model prog w) A (compareOp .Eq xv yv) Q E s)∧(Q (.bool (!b)) s→wpAny (model prog w) A (compareOp .NotEq xv yv) Q E s):=by
 refine oO e (fun e=>nr e fun a b e1 e2 q=>?_) fun e=>oO e (fun e=>nr e fun a b e1 e2 q=>?_) fun e=>oO e (fun e=>nr e fun a b e1 e2 q=>?_) fun e=>oO e (fun e=>nr e fun a b e1 e2 q=>?_) fun e=>oO e (fun e=>gO e fun h1 e=>oO e (fun e=>mO e fun a e1 q=>?_) fun e=>gO e fun h2 e=>?_) fun e=>gO e fun h1 e=>mO e fun a e1 q=>?_
 ·obtain⟨t,rfl⟩:=hx.bt e1;obtain⟨u,rfl⟩:=hy.bt e2
  exact q▸⟨fun h=>eq_int h,fun h=>ne_int h⟩
 ·obtain rfl:=hx.kN e1;obtain rfl:=hy.kN e2
  exact q▸⟨fun h=>eq_bool h,fun h=>ne_bool h⟩
 ·obtain⟨t,rfl⟩:=hx.nj e1;obtain⟨u,rfl⟩:=hy.nj e2
  exact q▸⟨fun h=>eq_str h,fun h=>ne_str h⟩
 ·obtain⟨t,rfl⟩:=hx.ej e1;obtain⟨u,rfl⟩:=hy.ej e2
  exact q▸⟨fun h=>eq_bytes (by simpa using h),fun h=>ne_bytes (by simpa[bne] using h)⟩
 ·obtain rfl:=hx.of_none h1;obtain⟨u,rfl⟩:=hy.bt e1
  exact q▸⟨fun h=>EqNone.eq_none_int h,fun h=>EqNone.ne_none_int h⟩
 ·obtain rfl:=hx.of_none h1;obtain rfl:=hy.of_none h2;cases e
  exact⟨fun h=>EqNone.eq_none_none h,fun h=>EqNone.ne_none_none h⟩
 ·obtain rfl:=hy.of_none h1;obtain⟨u,rfl⟩:=hx.bt e1
  exact q▸⟨fun h=>EqNone.eq_int_none h,fun h=>EqNone.ne_int_none h⟩
theorem lN(hx:av s.heap ρ N x xv)(e:A1 x=some b):(Q (.bool b) s→wpAny (model prog w) A (compareOp .Is xv .none) Q E s)∧(Q (.bool (!b)) s→wpAny (model prog w) A (compareOp .IsNot xv .none) Q E s):=by
 cases x<;>cases e
 ·obtain rfl:=hx;exact⟨is_none_none,isnot_none_none⟩
 ·obtain rfl:=hx;exact⟨is_bool_none,isnot_bool_none⟩
 ·obtain⟨t,rfl⟩:=hx;exact⟨is_int_none,isnot_int_none⟩
 ·obtain⟨t,rfl⟩:=hx;exact⟨is_bytes_none,isnot_bytes_none⟩
 ·obtain⟨a,_,rfl⟩:=hx;exact⟨is_ref_none,isnot_ref_none⟩
 ·obtain⟨a,_,rfl,_⟩:=hx;exact⟨is_ref_none,isnot_ref_none⟩
theorem iO(hx:av s.heap ρ N x xv)(hy:av s.heap ρ N y yv)(e:(both AV.int? x y).map f=some b)
(k:∀a c t u,Q (.bool (f (a,c))) s→wpAny (model prog w) A (compareOp op (.int a t) (.int c u)) Q E s)(h:Q (.bool b) s):wpAny (model prog w) A (compareOp op xv yv) Q E s:=
 nr e fun a c e1 e2 q=>by
  obtain⟨t,rfl⟩:=hx.bt e1;obtain⟨u,rfl⟩:=hy.bt e2;exact k a c t u (q▸h)
theorem vD{op:CmpOp}{k:pC}{C:CmpOp→pC→Prop}(hk:kA op=some k)(h1:C .Eq .eq)(h2:C .NotEq .ne)(h3:C .Lt .lt)(h4:C .LtE .le)(h5:C .Gt .gt)(h6:C .GtE .ge)(h7:C .Is .is)(h8:C .IsNot .qp)(h9:C .In .isin)(Nx:C .NotIn .ku):C op k:=by
 cases op<;>cases hk<;>assumption
theorem cm{op:CmpOp}{k:pC}(hk:kA op=some k){x y:AV}{xv yv:Value}{b:Bool}{Q:Value→Shared→Prop}(hS:cg G){n:Nat}(hA:iZ G n A)(I:Inv G ρ N st s.heap)(hx:av s.heap ρ N x xv)(hy:av s.heap ρ N y yv)
  (e:bB st k x y=some b) (h:∀t,Q (.bool b) { s with toks:=t }):wpAny (model G.prog G.w) A (compareOp op xv yv) Q E s:=
 haveI h0:Q (.bool b) s:=h s.toks
 vD (C:=fun op k=>bB st k x y=some b→wpAny (model G.prog G.w) A (compareOp op xv yv) Q E s) hk
  (fun e=>(pT hx hy e).1 h0)
  (fun e=>mO e fun c e1 q=>(pT hx hy e1).2 (q▸h0))
  (fun e=>iO hx hy e (fun a c t u h=>lt_int h) h0)
  (fun e=>oO e (fun e=>iO hx hy e (fun a c t u h=>le_int h) h0) fun e=>nr e fun a c e1 e2 q=>by
   rw[hx.kN e1,hy.kN e2];exact le_bool (q▸h0))
  (fun e=>iO hx hy e (fun a c t u h=>gt_int h) h0)
  (fun e=>iO hx hy e (fun a c t u h=>ge_int h) h0)
  (fun e=>gO e fun h1 e=>hy.of_none h1▸(lN hx e).1 h0)
  (fun e=>gO e fun h1 e=>mO e fun c e q=>hy.of_none h1▸(lN hx e).2 (q▸h0))
  (fun e=>sM hS hA I hx hy e h)
  (fun e=>bO e fun l e1 e=>mO e fun c e2 q=>by
   obtain⟨a,items,r0,n1,n2,hl,r⟩:=hy.lg e1;rw[r0];exact(gG e2 hx hl r).2 (q▸h0)) e
theorem mS(x:h.IsTuple a items):IsTup h a items:=x
theorem ve(e:idx i n=some k):k<n∧n≤1000000∧-(n:Int)≤i∧i<n∧seqIndex? i n=some k:=
 gO e fun h1 e=>by
  obtain⟨h1,h2,h3⟩:=d6 h1;have e:=cQ e;unfold seqIndex?
  by_cases h:0≤i
  ·rw[if_pos h] at e
   rw[if_neg (show ¬i<0 by exact(fz 0x200460000239) h)];dsimp only;rw[if_pos (by simp;exact(BR 0x8104100023710002390081049) h3 h),e];exact⟨by exact(yZ 0x1000120002390020a291082049) h3 e h,h1,h2,h3,rfl⟩
  ·rw[if_neg h] at e
   rw[if_pos (show i<0 by exact(fz 0x200400002369) h)];dsimp only;rw[if_pos (by simp;exact(BR 0x80081044008104002371000236910008939) h2 h),e];exact⟨by exact(yZ 0x100012000236900108204a2920108939) h2 e h,h1,h2,h3,rfl⟩
theorem l0(hl:s.heap.IsList a (List.toArray items))(r:ae s.heap ρ N l items)
(hk:idx i l.length=some k)(hv:l[k]?=some v)(h:∀x,av s.heap ρ N v x→Q x s):wpAny (model prog w) A (getItem (.ref a) (.int i t)) Q E s:=by
 obtain⟨x,hx,rx⟩:=r.get k v hv;have hlen:=r.length;refine gO hk fun h1 e=>?_
 obtain⟨h1,h2,h3⟩:=d6 h1;have e:=cQ e
 by_cases h0:0≤i
 ·rw[if_pos h0] at e
  subst e;exact wpAny_getItem_list hl (by omega) (by exact(BR 0x80000000000000001021040081049f42400510009) h1 h3) (by simpa using hx) (h x rx)
 ·rw[if_neg h0] at e
  subst e;exact wpAny_getItem_list_neg hl (by exact(fz 0x200400002369) h0) (by simp;exact(yZ 0x200089320108939100029) hlen h2) (by exact(BR 0x108000000000000000103310008939f42400510009) h1 h2) (by simp only[List.size_toArray,hlen];simpa using hx) (h x rx)
theorem wK{K:Type}[DecidableEq K]{h:Heap}{l:List (K×AV)}{kvs:List (K×Value)}{k:K}{v:AV}(hk:eN h ρ N l kvs)(e:aN l k=some v):∃x,valueAt kvs k=some x∧av h ρ N v x:=by
 haveI:=hk.find k
 rw[e] at this;exact this
theorem tD{x:ao}{y v:AV}{i:Nat}{a:Addr}{o:Obj}{yv:Value}(I:Inv G ρ N st s.heap)(h1:ρ[i]?=some a)(ho:s.heap.get? a=some o)(r:dJ G s.heap ρ N i x o)(hy:av s.heap ρ N y yv)(e:EL y x=some v):wpAny (model G.prog G.w) A (getItem (.ref a) yv) (Ends G ρ N s st v) E s:=by
 refine oO e (fun e=>bO e fun l e1 e=>bO e fun j e2 e=>bO e fun k e3 e=>?_) fun e=>oO e (fun e=>bO e fun l e1 e=>bO e fun k e2 e=>?_) fun e=>bO e fun l e1 e=>bO e fun k e2 e=>?_
 ·rw[ao.gn e1] at r
  obtain⟨items,n,d,sl,rfl,r⟩:=r;obtain⟨t,rfl⟩:=hy.bt e2;exact l0 ⟨_,ho,rfl,n,rfl⟩ r e3 e fun x hx=>Ends.here I hx
 ·rw[ao.lh e1] at r
  obtain⟨t,rfl⟩:=hy.bt e2;obtain⟨kvs,hd,hk⟩:=gq ho r;obtain⟨x,e2,rx⟩:=wK hk e;exact wpAny_getItem_of (intKind_is _ _ _ _) hd.mapOf e2 (Ends.here I rx)
 ·rw[ao.lK e1] at r
  obtain⟨kvs,hd,hk⟩:=iK ho r;obtain⟨x,e3,rx⟩:=wK hk e;exact wpAny_getItem_of (iw e2 hy) hd.mapOf e3 (Ends.here I rx)
set_option tactic.hygienic true in
theorem uz(hS:cg G)(hA:iZ G n A)(I:Inv G ρ N st s.heap)(hx:av s.heap ρ N x xv)(hy:av s.heap ρ N y yv)
(e:cX st x y=some v):wpAny (model G.prog G.w) A (getItem xv yv) (Ends G ρ N s st v) E s:=by
 cases x<;>try (cases e;done)
 case bytes l=>
  refine bO e fun i e1 e=>gO e fun h1 e=>?_
  obtain⟨t,rfl⟩:=hx;obtain⟨u,rfl⟩:=hy.bt e1;have h1:=d6 h1;exact cQ e▸getItem_bytes (by haveI:=h1.2.2;exact(BR 0x100000000000b1000f4240051000008104710002379) h1) h1.1 h1.2.1 (Ends.here I ⟨_,rfl⟩)
 case obj j=>
  refine bO e fun o e1 e=>?_
  obtain⟨a,o',h1,rfl,ho,r⟩:=I.obj e1 hx;exact tD I h1 ho r hy e
 case tup l=>
  refine bO e fun i e1 e=>bO e fun k h1 h2=>?_
  obtain⟨a,items,rfl,n1,n2,hl,r⟩:=hx;obtain⟨t,rfl⟩:=hy.bt e1;obtain⟨x,hx,rx⟩:=r.get k v h2;have hlen:(List.toArray items).size=l.length:=by rw[List.size_toArray,r.length]
  refine getItem_tuple (mS hl) ?_ ?_ (j:=k) (by rw[hlen];exact(ve h1).2.2.2.2) (by simpa using hx) (Ends.here I rx)
  ·haveI:=ve h1;omega
  ·haveI:=ve h1;omega
 case lst l=>
  refine bO e fun i e1 e=>bO e fun k h1 h2=>?_
  obtain⟨a,items,rfl,n1,n2,hl,r⟩:=hx;obtain⟨t,rfl⟩:=hy.bt e1;exact l0 hl r h1 h2 fun x hx=>Ends.here I hx
end
end
end Sv
namespace Sv
open PySem PySem.W PyProof.Rows PySem.Calls PySem.Builtin
section
variable {prog:Program}{w:World}{G:Ctx}{ρ N:List Addr}{s:Shared}{st:St}{A:Around}{E:Value→Shared→Prop}
section
theorem Az:Slot "bytearray" "__getitem__" "bytearray.__getitem__":=
 .of (owner:="bytearray") (n:="__getitem__") (by rw[typeLookup_type,builtinLookup_eq_fast];kernel_rfl) (by decide +kernel) (by decide +kernel) (by decide +kernel)
  (by first|exact .inl (by decide +kernel)|exact .inr (by decide +kernel)) (by rw[isSubtype_type];kernel_rfl)
theorem rj:entryFor table "bytearray.__getitem__"=some Builtin.«bytearray.__getitem__»:=by first|exact entryFor_of_tree (by kernel_rfl)|exact entryFor_of_fast (by kernel_rfl)
theorem tx(a b:Value):argsOk "bytearray.__getitem__" ⟨[a,b],[]⟩:=by
 unfold argsOk;kernel_rfl
theorem da{M:Model}{a:Addr}{l u:Value}{lo hi:Option Int}{Q:Value×Value×Value→Shared→Prop}(hs:s.heap.IsSliceOf a l u .none)(hl:IsPart l lo)(hu:IsPart u hi)
  (h:Q (rawPart lo,rawPart hi,.none) s):wpAny M A (Bytes.sliceParts (.ref a)) Q E s:=by
 obtain⟨o,ho,hc,hd⟩:=hs;have part:∀{v:Value}{x:Option Int}{Q':Value→Shared→Prop},IsPart v x→Q' (rawPart x) s→wpAny M A (do
   if v==.none then return .none
   if (←specialOf v "__index__").isNone then
    rule "bytes.slice.part-no-index";raiseError "TypeError" "slice indices must be integers or None or have an __index__ method"
   return rawInt (←asIndex v):Sem Value) Q' E s:=by
  intro v x Q' hp hq;cases hp with
  |none=>exact wpAny_pure hq
  |int i t=>
   show wpAny M A (if (Value.int i t==Value.none)=true then _ else _) Q' E s;rw[if_neg (show ¬(Value.int i t==Value.none)=true from Bool.false_ne_true)];refine wpAny_bind (wpAny_specialOf (T:="int") (typeIs_int _ _ _) PySem.F.slot_int_index.lookup ?_);show wpAny M A (if (Option.isNone (some _))=true then _ else _) Q' E s;rw[if_neg (by simp)];exact wpAny_bind (wpAny_of_eq (a:=i) rfl (wpAny_pure hq))
 unfold Bytes.sliceParts;refine wpAny_bind (wpAny_field (x:=.none) ho hd rfl ?_);refine wpAny_bind (wpAny_of_eq (a:=Value.none) rfl ?_);show wpAny M A (if (Value.none==rawInt 0)=true then _ else _) Q E s;rw[if_neg (by decide)];refine wpAny_bind (wpAny_field (x:=l) ho hd rfl ?_);refine wpAny_bind (part hl ?_);refine wpAny_bind (wpAny_field (x:=u) ho hd rfl ?_);exact wpAny_bind (part hu (wpAny_pure h))
theorem eu(hs:s.heap.IsSliceOf a l u .none)(h:Q none s):wpAny M A (Bytes.subscript? (.ref a)) Q E s:=by
 obtain⟨o,ho,hc,hd⟩:=hs;unfold Bytes.subscript?;exact wpAny_bind (wpAny_specialOf (T:="slice") ⟨o,ho,hc⟩ slice_no_index (wpAny_pure h))
theorem dB(ho:s.heap.get? a=some o)(hd:o.data=.bytearray b n)(h:Q b s):wpAny M A (Bytes.payload (.ref a)) Q E s:=by
 unfold Bytes.payload Bytes.payload?;refine wpAny_bind (wpAny_bind (wpAny_load ho ?_));rw[hd];exact wpAny_pure (wpAny_pure h)
theorem mM(b:Array UInt8)(lo hi:Option Int):Bytes.sliced b (sliceBounds lo hi none b.size).1 (sliceBounds lo hi none b.size).2.1 (sliceBounds lo hi none b.size).2.2=(cut b.toList lo hi).toArray:=by
 rw[sliceBounds_plain];unfold Bytes.sliced cut;simp only[sliceRange_one,pick_run,Array.length_toList]
theorem nG(l:List α)(lo hi:Option Int):(cut l lo hi).length≤l.length:=by
 unfold cut;simp only[List.length_take,List.length_drop];exact cM 0x201020510005c0
theorem AQ{a b:Addr}{l u:Value}{lo hi:Option Int}{o:Obj}{bs:List UInt8}{Q:Value→Shared→Prop}(ho:s.heap.get? b=some o)(hc:o.cls=.type "bytearray")(hd:o.data=.bytearray bs.toArray 0)
  (hs:s.heap.IsSliceOf a l u .none) (hl:IsPart l lo) (hu:IsPart u hi) (js:bs.length≤1000000)
  (h:Q (.ref s.heap.objs.size) { s with heap:=s.heap.push { cls:=.type "bytearray",data:=.bytearray (cut bs lo hi).toArray } }):wpAny (model prog w) A (getItem (.ref b) (.ref a)) Q E s:=by
 refine getItem_meets (S:=fun A R s'=>s'=s∧R (.ok (.ret (.ref s.heap.objs.size))) { s with heap:=s.heap.push { cls:=.type "bytearray",data:=.bytearray (cut bs lo hi).toArray } }) ⟨o,ho,hc⟩ (by decide) Az rj (tx _ _) ?_ ⟨rfl,h⟩;refine .of_wp fun prog w A R s' hS=>?_
 obtain⟨rfl,h⟩:=hS;unfold Builtin.«bytearray.__getitem__»;refine wpAny_bind (wpAny_of_eq (a:=(Value.ref b,[Value.ref a])) rfl ?_);refine wpAny_bind (eu hs ?_);obtain⟨oa,vU,El,Ii⟩:=id hs;refine wpAny_bind (wpAny_typeOf (T:="slice") ⟨oa,vU,El⟩ ?_);show wpAny _ _ (if (Value.type "slice" != Value.type "slice")=true then _ else _) _ _ _;rw[if_neg (by decide)];refine wpAny_bind (da hs hl hu ?_);refine wpAny_bind (dB ho hd ?_);refine wpAny_bind (wpAny_of_eq (sliceIndices_raw lo hi none bs.toArray.size (fun e=>nomatch e)) ?_);dsimp only;rw[mM];haveI lR:=nG bs lo hi;refine wpAny_bind (wpAny_newObj_type (wpAny_pure ⟨_,rfl,?_⟩) ?_)
 ·simpa using h
 ·show(List.toArray _).size≤sizeLine
  simp only[List.size_toArray,sizeLine_eq];exact(aZ 0x1000000071000100009f42400511009) js lR
theorem zg{a:Addr}{t:Tok}{l u:Value}{lo hi:Option Int}{bs:List UInt8}{Q:Value→Shared→Prop}
  (hs:s.heap.IsSliceOf a l u .none) (hl:IsPart l lo) (hu:IsPart u hi) (js:bs.length≤1000000)
  (h:∀t' k,Q (.bytes (cut bs lo hi).toArray t') { s with toks:=k }):wpAny (model prog w) A (getItem (.bytes bs.toArray t) (.ref a)) Q E s:=by
 refine getItem_meets (S:=fun A R s'=>s'=s∧∀t' k,R (.ok (.ret (.bytes (cut bs lo hi).toArray t'))) { s with toks:=k }) (typeIs_bytes _ _ _) (by decide) PySem.W.FB.slot_bytes_getitem PySem.W.FB.entry_bytes_getitem (PySem.W.FB.args_bytes_getitem_2 _ _) ?_ ⟨rfl,h⟩;refine .of_wp fun prog w A R s' hS=>?_
 obtain⟨rfl,h⟩:=hS;unfold Builtin.«bytes.__getitem__»;refine wpAny_bind (wpAny_of_eq (a:=(Value.bytes bs.toArray t,[Value.ref a])) rfl ?_);refine wpAny_bind (wpAny_of_eq (a:=bs.toArray) rfl ?_);refine wpAny_bind (eu hs ?_);obtain⟨oa,vU,El,Ii⟩:=id hs;refine wpAny_bind (wpAny_typeOf (T:="slice") ⟨oa,vU,El⟩ ?_);show wpAny _ _ (if (Value.type "slice" != Value.type "slice")=true then _ else _) _ _ _;rw[if_neg (by decide)];refine wpAny_bind (da hs hl hu ?_);refine wpAny_bind (wpAny_of_eq (sliceIndices_raw lo hi none bs.toArray.size (fun e=>nomatch e)) ?_);dsimp only;rw[mM];haveI lR:=nG bs lo hi;haveI fin:wpAny (model prog w) A.in1 (do let v ←mkBytes (cut bs.toArray.toList lo hi).toArray;ret v)
   (fun fin s'=>∃v,fin=PySem.Fin.done (Flow.ret v)∧R (Except.ok (Flow.ret v)) s') (fun e s'=>R (Except.error e) s') s':=by
  refine wpAny_bind (wpAny_mkBytes (wpAny_pure ⟨_,rfl,?_⟩) ?_)
  ·simpa using h s'.toks (s'.toks+1)
  ·simp only[List.size_toArray,sizeLine_eq];exact(aZ 0x1000000071000100009f42400511009) js lR
 by_cases hw:((sliceBounds lo hi none bs.toArray.size).1==0&&(sliceBounds lo hi none bs.toArray.size).2.2==1&&(sliceBounds lo hi none bs.toArray.size).2.1==(bs.toArray.size:Int)&&!bs.toArray.isEmpty)=true
 ·rw[if_pos hw]
  refine wpAny_bind (wpAny_typeOf (typeIs_bytes _ _ _) ?_);show wpAny _ _ (if (Value.type "bytes"==Value.type "bytes")=true then _ else _) _ _ _;rw[if_pos (by decide)];haveI e:cut bs lo hi=bs:=by
   rw[sliceBounds_plain] at hw;simp only[Bool.and_eq_true,beq_iff_eq,List.size_toArray] at hw;unfold cut;haveI h1:lo.elim 0 (clipAt bs.length)=0:=by omega
   haveI h2:hi.elim bs.length (clipAt bs.length)=bs.length:=by omega
   rw[h1,h2];simp
  haveI:=h t s'.toks
  rw[e] at this;exact wpAny_bind (wpAny_rule (wpAny_pure ⟨_,rfl,this⟩))
 ·rw[if_neg hw]
  exact fin
theorem BY{a l:Addr}{vl vu:Value}{lo hi:Option Int}{items:List Value}{Q:Value→Shared→Prop}(hl:s.heap.IsList l (List.toArray items))
  (hs:s.heap.IsSliceOf a vl vu .none) (pl:IsPart vl lo) (pu:IsPart vu hi) (js:items.length≤1000000)
  (h:Q (.ref s.heap.objs.size) { s with heap:=s.heap.push { cls:=.type "list",data:=.seq (List.toArray (cut items lo hi)) } }):wpAny (model prog w) A (getItem (.ref l) (.ref a)) Q E s:=by
 refine wpAny_getItem_list_slice hl hs pl pu .none (by simp) ?_ (by simp only[List.size_toArray,sizeLine_eq];exact(aO 0x1000000071000f42400510009) js);rw[slicePick_plain];unfold cut at h;simpa using h
set_option tactic.hygienic true in
theorem ae.take(r:ae h ρ N l vs)(n:Nat):ae h ρ N (l.take n) (vs.take n):=by
 haveI hl:=r.length;refine ae.of_get (by simp[hl]) fun i x v h1 h2=>?_
 rw[List.getElem?_take] at h1 h2;split at h1
 ·rename_i hi;rw[if_pos hi] at h2
  obtain⟨v',e1,e2⟩:=r.get i x h1;rw[h2] at e1;cases (e1);exact e2
 ·cases (h1)
theorem ae.drop(r:ae h ρ N l vs)(n:Nat):ae h ρ N (l.drop n) (vs.drop n):=by
 haveI hl:=r.length;refine ae.of_get (by simp[hl]) fun i x v h1 h2=>?_
 rw[List.getElem?_drop] at h1 h2;obtain⟨v',e1,e2⟩:=r.get _ x h1;rw[h2] at e1;cases (e1);exact e2
theorem ae.cut(r:ae h ρ N l vs)(lo hi:Option Int):ae h ρ N (Sv.cut l lo hi) (Sv.cut vs lo hi):=by
 unfold Sv.cut;rw[r.length];exact(r.drop _).take _
theorem ae.reverse:∀{l:List AV}{vs:List Value},ae h ρ N l vs→ae h ρ N l.reverse vs.reverse
 |[],vs,r=>by unfold ae at r;subst r;exact ae.nil
 |x::xs,vs,r=>by
  unfold ae at r;obtain⟨v,r',rfl,e1,e2⟩:=r;rw[List.reverse_cons,List.reverse_cons];exact(ae.reverse e2).append (ae.single e1)
noncomputable def ji(h:Heap)(ρ N:List Addr):Option AV→Value→Prop
 |some x,v=>av h ρ N x v
 |none,v=>v=.none
theorem iS(e:fB x=some l)(r:ji h ρ N x v):IsPart v l:=by
 cases x with
 |none=>cases e;obtain rfl:v=.none:=r;exact .none
 |some x=>
  cases x with
  |int i=>
   unfold fB at e;dsimp only at e;split at e
   ·cases e;obtain⟨t,rfl⟩:=r;exact .int _ t
   ·cases e
  |_=>cases e
def HW(rev:Bool)(sv:Value):Prop:=if rev then ∃t,sv=.int (-1) t else sv=.none
section
variable {lo hi:Option Int}{rev:Bool}{v:AV}{lv uv sv:Value}{a:Addr}(I:Inv G ρ N st s.heap)(hs:s.heap.IsSliceOf a lv uv sv)(pl:IsPart lv lo)(pu:IsPart uv hi)(Cp:HW rev sv)
include I hs pl pu Cp
theorem p0(hb:s.heap.IsList b (List.toArray items))(r:ae s.heap ρ N xs items)(e:LL xs lo hi rev=some v):wpAny (model G.prog G.w) A (getItem (.ref b) (.ref a)) (Ends G ρ N s st v) E s:=
 gO e fun h1 e=>by
  have hz:items.length≤1000000:=by rw[r.length];exact d6 h1
  cases rev with
  |false=>
   obtain rfl:sv=.none:=Cp;refine cQ e▸BY hb hs pl pu hz (Ends.jG I fun n1 n2 X=>?_);exact⟨_,_,rfl,n1,n2,⟨_,Heap.get?_push_size _ rfl,rfl,0,rfl⟩,(r.cut lo hi).mono X⟩
  |true=>
   obtain⟨t,rfl⟩:∃t,sv=.int (-1) t:=Cp;refine gO e fun h2 e=>?_
   rw[Option.isNone_iff_eq_none.mp (aL h2)] at pl;rw[Option.isNone_iff_eq_none.mp (aR h2)] at pu;refine cQ e▸wpAny_getItem_list_slice hb hs pl pu (.int (-1) t) (by simp) ?_ (by rw[List.size_toArray,sizeLine_eq];exact(aO 0x1000000071000f42400510009) hz);rw[krv_pick];refine Ends.jG I fun n1 n2 X=>?_
   exact⟨_,_,rfl,n1,n2,⟨_,Heap.get?_push_size _ rfl,rfl,0,by simp⟩,r.reverse.mono X⟩
theorem xy(ho:s.heap.get? b=some o)(r:dJ G s.heap ρ N i x o)(e:((x.lZ.bind fun xs=>LL xs lo hi rev).or (x.qr.bind fun xs=>gd (!rev&&decide (xs.length≤1000000)) (some (.aJ (Sv.cut xs lo hi)))))=some v):wpAny (model G.prog G.w) A (getItem (.ref b) (.ref a)) (Ends G ρ N s st v) E s:=by
 refine oO e (fun e=>bO e fun xs e1 e=>?_) fun e=>bO e fun xs e1 e=>gO e fun h1 z=>?_
 ·rw[ao.gn e1] at r
  obtain⟨items,n,d,sl,rfl,r⟩:=r;exact p0 I hs pl pu Cp ⟨_,ho,rfl,n,rfl⟩ r e
 ·rw[ao.kJ e1] at r
  obtain⟨d,sl,rfl⟩:=r;cases rev with
  |true=>cases aL h1
  |false=>
  obtain rfl:sv=.none:=Cp;refine cQ z▸AQ ho rfl rfl hs pl pu (d6 (aR h1)) (Ends.jG I fun n1 n2 X=>?_);exact⟨_,rfl,n1,n2,none,#[],Heap.get?_push_size _ rfl⟩
end
theorem kC(I:Inv G ρ N st s.heap)(hx:av s.heap ρ N x xv)
(hl:ji s.heap ρ N l lv)(hu:ji s.heap ρ N u uv)
(hs:s.heap.IsSliceOf a lv uv sv)(Cp:if rev then ∃t,sv=.int (-1) t else sv=.none)(e:cw st x l u rev=some v) :
 wpAny (model G.prog G.w) A (getItem xv (.ref a)) (Ends G ρ N s st v) E s:=
 bO e fun lo uj e=>bO e fun hi tS e=>by
  have pl:=iS uj hl;have pu:=iS tS hu;clear hl hu uj tS;refine oO e (fun e=>bO e fun xs e1 e=>?_) fun e=>oO e (fun e=>bO e fun xs e1 e=>gO e fun h1 z=>?_) fun e=>bO e fun i e1 e=>bO e fun o e2 e=>?_
  ·obtain⟨b,items,rfl,n1,n2,hb,r⟩:=hx.lg e1
   exact p0 I hs pl pu Cp hb r e
  ·obtain⟨t,rfl⟩:=hx.ej e1
   cases rev with
   |true=>cases aL h1
   |false=>
   obtain rfl:sv=.none:=Cp;exact cQ z▸zg hs pl pu (d6 (aR h1)) fun t' k=>Ends.here I ⟨t',rfl⟩
  ·rw[AV.du e1] at hx
   obtain⟨b,o,h1,rfl,ho,r⟩:=I.obj e2 hx;exact xy I hs pl pu Cp ho r e
end
section
def SE(G:Ctx)(rc:RC)(nm:List Str)(sc:List (Str×NameKind))(n:Nat)(p:Expr)(e:Sv.E):Prop:=
 ∀{env:Env}{A:Around}{ρ N:List Addr}{s:Shared}{lc:Lc}{st st':St}{v:AV}(E:Value→Shared→Prop),Fm nm sc env ρ N s.heap lc→Inv G ρ N st s.heap→iZ G n A →
  aC G.tb rc lc e st=.ok v st'→au (model G.prog G.w) A (eval p env) (Ends G ρ N s st' v) E s
inductive qk(G:Ctx)(ρ N:List Addr)(s:Shared)(st':St)(b:Bool)(c:Bool)(s':Shared):Prop where
 |mk (q:c=b) (aF:List Addr) (a:bG s ρ s' aF) (i:Inv G aF N st' s'.heap)
theorem K.ends{M:Model}{A:Around}{m:Sem Value}{E:Value→Shared→Prop}{G:Ctx}{ρ N:List Addr}{s bD:Shared}{st':St}{v:AV}{Q:Value→Shared→Prop}(h:au M A m (Ends G ρ N bD st' v) E s)(k:∀val s' aF,bG bD ρ s' aF→Inv G aF N st' s'.heap→av s'.heap aF N v val→Q val s'):au M A m Q E s:=
 K.mono h (fun val s' h=>h.rec (k val s')) fun j j x=>x
inductive E9(G:Ctx)(ρ N:List Addr)(s:Shared)(st':St)(v:Option AV)(val:Value)(s':Shared):Prop where
 |mk (aF:List Addr) (a:bG s ρ s' aF) (i:Inv G aF N st' s'.heap) (r:ji s'.heap aF N v val)
theorem K.wO{M:Model}{A:Around}{m:Sem Value}{E:Value→Shared→Prop}{G:Ctx}{ρ N:List Addr}{s bD:Shared}{st':St}{v:Option AV}{Q:Value→Shared→Prop}(h:au M A m (E9 G ρ N bD st' v) E s)(k:∀val s' aF,bG bD ρ s' aF→Inv G aF N st' s'.heap→ji s'.heap aF N v val→Q val s'):au M A m Q E s:=
 K.mono h (fun val s' h=>h.rec (k val s')) fun j j x=>x
theorem K.eF{M:Model}{A:Around}{m:Sem Bool}{E:Value→Shared→Prop}{G:Ctx}{ρ N:List Addr}{s bD:Shared}{st':St}{b:Bool}{Q:Bool→Shared→Prop}(h:au M A m (qk G ρ N bD st' b) E s)(k:∀c s',c=b→∀aF,bG bD ρ s' aF→Inv G aF N st' s'.heap→Q c s'):au M A m Q E s:=
 K.mono h (fun c s' h=>h.rec (k c s')) fun j j x=>x
def H2(G:Ctx)(rc:RC)(nm:List Str)(sc:List (Str×NameKind))(n:Nat)(p:Expr)(e:Sv.E):Prop:=
 ∀{env:Env}{A:Around}{ρ N:List Addr}{s:Shared}{lc:Lc}{st st':St}{v:AV}{b:Bool}(E:Value→Shared→Prop),Fm nm sc env ρ N s.heap lc→Inv G ρ N st s.heap→iZ G n A →
  aC G.tb rc lc e st=.ok v st'→truthy st' v=some b→au (model G.prog G.w) A (isTrue p env (eval p env)) (qk G ρ N s st' b) E s
structure SB(G:Ctx)(rc:RC)(nm:List Str)(sc:List (Str×NameKind))(n:Nat)(p:Expr)(e:Sv.E):Prop where
 val:SE G rc nm sc n p e
 oy:H2 G rc nm sc n p e
variable {G:Ctx}{rc:RC}{nm:List Str}{sc:List (Str×NameKind)}{n:Nat}
theorem qk.after(A:bG s ρ aa ρ₁)(h:qk G ρ₁ N aa st' b c s'):qk G ρ N s st' b c s':=
 let ⟨q,aF,a,i⟩:=h;⟨q,aF,A.trans a,i⟩
theorem SE.both{p:Expr}{e:Sv.E}(h:SE G rc nm sc n p e)(hp:autoParam (∀env aH,isTrue p env aH=(do let v ←aH;standAt p.pos;holding [v] (PySem.truthy v))) Lz):SB G rc nm sc n p e where
 val:=h
 oy:=fun {env A ρ N s lc st st' v b} E F I hA he ht=>by
  refine K.tB (K.ends (h E F I hA he) fun val aa ρ₁ aE aw aS=>?_) (hp _ _);refine K.of ?_;exact cC aw aS ht fun t=>⟨rfl,ρ₁,aE.toks,aw⟩
theorem SE.const(h:∀{env:Env}{A:Around}{s:Shared}{Q:Value→Shared→Prop}{E:Value→Shared→Prop},(∀val t,(∀h ρ N,av h ρ N v val)→Q val { s with toks:=t })→wpAny (model G.prog G.w) A (eval p env) Q E s) :
 SE G rc nm sc n p (.lit v):=fun {env A ρ N s lc st st' v'} E F I hA he=>by
 cases he;exact K.of (h fun val t hv=>Ends.here I (hv _ _ _))
theorem SE.int(i:Int)(k:Nat)(pos:Pos):SE G rc nm sc n (.Constant (.int i) k pos) (.lit (.int i)):=SE.const (v:=.int i) fun h=>wpAny_Constant_int (h _ _ fun j j j=>⟨_,rfl⟩)
theorem SE.str(x:Str)(k:Nat)(pos:Pos):SE G rc nm sc n (.Constant (.str x) k pos) (.lit (.str x)):=SE.const (v:=.str x) fun h=>wpAny_Constant_str (h _ _ fun j j j=>⟨_,rfl⟩)
theorem SE.bool(b:Bool)(k:Nat)(pos:Pos):SE G rc nm sc n (.Constant (.bool b) k pos) (.lit (.bool b)):=SE.const (v:=.bool b) fun {_ _ s _ _} h=>wpAny_Constant_bool (h _ s.toks fun j j j=>rfl)
theorem SE.none(k:Nat)(pos:Pos):SE G rc nm sc n (.Constant .none k pos) (.lit .none):=SE.const (v:=.none) fun {_ _ s _ _} h=>wpAny_Constant_none (h _ s.toks fun j j j=>rfl)
theorem SE.bytes(b:List UInt8)(k:Nat)(pos:Pos):SE G rc nm sc n (.Constant (.bytes b) k pos) (.lit (.bytes b)):=SE.const (v:=.bytes b) fun {env A s Q E} h=>by
 show wpAny _ _ (mkTextBytes b.toArray) _ _ _;exact wpAny_mkTextBytes (h _ _ fun j j j=>⟨_,rfl⟩)
theorem SE.var(hi:nm[i]?=some x)(hk:sc.lookup x=some k)(Cb:k=.local∨k=.cell∨k=.free)(hd:(x==("__debug__":Str))=false)(hc:(x==("__classdict__":Str))=false) :
 SE G rc nm sc n (.Name x pos) (.var i):=fun {env A ρ N s lc st st' v} E F I hA he=>by
 obtain⟨rfl,hv⟩:=R.cq he;have hl:lc[i]?=some (some v):=by
  cases q:lc[i]? with
  |none=>rw[q] at hv;cases hv
  |some y=>rw[q] at hv;cases y with
   |none=>cases hv
   |some z=>cases hv;rfl
 refine K.of ?_;rcases F.names x k hk with hq|⟨rfl,hq⟩
 ·rcases Cb with rfl|rfl|rfl
  ·obtain⟨m,hn,hm⟩:=F.loc
   obtain⟨val,e1,e2⟩:=hm i x v hi hl hk;exact wpAny_Name (wpAny_loadName_local F.kind hq hn e1 (Ends.here I e2)) hd
  ·obtain⟨c,val,e1,e2,e3⟩:=F.B6 i x v hi hl (.inl hk)
   exact wpAny_Name (wpAny_loadName_cell F.kind hq e1 e2 (Ends.here I e3)) hd
  ·obtain⟨c,val,e1,e2,e3⟩:=F.B6 i x v hi hl (.inr hk)
   exact wpAny_Name (wpAny_loadName_free F.kind hq e1 e2 (Ends.here I e3) hc) hd
 ·obtain⟨c,val,e1,e2,e3⟩:=F.B6 i x v hi hl (.inr hk)
  exact wpAny_Name (wpAny_loadName_cell F.kind hq e1 e2 (Ends.here I e3)) hd
def Hi(v:AV)(val:Value):Prop:=∀h ρ N,av h ρ N v val
theorem SE.glob(hS:cg G)(hk:sc.lookup x=some .globalImplicit)(hv:Hi v val)(hm:G.mg x=some val∨(G.mg x=Option.none∧G.mb x=some val))(hd:(x==("__debug__":Str))=false) :
 SE G rc nm sc n (.Name x pos) (.lit v):=fun {env A ρ N s lc st st' v'} E F I hA he=>by
 cases he;have hq:env.kindOf x=some .globalImplicit:=by
  rcases F.names x _ hk with q|⟨q,_⟩
  ·exact q
  ·cases q
 have hg:s.heap.Ns env.globals G.mg:=by rw[F.glob];exact hS.g.keeps I.base
 haveI hb:s.heap.Ns env.builtins G.mb:=by rw[F.blt];exact hS.b.keeps I.base
 refine K.of ?_;rcases hm with hm|⟨hm,sx⟩
 ·exact Name_function_global F.kind hq (loadGlobal_global hg hm (Ends.here I (hv _ _ _))) hd
 ·exact Name_function_global F.kind hq (loadGlobal_builtin hg hm hb sx (Ends.here I (hv _ _ _))) hd
theorem SE.bin(hk:l7 op=some k)(ha:SE G rc nm sc n l a)(hb:SE G rc nm sc n r b):SE G rc nm sc n (.BinOp l op r pos) (.bin k a b):=
 fun {env A ρ N s lc st st' v} E F I hA he=>by
 refine R.bE he R.ay fun x af h1 he=>?_
 refine R.bE he R.ay fun y aU h2 he=>?_
 obtain⟨rfl,h3⟩:=R.cq he;refine K.binOp (K.ends (ha E F I hA h1) fun xv aa ρ₁ aE aw aS=>K.ends (hb E (F.bX aE) aw hA h2) fun yv ag ρ₂ bk aM br=>?_);refine K.of ?_;exact wpAny_mono (sO aM (aS.mono bk.ext) br hk h3) (fun j j h=>h.after (aE.trans bk)) fun j j x=>x
theorem SE.un(hk:FH op=some k)(ha:SE G rc nm sc n x a):SE G rc nm sc n (.UnaryOp op x pos) (.un k a):=
 fun {env A ρ N s lc st st' v} E F I hA he=>by
 refine R.bE he R.ay fun x af h1 he=>?_
 obtain⟨rfl,h3⟩:=R.cq he;refine K.Mg (K.ends (ha E F I hA h1) fun xv aa ρ₁ aE aw aS=>?_);refine K.of ?_;exact wpAny_mono (uT hk aw aS h3) (fun j j h=>h.after aE) fun j j x=>x
theorem SB.not{x:Expr}{pos:Pos}{a:Sv.E}(ha:SB G rc nm sc n x a):SB G rc nm sc n (.UnaryOp .Not x pos) (.un .not a) where
 val:=SE.un rfl ha.val
 oy:=fun {env A ρ N s lc st st' v b} E F I hA he ht=>by
  refine R.bE he R.ay fun x af h1 he=>?_
  obtain⟨rfl,h3⟩:=R.cq he;obtain⟨c,hc,rfl⟩:=Option.map_eq_some_iff.mp h3;cases ht;exact K.w8 (K.eF (ha.oy E F I hA h1 hc) fun j j q aF a i=>⟨by rw[q],aF,a,i⟩)
theorem SE.cmp(hS:cg G)(hk:kA op=some k)(hm:behindInMarks op r=false)(ha:SE G rc nm sc n l a)(hb:SE G rc nm sc n r b):SE G rc nm sc n (.Compare l [op] [r] pos) (.cmp k a b):=
 fun {env A ρ N s lc st st' v} E F I hA he=>by
 refine R.bE he R.ay fun x af h1 he=>?_
 refine R.bE he R.ay fun y aU h2 he=>?_
 obtain⟨rfl,h3⟩:=R.cq he;obtain⟨c,hc,rfl⟩:=Option.map_eq_some_iff.mp h3;refine K.ME (K.ends (ha E F I hA h1) fun xv aa ρ₁ aE aw aS=>K.ends (hb E (F.bX aE) aw hA h2) fun yv ag ρ₂ bk aM br=>?_) hm;refine K.of ?_;exact cm hk hS hA aM (aS.mono bk.ext) br hc fun t=>Ends.after (aE.trans bk) (Ends.here aM rfl)
theorem SB.cmp{l r:Expr}{op:CmpOp}{k:pC}{pos:Pos}{a b:Sv.E}(hS:cg G)(hk:kA op=some k)(hm:behindInMarks op r=false)(ha:SE G rc nm sc n l a)(hb:SE G rc nm sc n r b):SB G rc nm sc n (.Compare l [op] [r] pos) (.cmp k a b) where
 val:=SE.cmp hS hk hm ha hb
 oy:=fun {env A ρ N s lc st st' v b} E F I hA he ht=>by
  refine R.bE he R.ay fun x af h1 he=>?_
  refine R.bE he R.ay fun y aU h2 he=>?_
  obtain⟨rfl,h3⟩:=R.cq he;obtain⟨c,hc,rfl⟩:=Option.map_eq_some_iff.mp h3;cases ht;refine K.zP (K.ends (ha E F I hA h1) fun xv aa ρ₁ aE aw aS=>K.ends (hb E (F.bX aE) aw hA h2) fun yv ag ρ₂ bk aM br=>?_) hm;refine K.of ?_;exact cm hk hS hA aM (aS.mono bk.ext) br hc fun t=>K.of (wpAny_truthy_bool ⟨rfl,ρ₂,(aE.trans bk).toks,aM⟩)
set_option tactic.hygienic true in
theorem SE.ite(hc:SB G rc nm sc n c ce)(ha:SE G rc nm sc n x a)(hb:SE G rc nm sc n y b):SE G rc nm sc n (.IfExp c x y pos) (.ite ce a b):=
 fun {env A ρ N s lc st st' v} E F I hA he=>by
 refine R.bE he R.ay fun t af h1 he=>?_
 refine K.K2 ?_;split at he
 ·rename_i ht
  refine K.eF (hc.oy E F I hA h1 ht) fun j aa q ρ₁ aE aw=>?_
  subst q;exact K.mono (ha E (F.bX aE) aw hA he) (fun j j h=>h.after aE) fun j j x=>x
 ·rename_i ht
  refine K.eF (hc.oy E F I hA h1 ht) fun j aa q ρ₁ aE aw=>?_
  subst q;exact K.mono (hb E (F.bX aE) aw hA he) (fun j j h=>h.after aE) fun j j x=>x
 ·cases he
def gb(s:Shared)(v:Value):Prop:=∃T id,s.TypeIs v T∧typeLookup (.type T) "__getitem__"=pure (some (.builtin id))
theorem lW(ho:s.heap.get? a=some o)(hc:o.cls=.type "list"):gb s (.ref a):=⟨"list",_,⟨o,ho,hc⟩,slot_list_getitem.lookup⟩
theorem sk(ho:s.heap.get? a=some o)(hc:o.cls=.type "tuple"):gb s (.ref a):=⟨"tuple",_,⟨o,ho,hc⟩,slot_tuple_getitem.lookup⟩
theorem iJ(ho:s.heap.get? a=some o)(hc:o.cls=.type "dict"):gb s (.ref a):=⟨"dict",_,⟨o,ho,hc⟩,slot_dict_getitem.lookup⟩
theorem yP(ho:s.heap.get? a=some o)(hc:o.cls=.type "bytearray"):gb s (.ref a):=⟨"bytearray",_,⟨o,ho,hc⟩,Az.lookup⟩
theorem kQ:gb s (.bytes b t):=⟨"bytes",_,typeIs_bytes _ _ _,PySem.W.FB.slot_bytes_getitem.lookup⟩
theorem dJ.se(ho:s.heap.get? a=some o)(r:dJ G s.heap ρ N i x o)(h:∀sl,x≠.inst sl):gb s (.ref a):=by
 cases x with
 |list _=>obtain⟨_,_,_,_,q,_⟩:=r;exact lW ho (by rw[q])
 |aj _=>obtain⟨_,_,_,q,_⟩:=r;exact iJ ho (by rw[q])
 |bo _=>obtain⟨_,_,_,q,_⟩:=r;exact iJ ho (by rw[q])
 |bR _=>obtain⟨_,_,_,q,_⟩:=r;exact iJ ho (by rw[q])
 |set _=>exact r.elim
 |aJ _=>obtain⟨_,_,q⟩:=r;exact yP ho (by rw[q])
 |inst sl=>exact absurd rfl (h sl)
theorem Inv.se{ρ N:List Addr}{s:Shared}{st:St}{j:Nat}{o:ao}{xv:Value}(I:Inv G ρ N st s.heap)(hx:av s.heap ρ N (.obj j) xv)(e:st[j]?=some o)(h:∀sl,o≠.inst sl):gb s xv:=by
 obtain⟨a,o',h1,rfl,ho,r⟩:=I.obj e hx;exact r.se ho h
theorem nx(hx:av s.heap ρ N (.lst l) xv):gb s xv:=by
 obtain⟨a,items,rfl,n1,n2,⟨o,ho,hc,_⟩,r⟩:=hx;exact lW ho hc
set_option tactic.hygienic true in
theorem sX{ρ N:List Addr}{s:Shared}{st:St}{x y v:AV}{xv:Value}(I:Inv G ρ N st s.heap)(hx:av s.heap ρ N x xv)(e:cX st x y=some v):gb s xv:=by
 cases x<;>try (cases e;done)
 case lst l=>exact nx hx
 case tup l=>obtain⟨a,items,rfl,n1,n2,⟨o,ho,hc,_⟩,r⟩:=hx;exact sk ho hc
 case bytes l=>obtain⟨t,rfl⟩:=hx;exact kQ
 case obj j=>exact bO e fun o e1 e=>I.se hx e1 fun sl q=>by rw[q] at e;cases e
theorem SE.sub(hS:cg G)(ha:SE G rc nm sc n v a)(hb:SE G rc nm sc n i b)(hs:∀o x,subscripted i false o x=operate [o,x] (getItem o x)):SE G rc nm sc n (.Subscript v i pos) (.sub a b):=
 fun {env A ρ N s lc st st' v'} E F I hA he=>by
 refine R.bE he R.ay fun x af h1 he=>?_
 refine R.bE he R.ay fun y aU h2 he=>?_
 obtain⟨rfl,h3⟩:=R.cq he;refine K.subscript (K.ends (ha E F I hA h1) fun xv aa ρ₁ aE aw aS=>K.ends (hb E (F.bX aE) aw hA h2) fun yv ag ρ₂ bk aM br=>?_);have V:=aS.mono (N:=N) bk.ext;obtain⟨T,id,hT,hl⟩:=sX aM V h3;refine K.of ?_;exact tail_any hT hl (wpAny_mono (uz hS hA aM V br h3) (fun j j h=>h.after (aE.trans bk)) fun j j x=>x) (hs _ _)
noncomputable def SO(G:Ctx)(rc:RC)(nm:List Str)(sc:List (Str×NameKind))(n:Nat):Option Expr→Option Sv.E→Prop
 |some p,some e=>SE G rc nm sc n p e
 |Option.none,Option.none=>True
 |_,_=>False
theorem SO.run{p:Option Expr}{e:Option Sv.E}(h:SO G rc nm sc n p e){env:Env}{A:Around}{ρ N:List Addr}{s:Shared}{lc:Lc}{st st':St}{v:Option AV}(E:Value→Shared→Prop)(F:Fm nm sc env ρ N s.heap lc)(I:Inv G ρ N st s.heap)(hA:iZ G n A)
  (he:u5 G.tb rc lc e st=.ok v st'):au (model G.prog G.w) A (evalPart p env) (E9 G ρ N s st' v) E s:=by
 cases p with
 |none=>
  cases e with
  |none=>cases he;rw[evalPart_none];exact K.pure ⟨ρ,bG.refl,I,rfl⟩
  |some e=>exact h.elim
 |some p=>
  cases e with
  |none=>exact h.elim
  |some e=>
   refine R.bE he R.ay fun x af h1 he=>?_
   cases he;rw[evalPart_some];exact K.ends (h E F I hA h1) fun j j aF a i r=>⟨aF,a,i,r⟩
theorem ji.mono(X:Ext N h ρ h' aF)(e:ji h ρ N x v):ji h' aF N x v:=by
 cases x with
 |none=>exact e
 |some x=>exact av.mono X e
theorem jg{ρ N:List Addr}{s:Shared}{st:St}{x v:AV}{l u:Option AV}{rev:Bool}{xv:Value}(I:Inv G ρ N st s.heap)(hx:av s.heap ρ N x xv)(e:cw st x l u rev=some v):gb s xv:=
 bO e fun lo uj e=>bO e fun hi tS e=>oO e (fun e=>bO e fun xs e1 e=>nx (hx.lg e1)) fun e=>oO e (fun e=>bO e fun xs e1 e=>by obtain⟨t,rfl⟩:=hx.ej e1;exact kQ) fun e=>bO e fun i e1 e=>bO e fun o e2 e=>by
  rw[AV.du e1] at hx;exact I.se hx e2 fun sl q=>by rw[q] at e;cases e
theorem SE.slice{v:Expr}{lo hi:Option Expr}{pos p:Pos}{a:Sv.E}{l u:Option Sv.E}(ha:SE G rc nm sc n v a)(hl:SO G rc nm sc n lo l)(hu:SO G rc nm sc n hi u) :
  SE G rc nm sc n (.Subscript v (.Slice lo hi Option.none p) pos) (.slice a l u false):=fun {env A ρ N s lc st st' v'} E F I hA he=>by
 refine R.bE he R.ay fun x af h1 he=>?_
 refine R.bE he R.ay fun y aU h2 he=>?_
 refine R.bE he R.ay fun z bf h3 he=>?_
 obtain⟨rfl,h4⟩:=R.cq he;refine K.subscript (K.ends (ha E F I hA h1) fun xv aa ρ₁ aE aw aS=>?_);refine K.slice (K.wO (hl.run E (F.bX aE) aw hA h2) fun yv ag ρ₂ bk aM br=>K.wO (hu.run E (F.bX (aE.trans bk)) aM hA h3) fun zv bh b4 eS dN hK=>?_);rw[evalPart_none];refine K.pure ?_;have X4:bG bh b4 { bh with heap:=bh.heap.push { cls:=.type "slice",data:=.fields #[yv,zv,.none] } } b4:=bG.push (s:=bh) _ bh.toks;have I4:=dN.push { cls:=.type "slice",data:=.fields #[yv,zv,.none] };have V:=((aS.mono (N:=N) bk.ext).mono eS.ext).mono X4.ext;obtain⟨T,id,hT,hg⟩:=jg I4 V h4;refine K.of ?_;refine tail_any hT hg (ops:=[_,_]) (wpAny_mono (kC I4 V ((br.mono eS.ext).mono X4.ext) (hK.mono X4.ext) (Heap.IsSliceOf.new _ _ _ _) (by simp) h4) (fun j j h=>h.after (((aE.trans bk).trans eS).trans X4)) fun j j x=>x) rfl
theorem SE.rev(ha:SE G rc nm sc n v a) :
 SE G rc nm sc n (.Subscript v (.Slice Option.none Option.none (some (.UnaryOp .USub (.Constant (.int 1) k p2) p1)) p) pos) (.slice a Option.none Option.none true):=fun {env A ρ N s lc st st' v'} E F I hA he=>by
 refine R.bE he R.ay fun x af h1 he=>?_
 refine R.bE he R.ay fun y aU h2 he=>?_
 refine R.bE he R.ay fun z bf h3 he=>?_
 cases (h2);cases (h3);obtain⟨rfl,h4⟩:=R.cq he;refine K.subscript (K.ends (ha E F I hA h1) fun xv aa ρ₁ aE aw aS=>?_);refine K.slice ?_;rw[evalPart_none,evalPart_some];refine K.pure (K.pure ?_);refine K.of (wpAny_UnaryOp (wpAny_Constant_int (neg_int ?_)));have X4:bG aa ρ₁ ⟨aa.heap.push { cls:=.type "slice",data:=.fields #[.none,.none,.int (-1) (aa.toks+1)] },aa.gens,aa.drawn,aa.toks+1+1,aa.os⟩ ρ₁:=bG.push (s:=aa) _ _;have I4:=aw.push { cls:=.type "slice",data:=.fields #[.none,.none,.int (-1) (aa.toks+1)] };have V:=aS.mono (N:=N) X4.ext;obtain⟨T,id,hT,hg⟩:=jg (s:=⟨aa.heap.push _,aa.gens,aa.drawn,aa.toks+1+1,aa.os⟩) I4 V h4;refine K.of ?_;refine tail_any hT hg (ops:=[_,_]) (wpAny_mono (kC (s:=⟨aa.heap.push _,aa.gens,aa.drawn,aa.toks+1+1,aa.os⟩) I4 V (l:=Option.none) (u:=Option.none) rfl rfl (Heap.IsSliceOf.new _ _ _ _) (by simp) h4) (fun j j h=>h.after (aE.trans X4)) fun j j x=>x) rfl
end
end
section
variable {G:Ctx}{rc:RC}{nm:List Str}{sc:List (Str×NameKind)}{n:Nat}
set_option tactic.hygienic true in
theorem H2.tf{l r1 r2:Expr}{o1 o2:CmpOp}{k1 k2:pC}{pos:Pos}{a b c:Sv.E}(hS:cg G)(LC:kA o1=some k1)(EZ:kA o2=some k2)(hm:lastMarks [o1,o2] [r1,r2]=false)
  (ha:SE G rc nm sc n l a) (hb:SE G rc nm sc n r1 b) (hc:SE G rc nm sc n r2 c):SB G rc nm sc n (.Compare l [o1,o2] [r1,r2] pos) (.tf k1 k2 a b c) where
 val:=fun {env A ρ N s lc st st' v} E F I hA he=>by
  refine R.bE he R.ay fun x af h1 he=>?_
  refine R.bE he R.ay fun y aU h2 he=>?_
  refine K.chain (K.ends (ha E F I hA h1) fun xv aa ρ₁ aE aw aS=>K.yj (K.ends (hb E (F.bX aE) aw hA h2) fun yv ag ρ₂ bk aM br=>?_)) hm;split at he
  ·rename_i hq
   refine K.of (cm LC hS hA aM (aS.mono bk.ext) br hq fun t=>K.of (wpAny_truthy_bool ?_));rw[if_pos rfl];refine R.bE he R.ay fun z bf h3 he=>?_
   obtain⟨rfl,h4⟩:=R.cq he;obtain⟨d,hd,rfl⟩:=Option.map_eq_some_iff.mp h4;refine K.xJ (K.ends (hc E (F.bX ((aE.trans bk).toks (t:=t))) aM hA h3) fun zv bh b4 eS dN hK=>?_);refine K.of ?_;exact cm EZ hS hA dN (br.mono eS.ext) hK hd fun t=>Ends.after (((aE.trans bk).toks (t:=_)).trans eS) (Ends.here dN rfl)
  ·rename_i hq
   refine K.of (cm LC hS hA aM (aS.mono bk.ext) br hq fun t=>K.of (wpAny_truthy_bool ?_));cases (he);exact Ends.after (aE.trans bk) (Ends.here aM rfl)
  ·cases (he)
 oy:=fun {env A ρ N s lc st st' v b} E F I hA he ht=>by
  refine R.bE he R.ay fun x af h1 he=>?_
  refine R.bE he R.ay fun y aU h2 he=>?_
  refine K.yd (K.ends (ha E F I hA h1) fun xv aa ρ₁ aE aw aS=>K.BC (K.ends (hb E (F.bX aE) aw hA h2) fun yv ag ρ₂ bk aM br=>?_)) hm;split at he
  ·rename_i hq
   refine K.of (cm LC hS hA aM (aS.mono bk.ext) br hq fun t=>K.of (wpAny_truthy_bool ?_));rw[if_pos rfl];refine R.bE he R.ay fun z bf h3 he=>?_
   obtain⟨rfl,h4⟩:=R.cq he;obtain⟨d,hd,rfl⟩:=Option.map_eq_some_iff.mp h4;cases (ht);refine K.An (K.ends (hc E (F.bX ((aE.trans bk).toks (t:=t))) aM hA h3) fun zv bh b4 eS dN hK=>?_);refine K.of ?_;exact cm EZ hS hA dN (br.mono eS.ext) hK hd fun t=>K.of (wpAny_truthy_bool ⟨rfl,b4,(((aE.trans bk).toks (t:=_)).trans eS).toks,dN⟩)
  ·rename_i hq
   refine K.of (cm LC hS hA aM (aS.mono bk.ext) br hq fun t=>K.of (wpAny_truthy_bool ?_));cases (he);cases (ht);exact⟨rfl,ρ₂,(aE.trans bk).toks,aM⟩
  ·cases (he)
inductive y3(G:Ctx)(rc:RC)(nm:List Str)(sc:List (Str×NameKind))(n:Nat)(isAnd:Bool):List Expr→Sv.E→Prop
 |one {p:Expr} {e:Sv.E}:SB G rc nm sc n p e→y3 G rc nm sc n isAnd [p] e
 |cons {p q:Expr} {ps:List Expr} {e r:Sv.E}:SB G rc nm sc n p e→y3 G rc nm sc n isAnd (q::ps) r→y3 G rc nm sc n isAnd (p::q::ps) (if isAnd then .and e r else .or e r)
set_option tactic.hygienic true in
theorem y3.vals(h:y3 G rc nm sc n isAnd ps e):∀{env:Env}{A:Around}{ρ N:List Addr}{s:Shared}{lc:Lc}{st st':St}{v:AV}(pos:Pos)(E:Value→Shared→Prop),Fm nm sc env ρ N s.heap lc→Inv G ρ N st s.heap→iZ G n A →
 aC G.tb rc lc e st=.ok v st'→au (model G.prog G.w) A (boolOp pos (if isAnd then .And else .Or) (evalEach ps env)) (Ends G ρ N s st' v) E s:=by
 induction h with
 |one h1=>intro env A ρ N s lc st st' v pos E F I hA he;exact h1.val E F I hA he
 |@cons p q ps e r h1 _ ih=>
  intro env A ρ N s lc st st' v pos E F I hA he;cases isAnd with
  |true=>
   refine R.bE he R.ay fun x af e1 he=>?_
   refine K.nK (K.ends (h1.val E F I hA e1) fun xv aa ρ₁ aE aw aS=>?_);split at he
   ·rename_i ht
    refine K.of (cC aw aS ht fun t=>?_);exact K.mono (ih pos E (F.bX (aE.toks (t:=t))) aw hA he) (fun j j h=>h.after (aE.toks (t:=t))) fun j j x=>x
   ·rename_i ht
    refine K.of (cC aw aS ht fun t=>?_);cases he;exact Ends.after aE (Ends.here aw aS)
   ·cases he
  |false=>
   refine R.bE he R.ay fun x af e1 he=>?_
   refine K.nK (K.ends (h1.val E F I hA e1) fun xv aa ρ₁ aE aw aS=>?_);split at he
   ·rename_i ht
    refine K.of (cC aw aS ht fun t=>?_);cases he;exact Ends.after aE (Ends.here aw aS)
   ·rename_i ht
    refine K.of (cC aw aS ht fun t=>?_);exact K.mono (ih pos E (F.bX (aE.toks (t:=t))) aw hA he) (fun j j h=>h.after (aE.toks (t:=t))) fun j j x=>x
   ·cases he
set_option tactic.hygienic true in
theorem y3.MD(h:y3 G rc nm sc n isAnd ps e):∀{env:Env}{A:Around}{ρ N:List Addr}{s:Shared}{lc:Lc}{st st':St}{v:AV}{b:Bool}(E:Value→Shared→Prop),Fm nm sc env ρ N s.heap lc→Inv G ρ N st s.heap→iZ G n A →
 aC G.tb rc lc e st=.ok v st'→truthy st' v=some b→au (model G.prog G.w) A (allTrue (if isAnd then .And else .Or) ps env) (qk G ρ N s st' b) E s:=by
 induction h with
 |one h1=>
  intro env A ρ N s lc st st' v b E F I hA he ht;cases isAnd with
  |true=>
   refine K.fO (K.eF (h1.oy E F I hA he ht) fun c aa q aF a i=>?_);subst q;cases (c)
   ·exact⟨rfl,aF,a,i⟩
   ·exact K.u7 ⟨rfl,aF,a,i⟩
  |false=>
   refine K.fO (K.eF (h1.oy E F I hA he ht) fun c aa q aF a i=>?_);subst q;cases (c)
   ·exact K.u7 ⟨rfl,aF,a,i⟩
   ·exact⟨rfl,aF,a,i⟩
 |@cons p q ps e r h1 _ ih=>
  intro env A ρ N s lc st st' v b E F I hA he hb;cases isAnd with
  |true=>
   refine R.bE he R.ay fun x af e1 he=>?_
   split at he
   ·rename_i ht
    refine K.fO (K.eF (h1.oy E F I hA e1 ht) fun c aa q ρ₁ aE aw=>?_);subst q;exact K.mono (ih E (F.bX aE) aw hA he hb) (fun j j h=>h.after aE) fun j j x=>x
   ·rename_i ht
    refine K.fO (K.eF (h1.oy E F I hA e1 ht) fun c aa q ρ₁ aE aw=>?_);subst q;cases (he);rw[ht] at hb;cases (hb);exact⟨rfl,ρ₁,aE,aw⟩
   ·cases (he)
  |false=>
   refine R.bE he R.ay fun x af e1 he=>?_
   split at he
   ·rename_i ht
    refine K.fO (K.eF (h1.oy E F I hA e1 ht) fun c aa q ρ₁ aE aw=>?_);subst q;cases (he);rw[ht] at hb;cases (hb);exact⟨rfl,ρ₁,aE,aw⟩
   ·rename_i ht
    refine K.fO (K.eF (h1.oy E F I hA e1 ht) fun c aa q ρ₁ aE aw=>?_);subst q;exact K.mono (ih E (F.bX aE) aw hA he hb) (fun j j h=>h.after aE) fun j j x=>x
   ·cases (he)
theorem y3.all{isAnd:Bool}{ps:List Expr}{e:Sv.E}{pos:Pos}(h:y3 G rc nm sc n isAnd ps e):SB G rc nm sc n (.BoolOp (if isAnd then .And else .Or) ps pos) e where
 val:=fun {env A ρ N s lc st st' v} E F I hA he=>by rw[arm_eval_BoolOp];exact h.vals pos E F I hA he
 oy:=fun {env A ρ N s lc st st' v b} E F I hA he hb=>K.t9 (h.MD E F I hA he hb)
inductive Ey(G:Ctx)(ρ N:List Addr)(s:Shared)(st':St)(vs:List AV)(vals:List Value)(s':Shared):Prop where
 |mk (aF:List Addr) (a:bG s ρ s' aF) (i:Inv G aF N st' s'.heap) (r:ae s'.heap aF N vs vals)
theorem K.fQ{M:Model}{A:Around}{m:Sem (List Value)}{E:Value→Shared→Prop}{G:Ctx}{ρ N:List Addr}{s bD:Shared}{st':St}{vs:List AV}{Q:List Value→Shared→Prop}(h:au M A m (Ey G ρ N bD st' vs) E s)(k:∀vals s' aF,bG bD ρ s' aF→Inv G aF N st' s'.heap→ae s'.heap aF N vs vals→Q vals s'):au M A m Q E s:=
 K.mono h (fun val s' h=>h.rec (k val s')) fun j j x=>x
def lr(G:Ctx)(rc:RC)(nm:List Str)(sc:List (Str×NameKind))(n:Nat)(ps:List Expr)(es:Es):Prop:=
 ∀{env:Env}{A:Around}{ρ N:List Addr}{s:Shared}{lc:Lc}{st st':St}{vs:List AV}(pos:Pos)(E:Value→Shared→Prop),Fm nm sc env ρ N s.heap lc→Inv G ρ N st s.heap→iZ G n A →
  cT G.tb rc lc es st=.ok vs st'→au (model G.prog G.w) A (spliced (backTo pos (starEach ps env))) (Ey G ρ N s st' vs) E s
theorem lr.nil:lr G rc nm sc n [] .nil:=fun {env A ρ N s lc st st' vs} pos E F I hA he=>by
 cases he;exact K.j8 ⟨ρ,bG.refl,I,ae.nil⟩
theorem lr.cons(h:SE G rc nm sc n p e)(hs:lr G rc nm sc n ps es)(iU:∀env,starEach (p::ps) env=(false,eval p env)::starEach ps env):lr G rc nm sc n (p::ps) (.cons e es):=
 fun {env A ρ N s lc st st' vs} pos E F I hA he=>by
 refine R.bE he R.ay fun x af h1 he=>?_
 refine R.bE he R.ay fun xs aU h2 he=>?_
 cases he;refine K.iP (K.ends (h E F I hA h1) fun xv aa ρ₁ aE aw aS=>K.fQ (hs pos E (F.bX aE) aw hA h2) fun vals ag ρ₂ bk aM br=>?_) (iU env);exact⟨ρ₂,aE.trans bk,aM,ae.cons (aS.mono bk.ext) br⟩
noncomputable def Es.count:Es→Nat
 |.nil=>0
 |.cons _ r=>r.count+1
theorem jB:∀{es:Es}{st st':St}{vs:List AV},cT tb rc lc es st=.ok vs st'→vs.length=es.count
 |.nil,_,_,_,h=>by cases h;rfl
 |.cons e r,st,st',vs,h=>by
  refine R.bE h R.ay fun x af h1 h=>?_
  refine R.bE h R.ay fun xs aU h2 h=>?_
  cases h;exact congrArg Nat.succ (jB h2)
theorem SE.tup(hs:lr G rc nm sc n ps es)(hz:es.count≤100):SE G rc nm sc n (.Tuple ps k pos) (.tup es):=fun {env A ρ N s lc st st' v} E F I hA he=>by
 refine R.bE he R.ay fun vs af h1 he=>?_
 cases he;refine K.tuple (K.fQ (hs pos E F I hA h1) fun vals aa ρ₁ aE aw aS=>?_);haveI hl:=aS.length;haveI hc:=jB h1;refine⟨by rw[sizeLine_eq];exact(cM 0x1000000071000102029200029640211009) hz hl hc,Ends.after aE (Ends.jG (t:=aa.toks) aw fun n1 n2 X=>?_)⟩;exact⟨_,vals,rfl,n1,n2,⟨_,Heap.get?_push_size _ rfl,rfl,0,rfl⟩,aS.mono X⟩
theorem SE.list(hs:lr G rc nm sc n ps es)(hz:es.count≤100):SE G rc nm sc n (.List ps pos) (.list es):=fun {env A ρ N s lc st st' v} E F I hA he=>by
 refine R.bE he R.ay fun vs af h1 he=>?_
 cases he;refine K.list (K.fQ (hs pos E F I hA h1) fun vals aa ρ₁ aE aw aS=>?_);haveI hl:=aS.length;haveI hc:=jB h1;refine⟨by rw[sizeLine_eq];exact(cM 0x1000000071000102029200029640211009) hz hl hc,Ends.after aE (Ends.jG (t:=aa.toks) aw fun n1 n2 X=>?_)⟩;exact⟨_,vals,rfl,n1,n2,⟨_,Heap.get?_push_size _ rfl,rfl,0,rfl⟩,aS.mono X⟩
theorem Ends.alloc{ρ N:List Addr}{s:Shared}{st:St}{x:ao}{o:Obj}{t:Nat}(I:Inv G ρ N st s.heap)(hf:o.isFreed=false)
  (r:Ext N s.heap ρ (s.heap.push o) (ρ++[s.heap.objs.size])→dJ G (s.heap.push o) (ρ++[s.heap.objs.size]) N st.length x o) :
  Ends G ρ N s (st++[x]) (.obj st.length) (.ref s.heap.objs.size) { s with heap:=s.heap.push o,toks:=t }:=by
 have k:∀b o',s.heap.get? b=some o'→(s.heap.push o).get? b=some o':=fun j j e=>Heap.get?_push_of_some _ e
 refine⟨ρ++[s.heap.objs.size],bG.alloc (aW _) k,I.alloc (aW _) (fun m=>?_) k (Heap.get?_push_size _ hf) r,⟨_,?_,rfl⟩⟩
 ·obtain⟨o',ho⟩:=I.lO _ m;rw[aW] at ho;cases ho
 ·rw[List.getElem?_append_right (by rw[I.len];exact Nat.le_refl _),I.len,Nat.sub_self];rfl
theorem SE.dw{pos:Pos}:SE G rc nm sc n (.List [] pos) .dw:=fun {env A ρ N s lc st st' v} E F I hA he=>by
 cases he;refine K.list (K.j8 ⟨Nat.zero_le _,?_⟩);exact Ends.alloc (t:=s.toks) I rfl fun X=>⟨[],0,⟨Option.none,rfl⟩,⟨#[],rfl⟩,rfl,ae.nil⟩
theorem SE.cz{pos:Pos}{k:Nat}(hk:k≤2):SE G rc nm sc n (.Dict [] [] pos) (.cz k):=fun {env A ρ N s lc st st' v} E F I hA he=>by
 cases he;refine K.of (wpAny_Dict_empty ?_)
 match k,hk with
 |0,_=>exact Ends.alloc (t:=s.toks) I rfl fun X=>⟨[],#[],0,rfl,fun j h=>by simp at h,.nil,by simp,rfl,ae.nil⟩
 |1,_=>exact Ends.alloc (t:=s.toks) I rfl fun X=>⟨[],#[],0,rfl,rfl,fun j h=>by simp at h,by simp,rfl,ae.nil⟩
 |2,_=>exact Ends.alloc (t:=s.toks) I rfl fun X=>⟨[],#[],0,rfl,fun j h=>by simp at h,.nil,by simp,rfl,ae.nil⟩
theorem foldl_rep(x:Value):∀(k:Nat)(acc:Array Value),(List.replicate k #[x]).foldl (·++·) acc=acc++(List.replicate k x).toArray
 |0,acc=>by simp
 |k+1,acc=>by
  rw[List.replicate_succ,List.foldl_cons,foldl_rep x k,List.replicate_succ];apply Array.toList_inj.mp;simp
theorem ig(r:av h ρ N x v):∀k,ae h ρ N (List.replicate k x) (List.replicate k v)
 |0=>ae.nil
 |k+1=>ae.cons r (ig r k)
set_option tactic.hygienic true in
theorem SE.kg{r:Expr}{pos p1 p2:Pos}{k:Nat}{e:Sv.E}(hr:SE G rc nm sc n r e):SE G rc nm sc n (.BinOp (.List [.Constant (.int 0) k p2] p1) .Mult r pos) (.kg e):=fun {env A ρ N s lc st st' v} E F I hA he=>by
 refine R.bE he R.ay fun x af h1 he=>?_
 refine K.binOp (K.of (wpAny_List (wpAny_items_cons (wpAny_Constant_int (wpAny_items_nil ⟨by simp[sizeLine_eq],?_⟩)))));have X1:bG s ρ ⟨s.heap.push { cls:=.type "list",data:=.seq [Value.int 0 s.toks].toArray },s.gens,s.drawn,s.toks+1,s.os⟩ ρ:=bG.push (s:=s) _ _;haveI I1:=I.push { cls:=.type "list",data:=.seq [Value.int 0 s.toks].toArray };refine K.ends (hr E (F.bX X1) I1 hA h1) fun xv ag ρ₂ bk aM br=>?_
 haveI Np:s.heap.objs.size∉ρ:=fun m=>by
  obtain⟨i,e⟩:=List.getElem?_of_mem m;obtain⟨o',ho,_⟩:=I.objs i _ _ e (List.getElem?_eq_getElem (I.lt e));rw[aW] at ho;cases ho
 have hL:=bk.keep s.heap.objs.size _ (Heap.get?_push_size (h:=s.heap) (o:={ cls:=.type "list",data:=.seq [Value.int 0 s.toks].toArray }) rfl) Np;cases x with
 |int i=>
  dsimp only at he;split at he
  ·rename_i hc
   cases he;obtain⟨t,rfl⟩:=br;haveI key:∀Q:Value→Shared→Prop,Q (.ref ag.heap.objs.size) { ag with heap:=ag.heap.push { cls:=.type "list",data:=.seq (List.replicate i.toNat (Value.int 0 s.toks)).toArray } }→wpAny (model G.prog G.w) A (binaryOp .Mult (.ref s.heap.objs.size) (.int i t)) Q E ag:=by
    intro Q hq;refine wpAny_binaryOp_repeat_ref (T:="list") (U:="int") (by decide) ⟨_,hL,rfl⟩ (fun s'=>typeIs_int s' i t) noFill_list_mul PySem.F.fills_int_mul PySem.F.slot_int_rmul repeat_list PySem.F.slot_int_index.lookup
     (call_meets PySem.F.slot_int_rmul (typeIs_int ag i t) PySem.F.entry_int_rmul (PySem.F.args_int_rmul_2 _ _) (int___rmul___int_list i t s.heap.objs.size [Value.int 0 s.toks].toArray 0)
      ⟨hL,rfl,⟨_,hL,rfl⟩,call_meets PySem.F.slot_list_mul ⟨_,hL,rfl⟩ PySem.F.entry_list_mul (PySem.F.args_list_mul_2 _ _)
       (AutoListH.list___mul___list_int_3 s.heap.objs.size [Value.int 0 s.toks].toArray 0 i t (by simp[Builtin.List.listFitsIndex];exact(fz 0x800000000000000010200400800000000000000010337271004200300002379) hc) (by simp;exact(fz 0xfffffffffffffff0f2003271004200300002379) hc) (by simp[Builtin.List.listTooLong,sizeLine];exact(fz 0x1000000072003271004200300002379) hc))
       ⟨hL,?_⟩⟩)
    haveI e1:(List.foldl (fun x1 x2=>x1++x2) #[] (List.replicate (if ([Value.int 0 s.toks].toArray).isEmpty=true then 0 else i.toNat) [Value.int 0 s.toks].toArray))=(List.replicate i.toNat (Value.int 0 s.toks)).toArray:=by
     rw[if_neg (by simp)]
     haveI:=foldl_rep (Value.int 0 s.toks) i.toNat #[]
     simpa using this
    rw[e1];exact hq
   refine K.of (key _ (Ends.after (X1.trans bk) (Ends.alloc (t:=ag.toks) aM rfl fun X=>⟨_,0,⟨Option.none,rfl⟩,⟨#[],rfl⟩,rfl,ig (x:=.int 0) ⟨_,rfl⟩ _⟩)))
  ·cases he
 |_=>cases he
end
end Sv
namespace Sv
open PySem PySem.W PyProof.Rows PySem.Calls PySem.Builtin PySem.Builtin.ObjectAttr PySem.Builtin.Getset_descriptor
section
variable {G:Ctx}{rc:RC}{nm:List Str}{sc:List (Str×NameKind)}{n:Nat}
theorem Inv.sG{ρ N:List Addr}{st:St}{h:Heap}(hS:cg G)(I:Inv G ρ N st h):G.K.In h:=hS.sG.keeps I.base
theorem rG(hS:cg G):findIn G.K (.ref G.B) "__getattribute__"=some (some (.builtin "object.__getattribute__"))∧findIn G.K (.ref G.B) "__getattr__"=some none:=plainGet_of hS.plain
structure lD(G:Ctx)(name:Str)(i:Nat):Prop where
 ex:∃p,findIn G.K (.ref G.B) name=some (some (.ref p))∧specialIn G.K (.ref p) "__get__"=some (some (.builtin "member_descriptor.__get__"))∧takesIn G.K (.ref p)=some true∧slotIn G.K p G.B=some i ∧
  takerIn G.K G.B name=some (some (.ref p))∧typeIn G.K (.ref p)=some (.type "member_descriptor")
 small:i<100
theorem rJ{ρ N:List Addr}{s:Shared}{st:St}{i:Nat}{sl:List (Option AV)}(I:Inv G ρ N st s.heap)(e:st[i]?=some (.inst sl)){v:Value}(r:av s.heap ρ N (.obj i) v) :
  ∃a ar dx od,ρ[i]?=some a∧v=.ref a∧InstAt s.heap a ⟨.ref G.B,some dx,.plain,ar⟩ G.B (some od)∧eX s.heap ρ N sl ar∧ρ[i+1]?=some dx∧s.heap.get? dx=some od∧sl.length≤100:=by
 obtain⟨a,o,h1,rfl,ho,ar,dx,rfl,h2,r,h4⟩:=I.obj e r;have dh:i+1<st.length:=I.lt h2;obtain⟨od,Gm,_⟩:=I.objs (i+1) dx _ h2 (List.getElem?_eq_getElem dh);exact⟨a,ar,dx,od,h1,rfl,⟨ho,rfl,rfl,Gm⟩,r,h2,Gm,h4⟩
theorem sC(hs:v.b7=false)(r:av h ρ N v x):handedIn x=true:=by
 cases v with
 |none=>obtain rfl:=r;rfl
 |bool b=>obtain rfl:=r;rfl
 |int i=>obtain⟨t,rfl⟩:=r;rfl
 |str i=>obtain⟨t,rfl⟩:=r;rfl
 |bytes i=>obtain⟨t,rfl⟩:=r;rfl
 |ba u=>cases hs
 |obj i=>obtain⟨a,_,rfl⟩:=r;rfl
 |tup l=>obtain⟨a,_,rfl,_⟩:=r;rfl
 |lst l=>obtain⟨a,_,rfl,_⟩:=r;rfl
 |aJ b=>obtain⟨a,rfl,_⟩:=r;rfl
set_option tactic.hygienic true in
theorem tG{st:St}{i:Nat}{x v:AV}{P:Prop}(e:ah st i x=some v)(k:∀j sl,x=.obj j→st[j]?=some (.inst sl)→sl[i]?=some (some v)→v.b7=false→P):P:=by
 unfold ah at e;split at e
 ·split at e
  ·rename_i j y sl iU
   split at e
   ·rename_i w hw
    split at e
    ·cases (e)
    ·rename_i yX
     cases (e);exact k j sl rfl iU hw (Bool.not_eq_true _▸yX)
   ·cases (e)
  ·cases (e)
 ·cases (e)
set_option tactic.hygienic true in
theorem rt{st st':St}{i:Nat}{x v:AV}{P:Prop}(e:ak st x i v=some st')(k:∀j sl,x=.obj j→st[j]?=some (.inst sl)→i<sl.length→st.set j (.inst (sl.set i (some v)))=st'→P):P:=by
 unfold ak at e;split at e
 ·split at e
  ·rename_i j y sl iU
   split at e
   ·rename_i dh
    exact k j sl rfl iU dh (cQ e)
   ·cases e
  ·cases e
 ·cases e
theorem o3{ρ N:List Addr}{s:Shared}{st:St}{A:Around}{E:Value→Shared→Prop}{x v:AV}{xv:Value}{name:Str}{i:Nat}{expr:Bool}(hS:cg G)(hi:lD G name i)(I:Inv G ρ N st s.heap)(hx:av s.heap ρ N x xv)
  (e:ah st i x=some v):wpAny (model G.prog G.w) A (getAttr xv name expr) (Ends G ρ N s st v) E s:=by
 refine tG e fun j sl e1 iU hw yX=>?_
 rw[e1] at hx;obtain⟨a,ar,dx,od,h1,r0,IA,r,_,_,_⟩:=rJ I iU hx;obtain⟨y,hy,ry⟩:=r.2 i _ hw;obtain⟨p,p1,p2,p3,p4,p5,p6⟩:=hi.ex;rw[r0];exact get_bind (I.sG hS) IA (rG hS).1 (findObj_data hS.cls p1 p2 p3) (rG hS).2
  (wpAny_call (slot_get (s:={ s with toks:=s.toks+1 }) (I.sG hS) IA p4 hy (handed_on (sC yX ry) (Ends.here I ry))))
theorem E8{prog:Program}{w:World}{A:Around}{E:Value→Shared→Prop}{s:Shared}{env:Env}{o:Expr}{name:Str}{pos:Pos}{Q:Value→Shared→Prop}(hb:∀env aH,attributeBase o name env aH=aH)
  (h:au (model prog w) A (eval o env) (fun v aa=>wpAny (model prog w) A (getAttr v name true) Q E aa) E s):au (model prog w) A (eval (.Attribute o name pos) env) Q E s:=by
 show au _ _ (do let v ←attributeBase o name env (eval o env);standAt pos.atName;let r ←holding [v] (getAttr v name true);letTemporaryGo o v r;pure r) _ _ _;rw[hb];exact K.seq h fun v aa az=>K.of (wpAny_bind (wpAny_standAt (wpAny_bind (wpAny_holding (wpAny_mono az (fun r ag bw=>wpAny_bind (wpAny_letTemporaryGo (wpAny_pure bw))) fun j j x=>x)))))
theorem SE.slot(hS:cg G)(hi:lD G name i)(ha:SE G rc nm sc n o a)(hb:∀env aH,attributeBase o name env aH=aH):SE G rc nm sc n (.Attribute o name pos) (.slot a i):=
 fun {env A ρ N s lc st st' v} E F I hA he=>by
 refine R.bE he R.ay fun x af h1 he=>?_
 obtain⟨rfl,h2⟩:=R.cq he;exact E8 hb (K.ends (ha E F I hA h1) fun xv aa ρ₁ aE aw aS=>wpAny_mono (o3 hS hi aw aS h2) (fun j j h=>h.after aE) fun j j x=>x)
theorem rK{A:Around}{K:Frag}{C x p:Addr}{i:Nat}{ox:Obj}{od:Option Obj}{v:Value}{R:Result→Shared→Prop}{s:Shared}(X:K.In s.heap)(I:InstAt s.heap x ox C od)(hp:slotIn K p C=some i)(hi:i<1000)
  (h:R (.ok (.ret .none)) { s with heap:=s.heap.update x fun o=>{ o with slots:=(o.slots++Array.replicate (i+1-o.slots.size) none).setIfInBounds i (some v) } }) :
  codeAny (model G.prog G.w) A (.call (.builtin "member_descriptor.__set__") ⟨[.ref p,.ref x,v],[]⟩) R s:=by
 obtain⟨n,tn,owner,behind,tb,d,sl,cd,ho,hc,hm,hb,rfl⟩:=slot_of X hp;obtain⟨hh,g,dr,t,os⟩:=s;have L0:=I.type (M:=model G.prog G.w);haveI L1:=looks_mroIn (M:=model G.prog G.w) X hm;haveI L2:Looks (model G.prog G.w) hh (Slots.slotNamesOf (.ref C)) cd.slotNames:=(looks_clsIn X hc).andThen .now;haveI hx:=I.at_;dsimp only at ho hx L0 L1;have f0:=looks_field (M:=model G.prog G.w) ho 0 (v:=.str n tn) rfl;haveI f1:=looks_field (M:=model G.prog G.w) ho 1 (v:=owner) rfl;haveI f3:=looks_field (M:=model G.prog G.w) ho 3 (v:=.builtin "proto.slot#set") rfl;haveI f4:=looks_field (M:=model G.prog G.w) ho 4 (v:=.int behind tb) rfl;haveI f5:Looks (model G.prog G.w) hh (descrItself (.ref p)) [.ref p]:=((Looks.ld (part:=none) ho).andThen .now).andThen (Looks.of_pure (by kernel_rfl));refine codeAny_call_builtin KF.slot_mset.plain KF.entry_mset (KF.slot_mset.check _ _ _ _ _ _ _ _ ⟨_,ho,rfl⟩ (KF.args_mset _ _ _) ?_);unfold Builtin.«member_descriptor.__set__» descrSet descrStoreThrough descrCheckInstance descrNameAndClass isInstance
 repeat lk
 refine⟨Code.quiet_builtin _ (by decide +kernel),codeAny_builtin KF.entry_slotset ?_⟩;unfold Builtin.«proto.slot#set» Slots.target
 repeat lk
 rw[if_neg hb];refine wpAny_pure (wpAny_bind ?_);unfold setSlotAt;dsimp only;rw[if_neg (by rw[sizeLine_eq];exact(BR 0x10a101100551000000071063e803110a1011005519) hi)];exact wpAny_updatePart hx (wpAny_pure h)
theorem xP(r:eX h ρ N sl ar)(hi:i<sl.length)(rv:av h ρ N v x) :
 eX h ρ N (sl.set i (some v)) ((ar++Array.replicate (i+1-ar.size) none).setIfInBounds i (some x)):=by
 obtain⟨r1,r2⟩:=r;refine⟨by simp;exact(cM 0x2000101110450040200009201019) hi r1,fun j w hw=>?_⟩
 by_cases hj:i=j
 ·subst hj
  rw[List.getElem?_set_self hi] at hw;cases (hw);refine⟨x,?_,rv⟩;rw[Array.getElem?_setIfInBounds_self_of_lt (by simp;exact aZ 0x1010110045104001)];rfl
 ·rw[List.getElem?_set_ne hj] at hw
  obtain⟨y,hy,ry⟩:=r2 j w hw;refine⟨y,?_,ry⟩;rw[Array.getElem?_setIfInBounds_ne hj];haveI dh:j<ar.size:=by
   cases q:ar[j]? with
   |none=>rw[q] at hy;cases (hy)
   |some z=>exact(Array.getElem?_eq_some_iff.mp q).1
  rw[Array.getElem?_append_left dh];exact hy
theorem pG{ρ N:List Addr}{s:Shared}{st st':St}{A:Around}{E:Value→Shared→Prop}{x v:AV}{xv val:Value}{name:Str}{i:Nat}{Q:Unit→Shared→Prop}(hS:cg G)(hi:lD G name i)(I:Inv G ρ N st s.heap)(hx:av s.heap ρ N x xv)
  (hv:av s.heap ρ N v val) (e:ak st x i v=some st') (hq:∀s',bG s ρ s' ρ→Inv G ρ N st' s'.heap→Q () s'):wpAny (model G.prog G.w) A (setAttr xv name val) Q E s:=by
 refine rt e fun j sl e1 iU dh e=>?_
 rw[e1] at hx;obtain⟨a,ar,dx,od,h1,r0,IA,r,h2,Gm,h4⟩:=rJ I iU hx;obtain⟨p,p1,p2,p3,p4,p5,p6⟩:=hi.ex;rw[r0];refine set_plain (I.sG hS) IA hS.sets (osa_descr (s:={ s with toks:=s.toks+1 }) KF.slot_mset (I.sG hS) IA hS.over p5 p6
  (rK (s:={ s with toks:=s.toks+1 }) (I.sG hS) IA p4 (Nat.lt_of_lt_of_le hi.small (by decide)) ?_))
 haveI hg:=Heap.get?_update_self (h:=s.heap) (fun o:Obj=>{ o with slots:=(o.slots++Array.replicate (i+1-o.slots.size) none).setIfInBounds i (some val) }) IA.at_ rfl;have hk:∀b o,s.heap.get? b=some o→b≠a→(s.heap.update a fun o:Obj=>{ o with slots:=(o.slots++Array.replicate (i+1-o.slots.size) none).setIfInBounds i (some val) }).get? b=some o:=
  fun b o e n=>by rw[(Heap.SameBut.update (h:=s.heap) (a:=a) ..).2 b n];exact e
 refine hq _ (bG.set (t:=s.toks+1) h1 hk) (e▸I.set h1 hk hg fun X=>?_);exact⟨_,dx,rfl,h2,xP (r.mono X) dh (hv.mono X),by simpa using h4⟩
end
end Sv
namespace Sv
open PySem PySem.W PyProof.Rows PySem.Calls PySem.Builtin
section
variable {G:Ctx}{rc:RC}{nm:List Str}{sc:List (Str×NameKind)}{n:Nat}
def zb(G:Ctx)(f:Addr):Prop:=∃o fd,G.h₀.get? f=some o∧o.data=.func fd
theorem K.sq{α:Type}{M:Model}{A:Around}{E:Value→Shared→Prop}{s:Shared}{c:Bool}{a b:Sem α}{Q:α→Shared→Prop}(hc:c=false)(h:au M A b Q E s):au M A (if c=true then a else b) Q E s:=by subst hc;exact h
theorem K.LJ{α:Type}{M:Model}{A:Around}{E:Value→Shared→Prop}{s:Shared}{c:Bool}{a b:Sem α}{Q:α→Shared→Prop}(hc:c=true)(h:au M A a Q E s):au M A (if c=true then a else b) Q E s:=by subst hc;exact h
theorem mK(hf:zb G f):∀h:Heap,(∀b o,G.h₀.get? b=some o→h.get? b=some o)→∃k,(k=Keeper.frame∨k=Keeper.machine∨k=Keeper.boundFrame)∧Looks M h (keeperOf (.ref f)) k:=fun h hk=>by
 obtain⟨⟨c,d,dt,sl⟩,fd,ho,hd⟩:=hf;dsimp only at hd;subst hd;exact⟨.frame,.inl rfl,(Looks.ld (part:=none) (hk _ _ ho)).andThen .now⟩
inductive bq:List Expr→Prop
 |nil:bq []
 |cons {p:Expr} {ps:List Expr}:(∀env,starEach (p::ps) env=(false,eval p env)::starEach ps env)→bq ps→bq (p::ps)
theorem bq.any(h:bq ps)(pos:Pos)(env:Env):(backTo pos (starEach ps env)).any (·.1)=false:=by
 induction h with
 |nil=>rfl
 |cons h1 _ ih=>rw[h1];show(false||_)=false;rw[Bool.false_or];exact ih
theorem pW{M:Model}{A:Around}{E:Value→Shared→Prop}{s:Shared}{pos:Pos}{f:Value}{first:List Value}{Q:Value→Shared→Prop}{P:Heap→Prop}{args:List (Bool×Sem Value)}{keywords:List (Option Str×Sem Value)}(FV:(args.any (·.1)||keywords.any (·.1.isNone))=false)
  (hk:∀h,P h→∃k,(k=Keeper.frame∨k=Keeper.machine∨k=Keeper.boundFrame)∧Looks M h (keeperOf f) k)
  (h:au M A (evalArgs f true args keywords) (fun a aa=>P aa.heap∧au M A (call f (first++a.pos) a.kw) Q E aa) E s):au M A (callWith pos f first args keywords) Q E s:=by
 unfold callWith;refine K.bind (K.holding (K.mono h (fun a aa az=>K.bind (K.standAt ?_)) fun j j x=>x));obtain⟨k,Cb,L⟩:=hk _ az.1;dsimp only;rw[FV];refine K.leaf (L.here (Q:=fun x s'=>x=k∧aa=s') ⟨rfl,rfl⟩) fun x s' hx=>?_
 obtain⟨rfl,rfl⟩:=hx;have tail:∀{t:Sem Value},au M A t Q E aa→au M A (t>>=fun r=>holding [r] point>>=fun j=>pure r) Q E aa:=
  fun ht=>K.seq ht fun r ag hr=>K.bind (K.holding (K.point (K.pure hr)))
 have marked (mk:Value):au M A (callMarked mk f (first++a.pos) a.kw) Q E aa:=by unfold callMarked;exact K.keep az.2
 rcases Cb with rfl|rfl|rfl<;>dsimp only<;>first|exact tail az.2|(split<;>first|exact tail az.2|exact tail (marked _))
theorem cD{M:Model}{A:Around}{E:Value→Shared→Prop}{s:Shared}{f:Value}{ps:List Expr}{pos:Pos}{env:Env}{Q:Args→Shared→Prop}(hp:bq ps)
  (h:au M A (spliced (backTo pos (starEach ps env))) (fun vs aa=>Q ⟨vs,[]⟩ aa) E s):au M A (evalArgs f true (backTo pos (starEach ps env)) []) Q E s:=by
 cases hp with
 |nil=>exact K.Di h
 |cons h1 _=>
  rw[h1] at h ⊢;exact K.args h
theorem zL{M:Model}{A:Around}{E:Value→Shared→Prop}{s:Shared}{env:Env}{pos:Pos}{f:Value}{first:List Value}{ps:List Expr}{Q:Value→Shared→Prop}(hk:∀h,∃k,(k=Keeper.frame∨k=Keeper.machine∨k=Keeper.boundFrame)∧Looks M h (keeperOf f) k)(hx:bq ps)
  (h:au M A (spliced (backTo pos (starEach ps env))) (fun vs aa=>au M A (call f (first++vs)) Q E aa) E s):au M A (callWith pos f first (backTo pos (starEach ps env)) []) Q E s:=
 pW (P:=fun j=>True) (by rw[hx.any];rfl) (fun h j=>hk h) (cD hx (K.mono h (fun vs aa az=>⟨trivial,az⟩) fun j j x=>x))
noncomputable def pU(G:Ctx)(h:Heap)(ρ N:List Addr)(f:Addr):Option (Nat×AV)→List (Str×Value)→Prop
 |none,l=>l=[]
 |some (i,v),l=>∃x val,l=[(x,val)]∧G.pn f i=some x∧av h ρ N v val
def dH(G:Ctx)(rc:RC)(n:Nat):Prop:=
 ∀{A:Around}{ρ N:List Addr}{s:Shared}{st st':St}{f:Addr}{args:List AV}{kw:Option (Nat×AV)}{v:AV}{vals:List Value}{kws:List (Str×Value)}{R:Result→Shared→Prop},G.tb.jZ f=false→Inv G ρ N st s.heap→eB G n A →
  ae s.heap ρ N args vals→pU G s.heap ρ N f kw kws→rc f args kw st=.ok v st'→(∀val s',Ends G ρ N s st' v val s'→R (.ok (.ret val)) s')→bz (model G.prog G.w) A (.call (.ref f) ⟨vals,kws⟩) R s
theorem dH.wp(dQ:dH G rc n){A:Around}{ρ N:List Addr}{s:Shared}{st st':St}{f:Addr}{args:List AV}{kw:Option (Nat×AV)}{v:AV}{vals:List Value}{kws:List (Str×Value)}(E:Value→Shared→Prop)(hc:G.tb.jZ f=false)(I:Inv G ρ N st s.heap)(hA:eB G n A)
  (hv:ae s.heap ρ N args vals) (hk:pU G s.heap ρ N f kw kws) (he:rc f args kw st=.ok v st'):au (model G.prog G.w) A (call (.ref f) vals kws) (Ends G ρ N s st' v) E s:=
 K.call (dQ hc I hA hv hk he fun j j h=>h)
theorem SE.aY{fn:Str}{p1 pos:Pos}{ps:List Expr}{es:Es}{f:Addr}(dQ:dH G rc n)(hc:G.tb.jZ f=false)(hf:zb G f)(Me:SE G rc nm sc n (.Name fn p1) (.lit (.ba (.ref f))))(hp:bq ps)(hs:lr G rc nm sc n ps es) :
  SE G rc nm sc n (.Call (.Name fn p1) ps [] pos) (.aY f es Option.none Option.none):=fun {env A ρ N s lc st st' v} E F I hA he=>qm he R.ay fun vs af h1 he=>by
 show au _ _ (do callWith pos (←eval (.Name fn p1) env) [] (backTo pos (starEach ps env)) []) _ _ _;refine K.bind (K.ends (Me E F I hA rfl) fun fv aa ρ₁ aE aw aS=>?_);rw[show fv=.ref f from aS];refine pW (by rw[hp.any];rfl) (mK hf) (cD hp (K.fQ (hs pos E (F.bX aE) aw hA h1) fun vals ag ρ₂ bk aM br=>⟨aM.base,?_⟩));exact K.mono (dQ.wp (kw:=Option.none) (kws:=[]) E hc aM hA.call br rfl he) (fun j j h=>h.after (aE.trans bk)) fun j j x=>x
theorem tv{prog:Program}{w:World}{A:Around}{E:Value→Shared→Prop}{s:Shared}{env:Env}{o:Expr}{name:Str}{cF pos:Pos}{args:List Expr}{kws:List Keyword}{Q:Value→Shared→Prop}(hb:∀env aH,attributeBase o name env aH=aH)(hl:(cF.endLine==pos.line)=true)
  (vb:methodCallForm (args.length+kws.length) (backTo pos (starEach args env)) (backToKw pos (keywordEach kws env))=true)
  (h:∀pl,au (model prog w) A (eval o env) (fun ov aa=>∃P:Value×List Value→Shared→Prop,wpAny (model prog w) A (getMethod ov name pl) P E aa ∧
   ∀fx ag,P fx ag→au (model prog w) A (callWith pos fx.1 fx.2 (backTo pos (starEach args env)) (backToKw pos (keywordEach kws env))) Q E ag) E s) :
  au (model prog w) A (eval (.Call (.Attribute o name cF) args kws pos) env) Q E s:=by
 show au _ _ (do
  let ov ←attributeBase o name env (eval o env)
  standAt cF.atName
  methodCall o name cF pos env ov (args.length+kws.length) (backTo pos (starEach args env)) (backToKw pos (keywordEach kws env))) Q E s
 rw[hb];refine K.bind (K.mono (h (do return (←importBound o env).getD true)) (fun ov aa ⟨P,az,bw⟩=>K.bind (K.standAt ?_)) fun j j x=>x);unfold methodCall;refine K.bind (K.holding ?_);unfold calleeOf;rw[vb,if_pos rfl];refine K.mono (K.of az) (fun fx ag hp=>?_) fun j j x=>x
 refine K.bind ?_;unfold methodCallPos;refine K.LJ (by rw[hl];rfl) ?_;exact K.pure (bw fx ag hp)
structure lz(G:Ctx)(name:Str)(f:Addr):Prop where
 find:findIn G.K (.ref G.B) name=some (some (.ref f))
 typ:typeIn G.K (.ref f)=some (.type "function")
 fn:zb G f
theorem gP{ρ N:List Addr}{s:Shared}{st:St}{A:Around}{E:Value→Shared→Prop}{j:Nat}{sl:List (Option AV)}{xv:Value}{name:Str}{f:Addr}{pl:Sem Bool}{Q:Value×List Value→Shared→Prop}(hS:cg G)(hm:lz G name f)(I:Inv G ρ N st s.heap)
  (h1:st[j]?=some (.inst sl)) (h2:st[j+1]?=some (.aj [])) (hx:av s.heap ρ N (.obj j) xv) (h:Q (.ref f,[xv]) s):wpAny (model G.prog G.w) A (getMethod xv name pl) Q E s:=by
 obtain⟨a,ar,dx,od,e1,rfl,IA,r,e2,Gm,_⟩:=rJ I h1 hx;obtain⟨o',mq,kvs,es,n,rfl,_,e5,_,e7,_⟩:=I.objs (j+1) dx _ e2 h2;rw[mq] at Gm;cases (Gm);haveI hk:kvs=[]:=by simpa using e7.symm
 subst hk;have DL:es.toList=[]:=by cases q:es.toList with|nil=>rfl|cons a b=>rw[q] at e5;cases (e5)
 refine method_fn (I.sG hS) IA (rG hS).1 (rG hS).2 hm.find hm.typ ?_ h
 show(lookIn name _).map _=_
 unfold lookIn;simp[DL]
theorem bq.all(h:bq ps)(pos:Pos)(env:Env):(backTo pos (starEach ps env)).all (fun a=>!a.1)=true:=by
 rw[List.all_eq_true];intro y hy
 haveI:=List.any_eq_false.mp (h.any pos env) y hy
 simpa using this
theorem q9(hp:bq ps)(hk:(backToKw pos (keywordEach kws env)).all (·.1.isSome)=true)(hlen:ps.length+kws.length+1<30) :
 methodCallForm (ps.length+kws.length) (backTo pos (starEach ps env)) (backToKw pos (keywordEach kws env))=true:=by
 unfold methodCallForm;rw[hp.all,hk,Bool.true_and,Bool.true_and];exact decide_eq_true (Nat.lt_of_le_of_lt (Nat.add_le_add_left (by split<;>decide) _) hlen)
theorem JL(hp:bq ps)(hlen:ps.length<30):methodCallForm (ps.length+0) (backTo pos (starEach ps env)) (backToKw pos (keywordEach [] env))=true:=by
 unfold methodCallForm;rw[hp.all];exact decide_eq_true hlen
theorem qf{o:Expr}{name:Str}{cF pos:Pos}{ps:List Expr}{a:Sv.E}{es:Es}{f:Addr}(hS:cg G)(hm:lz G name f)(hb:∀env aH,attributeBase o name env aH=aH)(hl:(cF.endLine==pos.line)=true)(hlen:ps.length<30)
  (ha:SE G rc nm sc n o a) (hp:bq ps) (hs:lr G rc nm sc n ps es) {env:Env} {A:Around} {ρ N:List Addr} {s:Shared} {lc:Lc} {st eo af:St} {j:Nat} {sl:List (Option AV)} {vs:List AV} {Q E:Value→Shared→Prop} (F:Fm nm sc env ρ N s.heap lc) (I:Inv G ρ N st s.heap) (hA:iZ G n A)
  (h0:aC G.tb rc lc a st=.ok (.obj j) eo) (q1:eo[j]?=some (.inst sl)) (q2:eo[j+1]?=some (.aj [])) (h1:cT G.tb rc lc es eo=.ok vs af)
  (k:∀vals ag ρ₂,bG s ρ ag ρ₂→Inv G ρ₂ N af ag.heap→ae ag.heap ρ₂ N (.obj j::vs) vals→au (model G.prog G.w) A (call (.ref f) vals []) Q E ag):au (model G.prog G.w) A (eval (.Call (.Attribute o name cF) ps [] pos) env) Q E s:=by
 refine tv hb hl (JL hp hlen) fun pl=>K.ends (ha E F I hA h0) fun ov aa ρ₁ aE aw aS=>⟨fun fx s'=>fx=(.ref f,[ov])∧s'=aa,gP hS hm aw q1 q2 aS ⟨rfl,rfl⟩,fun fx s' AM=>?_⟩
 rw[AM.1,AM.2];refine pW (by rw[hp.any];rfl) (mK hm.fn) (cD hp (K.fQ (hs pos E (F.bX aE) aw hA h1) fun vals ag ρ₂ bk aM br=>⟨aM.base,?_⟩));exact k _ _ _ (aE.trans bk) aM (ae.cons (aS.mono bk.ext) br)
theorem SE.aA(hS:cg G)(dQ:dH G rc n)(hc:G.tb.jZ f=false)(hm:lz G name f)(hb:∀env aH,attributeBase o name env aH=aH)(hl:(cF.endLine==pos.line)=true)(hlen:ps.length<30)
(ha:SE G rc nm sc n o a)(hp:bq ps)(hs:lr G rc nm sc n ps es):SE G rc nm sc n (.Call (.Attribute o name cF) ps [] pos) (.aA a f es Option.none Option.none):=fun {env A ρ N s lc st st' v} E F I hA he=>
 nW he R.ay fun j sl eo vs af h0 q1 q2 h1 he=>qf hS hm hb hl hlen ha hp hs F I hA h0 q1 q2 h1 fun vals ag ρ₂ bk aM br=>
  K.mono (dQ.wp (kw:=Option.none) (kws:=[]) E hc aM hA.call br rfl he) (fun z z h=>h.after bk) fun z z x=>x
theorem bG.grow(k:∀b o,s.heap.get? b=some o→h'.get? b=some o):bG s ρ { s with heap:=h',toks:=t } ρ:=
 ⟨List.prefix_refl _,fun j x=>.inl x,fun j j e j=>k _ _ e,rfl,rfl⟩
theorem Ends.grown{ρ N:List Addr}{s:Shared}{st:St}{v:AV}{val:Value}{h':Heap}{t:Nat}(I:Inv G ρ N st s.heap)(k:∀b o,s.heap.get? b=some o→h'.get? b=some o)(r:av h' ρ N v val):Ends G ρ N s st v val { s with heap:=h',toks:=t }:=
 ⟨ρ,bG.grow k,I.grow k,r⟩
theorem Inv.Gg{ρ N:List Addr}{st:St}{h h':Heap}{a b:Addr}{x y:ao}{o p:Obj}(I:Inv G ρ N st h)(ha:h.get? a=none)(hb:h.get? b=none)(cS:a≠b)(hN:a∉N)(hM:b∉N)
  (k:∀b o,h.get? b=some o→h'.get? b=some o) (ho:h'.get? a=some o) (hp:h'.get? b=some p) (r:Ext N h ρ h' (ρ++[a,b])→dJ G h' (ρ++[a,b]) N st.length x o∧dJ G h' (ρ++[a,b]) N (st.length+1) y p):Inv G (ρ++[a,b]) N (st++[x,y]) h':=
 I.zm (ρ₂:=[a,b]) (st₂:=[x,y]) (fun c m=>(List.mem_cons.mp m).elim (fun q=>by rw[q];exact⟨ha,hN⟩) fun m=>by rw[List.mem_singleton.mp m];exact⟨hb,hM⟩) (by simp[cS]) rfl k fun X i c z e1 e2=>by
  cases i with
  |zero=>cases e1;cases e2;exact⟨o,ho,(r X).1⟩
  |succ i=>cases i with
   |zero=>cases e1;cases e2;exact⟨p,hp,(r X).2⟩
   |succ i=>cases e1
def mE(G:Ctx)(name:Str)(i:Nat):Prop:=∀C v,G.tb.aQ C i=some v→∃mc val,readsIn G.K C mc=true∧findCls G.K (.ref C) mc name=some (.val val)∧handedIn val=true∧Hi v val
set_option tactic.hygienic true in
theorem SE.aQ(hS:cg G)(hi:mE G name i)(ha:SE G rc nm sc n o a)(hb:∀env aH,attributeBase o name env aH=aH):SE G rc nm sc n (.Attribute o name pos) (.aQ a i):=
 fun {env A ρ N s lc st st' v} E F I hA he=>by
 refine R.bE he R.ay fun x af h1 he=>?_
 split at he
 ·rename_i C
  obtain⟨rfl,h2⟩:=R.cq he;obtain⟨mc,val,q1,q2,q3,q4⟩:=hi C v h2;refine E8 hb (K.ends (ha E F I hA h1) fun xv aa ρ₁ aE aw aS=>?_);obtain rfl:xv=.ref C:=aS;exact cls_value (aw.sG hS) q1 q2 q3 (Ends.after aE (Ends.here aw (q4 _ _ _)))
 ·cases he
theorem wi{M:Model}{A:Around}{E:Value→Shared→Prop}{s:Shared}{env:Env}{pos:Pos}{T:String}{ps:List Expr}{Q:Value→Shared→Prop}(hx:bq ps)
  (h:au M A (spliced (backTo pos (starEach ps env))) (fun vs aa=>au M A (call (.type T) vs) Q E aa) E s):au M A (callWith pos (.type T) [] (backTo pos (starEach ps env)) []) Q E s:=
 zL (fun j=>⟨_,.inr (.inl rfl),Looks.of_pure rfl⟩) hx h
theorem SE.GR(hS:cg G)(dQ:dH G rc n)(hc:G.tb.jZ f=false)(hm:lz G name f)(hb:∀env aH,attributeBase o name env aH=aH)
(hl:(cF.endLine==pos.line)=true)(hlen:(p1::ps).length<28)(ur:G.pn f i=some x)
(ha:SE G rc nm sc n o a)(hp:bq (p1::ps))(hs:lr G rc nm sc n (p1::ps) es)(hk:SE G rc nm sc n ke k):SE G rc nm sc n (.Call (.Attribute o name cF) (p1::ps) [⟨some x,ke,kp⟩] pos) (.aA a f es Option.none (some (i,k))):=fun {env A ρ N s lc st st' v} E F I hA he=>
 nW he R.ay fun j sl eo vs af h0 q1 q2 h1 he=>R.bE he R.ay fun kv bf h3 he=>R.bE h3 R.ay fun y cI h4 h3=>by
 haveI QL:∀{Q:Args→Shared→Prop}{s:Shared},au (model G.prog G.w) A (spliced (backTo pos (starEach (p1::ps) env))) (fun vs aa=>au (model G.prog G.w) A (do let v ←eval ke env;standAt pos;pure v) (fun v ag=>Q ⟨vs,[(x,v)]⟩ ag) E aa) E s →
   au (model G.prog G.w) A (evalArgs (.ref f) true (backTo pos (starEach (p1::ps) env)) (backToKw pos (keywordEach [⟨some x,ke,kp⟩] env))) Q E s:=fun h=>by
  cases hp with
  |cons e _=>rw[e] at h ⊢;exact K.H4 h
 refine tv hb hl (q9 hp rfl (Nat.succ_lt_succ (Nat.succ_lt_succ hlen))) fun pl=>K.ends (ha E F I hA h0) fun ov aa ρ₁ aE aw aS=>⟨fun fx s'=>fx=(.ref f,[ov])∧s'=aa,gP hS hm aw q1 q2 aS ⟨rfl,rfl⟩,fun fx s' AM=>?_⟩
 rw[AM.1,AM.2];refine pW (by rw[hp.any];rfl) (mK hm.fn) (QL (K.fQ (hs pos E (F.bX aE) aw hA h1) fun vals ag ρ₂ bk aM br=>?_));refine K.bind (K.ends (hk E (F.bX (aE.trans bk)) aM hA h4) fun yv bh b4 eS dN hK=>K.bind (K.standAt (K.pure ⟨dN.base,?_⟩)));cases (h3);exact K.mono (dQ.wp (kw:=some (i,y)) (kws:=[(x,yv)]) E hc dN hA.call (ae.cons (aS.mono (bk.trans eS).ext) (br.mono eS.ext)) ⟨x,yv,rfl,ur,hK⟩ he) (fun z z h=>h.after ((aE.trans bk).trans eS)) fun z z x=>x
end
end Sv
namespace Sv
open PySem PySem.W PyProof.Rows PySem.Calls
section
variable {prog:Program}{w:World}{A:Around}{E:Value→Shared→Prop}{s:Shared}{K:Frag}{mc:Value}{name:Str}
theorem pS:Looks M h (typeOf (.type "int")) (.type "type"):=Looks.of_pure (by kernel_rfl)
theorem Dx(X:K.In s.heap)(ho:Looks (model prog w) s.heap (opaqueClassAbove c) none)(ht:Looks (model prog w) s.heap (typeOf c) mc)
(h1:findIn K mc name=some none)(h2:findIn K c name=some (some (.type "int")))(h3:findIn K (.type "type") "__get__"=some none)(h:Q (.done (.ret (.type "int"))) s) :
 wpAny (model prog w) A (Builtin.«type.__getattribute__» ⟨[c,.str name tk],[]⟩) Q E s:=by
 unfold Builtin.«type.__getattribute__»;refine wpAny_bind (wpAny_pure (wpAny_bind (ho.at (wpAny_bind (ht.at (wpAny_bind ((looks_findIn X h1).at (wpAny_bind (wpAny_pure (wpAny_bind ((looks_findIn X h2).at ?_)))))))))));dsimp only;rw[if_neg (show ¬Builtin.heldUnderItsOwnName name (.type "int")=true from Bool.false_ne_true)];refine wpAny_bind (pS.at ?_);rw[if_neg (by decide +kernel)];refine wpAny_bind ((Looks.andThen pS (looks_findIn X h3)).at ?_);dsimp only;rw[handedOut_of rfl];exact wpAny_bind (wpAny_pure (wpAny_pure h))
theorem D7{C:Addr}{expr:Bool}{Q:Value→Shared→Prop}(X:K.In s.heap)(hr:readsIn K C mc=true)(h1:findIn K mc name=some none)(h2:findIn K (.ref C) name=some (some (.type "int")))(h3:findIn K (.type "type") "__get__"=some none)
  (h:Q (.type "int") { s with toks:=s.toks+1 }):wpAny (model prog w) A (getAttr (.ref C) name expr) Q E s:=by
 simp only[readsIn,Bool.and_eq_true,beq_iff_eq] at hr;obtain⟨⟨⟨⟨r1,r2⟩,r3⟩,r4⟩,r5⟩:=hr;obtain⟨hk,r4⟩:=Option.isSome_iff_exists.mp r4;haveI ho:=looks_opaque (M:=model prog w) (C:=C) X r1;have ht:=looks_typeIn (M:=model prog w) X r2;haveI hb:=looks_hook (M:=model prog w) (mc:=mc) X r4;refine wpAny_bind (wpAny_mkText (wpAny_holding (wpAny_bind (ht _ _ _ _ (fun j j e=>e) (wpAny_bind (looks_findIn X r3 _ _ _ _ (fun j j e=>e) ?_))))));dsimp only;rw[show(onTheHeap mc&&Value.builtin "type.__getattribute__"==Value.builtin "object.__getattribute__")=false from by rw[show(Value.builtin "type.__getattribute__"==Value.builtin "object.__getattribute__")=false from by decide +kernel,Bool.and_false],if_neg (by decide)];refine wpAny_bind (hb _ _ _ _ (fun j j e=>e) (wpAny_bind (wpAny_attempt (wpAny_holding ?_))));unfold callGetattribute;rw[show(expr&&onTheHeap (Value.builtin "type.__getattribute__"))=false from Bool.and_false _,if_neg (by decide)];unfold boundAndCalled;rw[KF.slot_tga.bind];refine wpAny_bind (wpAny_pure ?_);show wpAny _ _ (call (.builtin "type.__getattribute__") [.ref C,.str name s.toks]) _ _ _;refine wpAny_call (codeAny_call_builtin KF.slot_tga.plain KF.entry_tga ?_);refine @check_slot (model prog w) _ _ { s with toks:=s.toks+1 } "type.__getattribute__" "type" "__getattribute__" (.ref C) [.str name s.toks] [] _ (by decide +kernel) (by decide +kernel) (ht.andThen (looks_subIn X r5)) (KF.args_tga (.ref C) (.str name s.toks)) ?_;refine Dx (s:={ s with toks:=s.toks+1 }) X ho ht h1 h2 h3 ?_;show wpAny _ _ (handedOut (.type "int")) _ _ _;rw[handedOut_of rfl];exact wpAny_pure h
end
end Sv
namespace Sv
open PySem PySem.W PyProof.Rows PySem.Calls PySem.Builtin
section
variable {G:Ctx}{rc:RC}{nm:List Str}{sc:List (Str×NameKind)}{n:Nat}
section
theorem ye(C:Addr)(rest:List Value):(Code.builtin "type.__call__" ⟨.ref C::rest,[]⟩).weight=1:=by kernel_rfl
theorem Bz(C:Addr)(rest:List Value):(Code.builtin "type.__call__" ⟨.ref C::rest,[]⟩).cUnits=1:=by kernel_rfl
theorem xI(C:Addr)(rest:List Value):(Code.builtin "type.__call__" ⟨.ref C::rest,[]⟩).guards=[]:=by kernel_rfl
theorem iZ.under(h:iZ G n A)(C:Addr)(rest:List Value):eB G n (A.under (.builtin "type.__call__" ⟨.ref C::rest,[]⟩)):=by
 refine⟨?_,?_,?_,h.handled⟩
 ·show A.depth+_+_≤_;rw[ye];haveI:=h.depth;exact(aZ 0x3840311030161011004403840312011103016004409) this
 ·show A.units+_+_≤_;rw[Bz];haveI:=h.units;exact(aZ 0x232804110140261011004402328041a0111014026004409) this
 ·show pushGuards (Code.builtin "type.__call__" ⟨.ref C::rest,[]⟩).guards A.guards=some [];rw[xI];exact h.guards
theorem K.look{α β:Type}{M:Model}{A:Around}{E:Value→Shared→Prop}{s:Shared}{m:Sem α}{f:α→Sem β}{r:α}{Q:β→Shared→Prop}(L:Looks M s.heap m r)(h:au M A (f r) Q E s):au M A (m>>=f) Q E s:=
 K.leaf (L.here (Q:=fun x s'=>x=r∧s=s') ⟨rfl,rfl⟩) fun x s' hx=>by obtain⟨rfl,rfl⟩:=hx;exact h
theorem tJ(hb:entryFor table i=some b)(a:Args):(model prog w).den (.builtin i a)=b a:=by
 show(match entryFor table i with|some b=>b a|Option.none=>unsupported ((withoutEnding? i "#data").getD i))=_
 rw[hb]
theorem K.builtin{prog:Program}{w:World}{A:Around}{s:Shared}{i:String}{b:Builtin}{a:Args}{R:Result→Shared→Prop}(hb:entryFor table i=some b)(hh:dm (.builtin i a)=false)
  (h:au (model prog w) (A.under (.builtin i a)) (b a) (fun fin s'=>match fin with|.done f=>R (.ok f) s'|.again c'=>c'.quiet=true∧bz (model prog w) A c' R s') (fun e s'=>R (.error e) s') s):bz (model prog w) A (.builtin i a) R s:=by
 refine K.ofTree hh ?_;rw[tJ hb];exact h
section
variable {prog:Program}{w:World}{A:Around}{C fI:Addr}{R:Result→Shared→Prop}{h:Heap}{g:Array GenState}{d:Drawn}{t:Nat}{os:OsState}
theorem IS(Y:Makes (model prog w) h C)(hi:Looks (model prog w) h (typeLookup (.ref C) "__init__") (some (.ref fI)))(hb:∀self,Looks (model prog w) h (bindSpecial (.ref fI) self) (.ref fI,[self]))
(hq:bz (model prog w) (A.under (.builtin "type.__call__" ⟨.ref C::rest,[]⟩)) (.call (.ref fI) ⟨.ref (h.objs.size+1)::rest,[]⟩) (InitBack (h.objs.size+1) R) ⟨(h.push emptyDict).push (instObj C h.objs.size),g,d,t,os⟩) :
 bz (model prog w) A (.call (.ref C) ⟨rest,[]⟩) R ⟨h,g,d,t,os⟩:=by
 haveI Y':=Y;obtain⟨⟨oc,od,cd,sl,hC,e1,e2,e4⟩,made,base,self,top,call,typ⟩:=Y;haveI first:∀A',wpAny (model prog w) A' (callAny (.ref C) ⟨rest,[]⟩) (fun fin s'=>fin=.again (.call (.builtin "type.__call__") ⟨.ref C::rest,[]⟩)∧s'=⟨h,g,d,t,os⟩) (fun e s'=>R (.error e) s') ⟨h,g,d,t,os⟩:=fun A'=>by
  refine nd_load hC ?_;show wpAny _ _ (callAny.viaDunder (.ref C) _) _ _ _;unfold callAny.viaDunder;refine wpAny_bind (call.at ?_);dsimp only;rw[tc_bind];exact wpAny_bind (wpAny_pure (wpAny_bind (wpAny_pure (wpAny_pure ⟨rfl,rfl⟩))))
 refine K.ofTree rfl (K.mono (K.of (first _)) (fun fin s' hf=>?_) fun j j x=>x);obtain⟨rfl,rfl⟩:=hf;refine⟨rfl,K.ofTree rfl ?_⟩;haveI second:∀A',wpAny (model prog w) A' (callAny (.builtin "type.__call__") ⟨.ref C::rest,[]⟩) (fun fin s'=>fin=.again (.builtin "type.__call__" ⟨.ref C::rest,[]⟩)∧s'=⟨h,g,d,t,os⟩) (fun e s'=>R (.error e) s') ⟨h,g,d,t,os⟩:=fun A'=>
  wpAny_bind (check_slot tc_kind tc_split typ (tc_args _ _ _) (wpAny_pure ⟨rfl,rfl⟩))
 refine K.mono (K.of (second _)) (fun fin s' hf=>?_) fun j j x=>x
 obtain⟨rfl,rfl⟩:=hf;refine⟨Code.quiet_builtin _ (by decide +kernel),K.builtin entry_typeCall (by show eJ.contains "type.__call__"=false;decide +kernel) ?_⟩;haveI hm:Looks (model prog w) h (mroOf (.ref C)) cd.mro:=((Looks.ld (part:=Option.none) hC).andThen .now).andThen .now;have k:∀b o,h.get? b=some o→((h.push emptyDict).push (instObj C h.objs.size)).get? b=some o:=fun b o e=>Heap.get?_push_of_some _ (Heap.get?_push_of_some _ e)
 haveI hx:((h.push emptyDict).push (instObj C h.objs.size)).get? (h.objs.size+1)=some (instObj C h.objs.size):=by
  haveI:=Heap.get?_push_size (h:=h.push emptyDict) (o:=instObj C h.objs.size) rfl
  rwa [Heap.size_push] at this
 have t1:Looks (model prog w) ((h.push emptyDict).push (instObj C h.objs.size)) (typeOf (.ref (h.objs.size+1))) (.ref C):=(Looks.ld hx).andThen .now;unfold Builtin.«type.__call__»;refine K.look hm ?_;refine K.sq e4 ?_;refine K.look made ?_;refine K.bind (K.pure ?_);haveI kK:∀A' E',wpAny (model prog w) A' (PySem.call (.builtin "object.__new__") (.ref C::rest) []) (fun v s'=>v=.ref (h.objs.size+1)∧s'=⟨(h.push emptyDict).push (instObj C h.objs.size),g,d,t,os⟩) E' ⟨h,g,d,t,os⟩:=
  fun A' E'=>wpAny_call (new_K Y' hi (.inl rfl) ⟨rfl,rfl⟩)
 refine K.bind (K.holding (K.mono (K.of (kK _ _)) (fun obj s' ho=>?_) fun j j x=>x));obtain⟨rfl,rfl⟩:=ho;refine K.look (t1.andThen (self.keeps k)) ?_;refine K.sq rfl ?_;refine K.bind (K.holding ?_);unfold callSpecial? specialOf;refine K.look (t1.andThen (hi.keeps k)) ?_;dsimp only;refine K.holding ?_;refine K.look ((hb (.ref (h.objs.size+1))).keeps k) ?_;refine K.bind (K.call (K.gu hq fun r s' z=>?_));rcases r with e|(v|_|_|_)<;>first|exact z|exact z.elim|skip
 obtain⟨rfl,z⟩:=z;exact K.pure (K.pure z)
end
structure vC(G:Ctx):Prop where
 keep:keepIn G.K (.ref G.B)=true
 makes:makesIn G.K G.B=true
 init:findIn G.K (.ref G.B) "__init__"=some (some (.ref G.tb.init))
 typ:typeIn G.K (.ref G.tb.init)=some (.type "function")
 small:G.tb.nV≤100
theorem SE.oU(hS:cg G)(hM:vC G)(dQ:dH G rc n)(RJ:G.tb.jZ G.tb.init=false)(hc:SE G rc nm sc n c (.lit (.ba (.ref G.B))))(fP:∀env,eval (.Call c ps [] pos) env=(do callWith pos (←eval c env) [] (backTo pos (starEach ps env)) []))
(hp:bq ps)(hs:lr G rc nm sc n ps es):SE G rc nm sc n (.Call c ps [] pos) (.oU es):=fun {env A ρ N s lc st st' v} E F I hA he=>by
 refine R.bE he R.ay fun vs af h1 he=>?_
 refine R.bE he R.ay fun r aU h2 he=>?_
 rw[fP];refine K.bind (K.ends (hc E F I hA rfl) fun fv aa ρ₁ aE aw aS=>?_);obtain rfl:fv=.ref G.B:=aS;refine pW (by rw[hp.any];rfl) (keeps_K hM.keep) (cD hp (K.fQ (hs pos E (F.bX aE) aw hA h1) fun vals ag ρ₂ bk aM br=>⟨aM.sG hS,?_⟩));cases r<;>try (cases (he);done)
 cases (he);obtain⟨hh,g,dr,tk,os⟩:=ag;have k:∀b o,hh.get? b=some o→((hh.push emptyDict).push (instObj G.B hh.objs.size)).get? b=some o:=fun b o e=>Heap.get?_push_of_some _ (Heap.get?_push_of_some _ e)
 haveI hx:((hh.push emptyDict).push (instObj G.B hh.objs.size)).get? (hh.objs.size+1)=some (instObj G.B hh.objs.size):=by
  haveI:=Heap.get?_push_size (h:=hh.push emptyDict) (o:=instObj G.B hh.objs.size) rfl
  rwa [Heap.size_push] at this
 haveI hd:((hh.push emptyDict).push (instObj G.B hh.objs.size)).get? hh.objs.size=some emptyDict:=Heap.get?_push_of_some _ (Heap.get?_push_size _ rfl);have n1:hh.get? (hh.objs.size+1)=Option.none:=by
  cases e:hh.get? (hh.objs.size+1) with
  |none=>rfl
  |some o=>exact absurd (Heap.lt_size e) (Nat.not_lt.mpr (Nat.le_succ _))
 have KD:∀a:Addr,hh.get? a=Option.none→a∉N:=fun a e m=>by obtain⟨o',ho⟩:=aM.lO _ m;rw[e] at ho;cases (ho)
 have X:bG ⟨hh,g,dr,tk,os⟩ ρ₂ ⟨(hh.push emptyDict).push (instObj G.B hh.objs.size),g,dr,tk,os⟩ (ρ₂++[hh.objs.size+1,hh.objs.size]):=⟨List.prefix_append _ _,fun c m=>by
  rcases List.mem_append.mp m with m|m
  ·exact .inl m
  ·simp only[List.mem_cons,List.not_mem_nil,or_false] at m
   rcases m with rfl|rfl
   ·exact .inr n1
   ·exact .inr (aW hh),fun b o e j=>k b o e,rfl,rfl⟩
 haveI I':Inv G (ρ₂++[hh.objs.size+1,hh.objs.size]) N (af++[.inst (List.replicate G.tb.nV Option.none),.aj []]) ((hh.push emptyDict).push (instObj G.B hh.objs.size)):=by
  refine aM.Gg n1 (aW hh) (Nat.succ_ne_self _) (KD _ n1) (KD _ (aW hh)) k hx hd fun X=>⟨⟨#[],hh.objs.size,rfl,?_,⟨Nat.zero_le _,fun i v e=>?_⟩,by rw[List.length_replicate];exact hM.small⟩,
   ⟨[],#[],0,rfl,fun j h=>by simp at h,.nil,by simp,rfl,ae.nil⟩⟩
  ·rw[List.getElem?_append_right (by rw[aM.len];exact aO 0x1011004000),aM.len,Nat.add_sub_cancel_left];rfl
  ·rw[List.getElem?_replicate] at e
   split at e<;>cases (e)
 have Et:(ρ₂++[hh.objs.size+1,hh.objs.size])[af.length]?=some (hh.objs.size+1):=by
  rw[List.getElem?_append_right (by rw[aM.len];exact Nat.le_refl _),aM.len,Nat.sub_self];rfl
 refine K.call (IS (makes_of (aM.sG hS) hM.makes) (looks_findIn (aM.sG hS) hM.init) (fun self=>bind_fn (aM.sG hS) self hM.typ) ?_);refine dQ (kw:=Option.none) (kws:=[]) RJ I' (hA.under G.B _) (ae.cons (x:=.obj af.length) ⟨_,Et,rfl⟩ (br.mono X.ext)) rfl h2 fun val bh hE=>?_
 obtain⟨b4,eS,dN,hK⟩:=hE;obtain rfl:val=.none:=hK;refine⟨rfl,b4,(aE.trans bk).trans (X.trans eS),dN,_,?_,rfl⟩;exact eU eS.pre Et
end
def cu(G:Ctx)(n:Nat)(callee:Value)(f:BF):Prop:=
 ∀{A:Around}{ρ N:List Addr}{s:Shared}{st st':St}{v:AV}{args:List AV}{vals:List Value}(E:Value→Shared→Prop),Inv G ρ N st s.heap→iZ G n A→ae s.heap ρ N args vals→bcall f args st=.ok v st' →
  au (model G.prog G.w) A (call callee vals) (Ends G ρ N s st' v) E s
theorem ED{M:Model}{A:Around}{E:Value→Shared→Prop}{s:Shared}{env:Env}{pos:Pos}{i:String}{ps:List Expr}{Q:Value→Shared→Prop}(hx:bq ps)
  (h:au M A (spliced (backTo pos (starEach ps env))) (fun vs aa=>au M A (call (.builtin i) vs) Q E aa) E s):au M A (callWith pos (.builtin i) [] (backTo pos (starEach ps env)) []) Q E s:=
 zL (fun j=>⟨_,.inr (.inl rfl),Looks.of_pure rfl⟩) hx h
theorem SE.HG{c:Expr}{ps:List Expr}{es:Es}{pos:Pos}{T:String}{f:BF}(hf:cu G n (.type T) f)(hc:SE G rc nm sc n c (.lit (.ba (.type T))))(fP:∀env,eval (.Call c ps [] pos) env=(do callWith pos (←eval c env) [] (backTo pos (starEach ps env)) []))
  (hp:bq ps) (hs:lr G rc nm sc n ps es):SE G rc nm sc n (.Call c ps [] pos) (.bcall f es):=fun {env A ρ N s lc st st' v} E F I hA he=>by
 refine R.bE he R.ay fun vs af h1 he=>?_
 rw[fP];refine K.bind (K.ends (hc E F I hA rfl) fun fv aa ρ₁ aE aw aS=>?_);obtain rfl:fv=.type T:=aS;refine wi hp (K.fQ (hs pos E (F.bX aE) aw hA h1) fun vals ag ρ₂ bk aM br=>?_);exact K.mono (hf E aM hA br he) (fun j j h=>h.after (aE.trans bk)) fun j j x=>x
theorem SE.G9(hf:cu G n (.builtin i) f)(hc:SE G rc nm sc n c (.lit (.ba (.builtin i))))(fP:∀env,eval (.Call c ps [] pos) env=(do callWith pos (←eval c env) [] (backTo pos (starEach ps env)) []))
(hp:bq ps)(hs:lr G rc nm sc n ps es):SE G rc nm sc n (.Call c ps [] pos) (.bcall f es):=fun {env A ρ N s lc st st' v} E F I hA he=>by
 refine R.bE he R.ay fun vs af h1 he=>?_
 rw[fP];refine K.bind (K.ends (hc E F I hA rfl) fun fv aa ρ₁ aE aw aS=>?_);obtain rfl:fv=.builtin i:=aS;refine ED hp (K.fQ (hs pos E (F.bX aE) aw hA h1) fun vals ag ρ₂ bk aM br=>?_);exact K.mono (hf E aM hA br he) (fun j j h=>h.after (aE.trans bk)) fun j j x=>x
theorem ib(r:ae h ρ N [x] vals):∃v,vals=[v]∧av h ρ N x v:=by
 unfold ae at r;obtain⟨v,r',rfl,e1,e2⟩:=r;unfold ae at e2;subst e2;exact⟨v,rfl,e1⟩
theorem AX(r:ae h ρ N [x,y] vals):∃v u,vals=[v,u]∧av h ρ N x v∧av h ρ N y u:=by
 unfold ae at r;obtain⟨v,r',rfl,e1,e2⟩:=r;obtain⟨u,rfl,e3⟩:=ib e2;exact⟨v,u,rfl,e1,e3⟩
theorem cu.one{callee:Value}{f:BF}{c:St→AV→R AV}(hb:∀st args,bcall f args st=Sv.one args (c st))
  (h:∀{A:Around}{ρ N:List Addr}{s:Shared}{st st':St}{v x:AV}{xv:Value}(E:Value→Shared→Prop),Inv G ρ N st s.heap→iZ G n A→av s.heap ρ N x xv→c st x=.ok v st'→au (model G.prog G.w) A (call callee [xv]) (Ends G ρ N s st' v) E s) :
  cu G n callee f:=fun {A ρ N s st st' v args vals} E I hA hv he=>by
 obtain⟨x,e1,hf⟩:=iD ((hb _ _).symm.trans he);rw[e1] at hv;obtain⟨xv,e2,hx⟩:=ib hv;rw[e2];exact h E I hA hx hf
theorem sY:Slot "bytearray" "__len__" "bytearray.__len__":=
 .of (owner:="bytearray") (n:="__len__") (by rw[typeLookup_type,builtinLookup_eq_fast];kernel_rfl) (by decide +kernel) (by decide +kernel) (by decide +kernel)
  (by first|exact .inl (by decide +kernel)|exact .inr (by decide +kernel)) (by rw[isSubtype_type];kernel_rfl)
theorem rI:entryFor table "bytearray.__len__"=some Builtin.«bytearray.__len__»:=by first|exact entryFor_of_tree (by kernel_rfl)|exact entryFor_of_fast (by kernel_rfl)
theorem tc(a:Value):argsOk "bytearray.__len__" ⟨[a],[]⟩:=by unfold argsOk;kernel_rfl
theorem FN{prog:Program}{w:World}{A:Around}{E:Value→Shared→Prop}{s:Shared}{a:Addr}{o:Obj}{b:List UInt8}{Q:Value→Shared→Prop}(ho:s.heap.get? a=some o)(hc:o.cls=.type "bytearray")(hd:o.data=.bytearray b.toArray 0)(hz:b.length≤1000000)
  (h:Q (.int b.length (s.toks+1)) { s with toks:=s.toks+1+1 }):wpAny (model prog w) A (call (.builtin "len") [.ref a]) Q E s:=by
 refine call_len_meets (n:=b.length) (S:=fun A R s'=>s'.heap=s.heap∧R (.ok (.ret (.int b.length s'.toks))) { s' with toks:=s'.toks+1 }) ⟨o,ho,hc⟩ sY rI (tc _) ?_ (by exact aO 0x200846) (by exact(aO 0x8800000000000000010236f42400510009) hz) (fun Q' hq=>⟨rfl,hq⟩) h;refine .of_wp fun prog w A R s' hS=>?_
 obtain⟨hh,h⟩:=hS;unfold Builtin.«bytearray.__len__»;refine wpAny_bind (wpAny_of_eq (a:=(Value.ref a,[])) rfl ?_);refine wpAny_bind (dB (by rw[hh];exact ho) hd ?_);refine wpAny_bind (wpAny_mkInt (wpAny_pure ⟨_,rfl,?_⟩));simpa using h
theorem qb{c:Prop}[Decidable c]{α:Type}{a:R α}{v:α}{st':St}(h:(if c then a else .stuck)=.ok v st'){P:Prop}(k:c→a=.ok v st'→P):P:=by
 by_cases q:c
 ·rw[if_pos q] at h;exact k q h
 ·rw[if_neg q] at h;cases h
theorem A6{st st':St}{x v:AV}(h:d7 st x=.ok v st'){P:Prop}(kb:∀b,x=.bytes b→b.length≤1000000→R.ok (.int b.length) st=.ok v st'→P)(kl:∀i l,x=.obj i→st[i]?=some (.list l)→l.length≤1000000→R.ok (.int l.length) st=.ok v st'→P)
  (kr:∀i b,x=.obj i→st[i]?=some (.aJ b)→b.length≤1000000→R.ok (.int b.length) st=.ok v st'→P) (kt:∀l,x=.lst l→l.length≤1000000→R.ok (.int l.length) st=.ok v st'→P):P:=by
 cases x with
 |bytes b=>exact qb h (kb b rfl)
 |lst l=>exact qb h (kt l rfl)
 |obj i=>
  have h:(match st[i]? with
   |some (.list l)=>if l.length≤1000000 then R.ok (.int l.length) st else .stuck
   |some (.aJ b)=>if b.length≤1000000 then R.ok (.int b.length) st else .stuck
   |_=>.stuck)=R.ok v st':=h
  revert h
  cases q:st[i]? with
  |none=>exact fun h=>by cases h
  |some o=>cases o with
   |list l=>exact fun h=>qb h (kl i l rfl q)
   |aJ b=>exact fun h=>qb h (kr i b rfl q)
   |_=>exact fun h=>by cases h
 |_=>cases h
theorem mA{k m:Nat}{A:Around}{ρ N:List Addr}{s:Shared}{st st':St}{v:AV}{t:Tok}(I:Inv G ρ N st s.heap)(e:R.ok (.int k) st=.ok v st')(h:m=k):Ends G ρ N s st' v (.int (m:Int) t) { s with toks:=s.toks+1+1 }:=by
 cases e;rw[h];exact Ends.here (t:=s.toks+1+1) I ⟨_,rfl⟩
theorem xi:cu G n (.builtin "len") .len:=cu.one (fun u v=>rfl) fun {A ρ N s st st' v x xv} E I hA hx hf=>K.of (A6 hf
  (fun b e hc q=>by
   rw[e] at hx;obtain⟨t,r0⟩:=hx;rw[r0];exact len_bytes (by simp;omega) (mA (A:=A) I q (by simp)))
  (fun i l e iU hc q=>by
   rw[e] at hx;obtain⟨a,o,h1,r0,ho,items,m,d,sl,r2,r⟩:=I.obj iU hx;rw[r0];exact call_len_list (items:=items.toArray) ⟨o,ho,by rw[r2],m,by rw[r2]⟩ (by simp[r.length];omega) (mA (A:=A) I q (by simp[r.length])))
  (fun i b e iU hc q=>by
   rw[e] at hx;obtain⟨a,o,h1,r0,ho,d,sl,r2⟩:=I.obj iU hx;rw[r0];exact FN ho (by rw[r2]) (by rw[r2]) (by omega) (mA (A:=A) I q rfl))
  (fun l e hc q=>by
   rw[e] at hx;obtain⟨a,items,r0,n1,n2,hl,r⟩:=hx;rw[r0];exact call_len_list hl (by simp[r.length];omega) (mA (A:=A) I q (by simp[r.length]))))
set_option tactic.hygienic true in
theorem gh:∀{l:List AV}{b:List UInt8}{vs:List Value},mC l=some b→ae h ρ N l vs→∃ns,IntsAre vs ns∧(∀k∈ns,0≤k∧k<256)∧byteArr ns=b.toArray
 |[],b,vs,e,r=>by
  unfold ae at r;subst r;cases e;exact⟨[],.nil,by simp,rfl⟩
 |x::l,b,vs,e,r=>by
  unfold ae at r;obtain⟨v,r',rfl,e1,e2⟩:=r;cases x with
  |int i=>
   unfold mC at e;split at e
   ·rename_i hi
    obtain⟨b',hb,rfl⟩:=Option.map_eq_some_iff.mp e;obtain⟨t,rfl⟩:=e1;obtain⟨ns,h1,h2,h3⟩:=gh hb e2;refine⟨i::ns,.cons i t h1,fun k m=>?_,?_⟩
    ·rcases List.mem_cons.mp m with rfl|m
     ·exact hi
     ·exact h2 k m
    ·unfold byteArr at h3 ⊢
     haveI Mv:=congrArg Array.toList h3;simp only at Mv;rw[List.map_cons,Mv]
   ·cases e
  |_=>cases e
theorem xx:cu G n (.builtin "chr") .chr:=cu.one (fun u v=>rfl) fun {A ρ N s st st' v x xv} E I hA hx he=>K.of (by
 cases x with
 |int i=>
  refine qb he fun hc he=>?_
  obtain⟨t,r0⟩:=hx;rw[r0];cases he;exact PySem.P.chr_of_int (by simp;exact(fz 0x10ffff0620030000237d80004200400002379) hc) (Ends.here I ⟨_,rfl⟩)
 |_=>exact nomatch he)
set_option tactic.hygienic true in
theorem yN:cu G n (.builtin "min") .min2:=fun {A ρ N s st st' v args vals} E I hA hv he=>by
 refine K.of ?_;obtain⟨x,y,rfl,hf⟩:=wj he;replace he:=hf;clear hf;obtain⟨xv,yv,rfl,hx,hy⟩:=AX hv;split at he
 ·rename_i a b
  cases he;obtain⟨t,rfl⟩:=hx;obtain⟨u,rfl⟩:=hy;refine min_two (I.Ca hA) fun h' tk k=>?_
  by_cases hc:b<a
  ·rw[if_pos hc,if_pos hc];exact Ends.grown I k ⟨_,rfl⟩
  ·rw[if_neg hc,if_neg hc];exact Ends.grown I k ⟨_,rfl⟩
 ·cases he
theorem te:cu G n (.type "tuple") .tuple:=cu.one (fun u v=>rfl) fun {A ρ N s st st' v x xv} E I hA hx he=>K.of (by
 cases x with
 |obj i=>
  have he:(match st[i]? with
   |some (.list l)=>if l.length≤1000000 then .ok (.tup l) st else .stuck
   |_=>.stuck)=R.ok v st':=he
  cases iU:st[i]? with
  |none=>rw[iU] at he;exact nomatch he
  |some o=>
   rw[iU] at he;cases o with
   |list l=>
    obtain⟨a,o,h1,r0,ho,items,m,d,sl,r2,r⟩:=I.obj iU hx;refine qb he fun hc he=>?_
    cases he;rw[r0];have hr:=r.length;refine call_tuple_list (items:=items.toArray) ⟨o,ho,by rw[r2],m,by rw[r2]⟩ (fun h' k=>?_) (by simp[sizeLine_eq];omega);have I':=I.grow k;exact(Ends.jG (s:={ s with heap:=h' }) (t:=s.toks) (o:={ cls:=.type "tuple",data:=.seq items.toArray }) (v:=.tup l) I' (fun n1 n2 X=>⟨_,items,rfl,n1,n2,⟨_,Heap.get?_push_size _ rfl,rfl,0,rfl⟩,(r.mono (bG.grow (t:=s.toks) k).ext).mono X⟩)).after (bG.grow (t:=s.toks) k)
   |_=>exact nomatch he
 |_=>exact nomatch he)
theorem sum_intList(hi:IntsAre vs ns):∃xs:Array (Int×Tok),vs.toArray=intItems xs∧preSum (numAt xs) xs.size=ns.sum∧xs.size=ns.length:=by
 obtain⟨xs,hx⟩:=hi.allInts.items;have e1:ns=xs.toList.map (·.1):=by
  rw[←nums_intItems,←hx];exact(show numsOf vs.toArray.toList=ns from hi.numsOf).symm
 refine⟨xs,hx,?_,?_⟩
 ·rw[preSum_eq,e1,List.take_of_length_le (by simp)]
 ·rw[e1];simp
theorem qe:∀{l:List AV}{ns:List Int}{vs:List Value},iC l=some ns→ae h ρ N l vs→IntsAre vs ns
 |[],ns,vs,e,r=>by unfold ae at r;subst r;cases e;exact .nil
 |x::l,ns,vs,e,r=>by
  unfold ae at r;obtain⟨v,r',rfl,e1,e2⟩:=r;cases x with
  |int i=>
   obtain⟨Qu,h1,rfl⟩:=Option.map_eq_some_iff.mp e;obtain⟨t,rfl⟩:=e1;exact .cons i t (qe h1 e2)
  |_=>cases e
theorem kE(b:List UInt8):∀k,preSum (fun i=>((b[i]?).map fun c=>(c.toNat:Int)).getD 0) k=((b.take k).map fun c=>(c.toNat:Int)).sum
 |0=>by simp[preSum]
 |k+1=>by
  rw[preSum,kE b k,List.take_add_one];cases e:b[k]?<;>simp[List.sum_append]
theorem yw(hx:G.exc=Option.none):cu G n (.builtin "sum") .u4:=cu.one (fun u v=>rfl) fun {A ρ N s st st' v x xv} E I hA hx he=>K.of (by
 cases x with
 |lst l=>
  obtain⟨e0,hw⟩:=R.cq he;obtain⟨ns,h1,e1⟩:=Option.map_eq_some_iff.mp hw;obtain⟨a,items,r0,n1,n2,hl,r⟩:=hx;obtain⟨xs,e3,e2,_⟩:=sum_intList (qe h1 r);rw[e3] at hl;rw[r0,e0,←e1];exact sum_intListG (hA.none ‹_›) hl fun h' tk t' k=>Ends.grown I k ⟨t',by rw[e2]⟩
 |bytes b=>
  cases he;obtain⟨t,r0⟩:=hx;rw[r0];refine call_sum_walkG (KBw.pyIter_bytes ?_);haveI W:=KBw.walks (prog:=G.prog) (w:=G.w) (A:=A.in1) (hA.none ‹_›) s.heap.objs.size b.toArray t;refine⟨s.heap.objs.size,_,_,_,_,_,fun i=>((b[i]?).map fun c=>(c.toNat:Int)).getD 0,rfl,W,⟨_,Heap.get?_push_size _ rfl,rfl,rfl⟩,?_,fun i v hv=>?_,fun h' tk t' hk=>?_⟩
  ·intro c hc
   obtain rfl:=List.mem_singleton.mp hc;exact Heap.lt_size (Heap.get?_push_size _ rfl)
  ·obtain⟨c,u,hc,rfl⟩:=hv
   exact⟨u,by simp at hc;simp[hc]⟩
  ·haveI:=Ends.grown (t:=tk) (h':=h') I (fun c o e=>hk c o (fun m=>absurd (Heap.lt_size e) (by rw[List.mem_singleton.mp m];exact Nat.lt_irrefl _)) (Heap.get?_push_of_some _ e)) (v:=.int (b.map fun c=>(c.toNat:Int)).sum) (val:=.int (preSum (fun i=>((b[i]?).map fun c=>(c.toNat:Int)).getD 0) b.toArray.size) t') ⟨t',by rw[kE];simp⟩
   exact this
 |_=>exact nomatch he)
end
section
variable {G:Ctx}{n:Nat}
section
section
variable {prog:Program}{w:World}{A:Around}{E:Value→Shared→Prop}{s:Shared}
theorem rd:typeLookup (.type "int") "__bytes__"=pure none:=by rw[typeLookup_type,builtinLookup_eq_fast];kernel_rfl
theorem sD:typeLookup (.type "bytearray") "__bytes__"=pure none:=by rw[typeLookup_type,builtinLookup_eq_fast];kernel_rfl
theorem sS:typeLookup (.type "bytearray") "__index__"=pure none:=by rw[typeLookup_type,builtinLookup_eq_fast];kernel_rfl
theorem i7:typeLookup (.type "bytearray") "__buffer__"=pure (some (.builtin "bytearray.__buffer__")):=by rw[typeLookup_type,builtinLookup_eq_fast];kernel_rfl
theorem u6:typeLookup (.type "bytearray") "__release_buffer__"=pure (some (.builtin "bytearray.__release_buffer__")):=by rw[typeLookup_type,builtinLookup_eq_fast];kernel_rfl
theorem n9:isSubtype (.type "bytearray") (.type "bytearray")=pure true:=by rw[isSubtype_type];kernel_rfl
theorem rA{M:Model}{v:Value}{T name i:String}{Q:Bool→Shared→Prop}(hT:s.TypeIs v T)(hl:typeLookup (.type T) (Str.ofString name)=pure (some (.builtin i)))(he:i.endsWith ("."++name)=true)(hd:i.dropRight (name.length+1)=T)(hs:isSubtype (.type T) (.type T)=pure true)(h:Q true s) :
  wpAny M A (Bytes.slotIsOwn v name) Q E s:=by
 unfold Bytes.slotIsOwn;refine wpAny_bind (wpAny_specialOf hT hl ?_);refine PySem.bm_if_false (by rw[he];rfl) ?_;rw[hd];exact wpAny_isInstance hT hs h
theorem fU{M:Model}{a:Addr}{o:Obj}{Q:Bool→Shared→Prop}(ho:s.heap.get? a=some o)(hc:o.cls=.type "bytearray")(h:Q false s):wpAny M A (Bytes.ownRelease (.ref a)) Q E s:=by
 unfold Bytes.ownRelease;exact wpAny_bind (rA (T:="bytearray") ⟨o,ho,hc⟩ u6 (by decide +kernel) (by decide +kernel) n9 (wpAny_pure h))
theorem xB{M:Model}{id:String}{a:Addr}{o:Obj}{b:Array UInt8}{Q:Option (Array UInt8)→Shared→Prop}(ho:s.heap.get? a=some o)(hc:o.cls=.type "bytearray")(hd:o.data=.bytearray b 0)(h:Q (some b) s):wpAny M A (Bytes.buffer? id (.ref a) true) Q E s:=by
 unfold Bytes.buffer?;haveI hT:s.TypeIs (.ref a) "bytearray":=⟨o,ho,hc⟩;refine wpAny_bind (wpAny_specialOf hT i7 ?_);refine wpAny_bind (rA hT i7 (by decide +kernel) (by decide +kernel) n9 ?_);refine PySem.bm_if_false rfl ?_;refine wpAny_bind (wpAny_specialOf hT i7 ?_);refine wpAny_bind (fU ho hc ?_);refine PySem.bm_if_false rfl ?_;exact wpAny_bind (dB ho hd (wpAny_pure h))
theorem iy(h:∀R:Result→Shared→Prop,(∀v s',s'.TypeIs v "bytes"→Q v s'→R (.ok (.ret v)) s') →
 wpAny (model prog w) A.in1.in1 (Builtin.«bytes.__new__» ⟨[.type "bytes",x],[]⟩) (fun fin s'=>∃v,fin=.done (.ret v)∧R (.ok (.ret v)) s') (fun e s'=>R (.error e) s') s) :
 wpAny (model prog w) A (call (.type "bytes") [x]) Q E s:=by
 refine callType_codes (Q₁:=fun obj aa=>aa.TypeIs obj "bytes"∧Q obj aa) PySem.F.bm_called (PySem.F.bm_typeCall _) PySem.F.entry_object_init ?_ fun obj aa az=>?_
 ·refine codeAny_of_tree ?_
  show wpAny _ A.in1.in1 (do checkBuiltinCall "bytes.__new__" ⟨[.type "bytes",x],[]⟩;again (.builtin "bytes.__new__" ⟨[.type "bytes",x],[]⟩)) _ _ s;refine wpAny_bind (wpAny_of_eq (PySem.F.bm_newCall _) (wpAny_pure ⟨plainId_quiet PySem.F.bm_plain _,codeAny_builtin PySem.F.bm_entry ?_⟩));rw[Around.under_plainId PySem.F.bm_plain _];refine wpAny_mono (h (wants (fun obj aa=>aa.TypeIs obj "bytes"∧Q obj aa) E) fun v s' a b=>⟨a,b⟩) (fun fin s' ⟨v,e,hv⟩=>?_) fun j j x=>x
  subst e;exact hv
 ·exact⟨az.1,PySem.F.args_object_init_2 obj _,object_init_meets PySem.F.bm_called.init.lookup PySem.F.bm_called.made (by decide) prog w A.in1 _ aa ⟨az.1,rfl,az.2⟩⟩
theorem og(h0:0≤k)(h1:k≤1000000)(h:∀t' tk,Q (.bytes (Array.replicate k.toNat 0) t') { s with toks:=tk }):wpAny (model prog w) A (call (.type "bytes") [.int k t]) Q E s:=by
 refine iy fun R hR=>?_
 unfold Builtin.«bytes.__new__»;refine wpAny_bind (wpAny_of_eq (a:=true) rfl ?_);refine PySem.bm_if_false rfl ?_;refine wpAny_bind (wpAny_of_eq PySem.F.bm_sub ?_);refine PySem.bm_if_false rfl ?_;refine wpAny_bind (wpAny_of_eq (PySem.F.bm_bind _) ?_);refine wpAny_bind (wpAny_of_eq (a:=()) rfl ?_);refine wpAny_bind (wpAny_of_eq (a:=()) rfl ?_);refine PySem.bm_if_false rfl ?_;refine wpAny_bind (wpAny_specialOf (typeIs_int s k t) rd ?_);refine wpAny_bind (wpAny_of_eq (a:=false) rfl ?_);refine PySem.bm_if_false rfl ?_;refine wpAny_bind (wpAny_specialOf (typeIs_int s k t) PySem.F.slot_int_index.lookup ?_);refine PySem.bm_if_false rfl ?_;refine wpAny_bind (wpAny_attempt (wpAny_of_eq (a:=k) rfl ?_));dsimp only;refine PySem.bm_if_false (by simp[Bytes.fitsIndex];exact(fz 0x800000000000000010200400800000000000000010337f424005200390000239) h0 h1) ?_;rw[if_neg (show ¬k<0 by exact(fz 0x200460000239) h0),if_neg (show ¬k>2^63-34 by exact(fz 0x220228000000000000000102546f42400520039) h1)];refine PySem.bm_if_false (by simp[Bytes.tooLong,sizeLine_eq];exact(fz 0x1000000072003f42400520039) h1) ?_;refine wpAny_bind (wpAny_rule ?_);refine wpAny_bind (wpAny_mkBytes ?_ (by simp[sizeLine_eq];exact(fz 0x1000000072003f42400520039) h1));show wpAny _ _ (if (Value.type "bytes"==Value.type "bytes")=true then _ else _) _ _ _;refine PySem.bm_if_true (by decide) ?_
 first
  |exact wpAny_pure ⟨_,rfl,hR _ _ (typeIs_bytes _ _ _) (h _ _)⟩
  |exact wpAny_bind (wpAny_pure (wpAny_pure ⟨_,rfl,hR _ _ (typeIs_bytes _ _ _) (h _ _)⟩))
theorem pb{a:Addr}{o:Obj}{b:List UInt8}{Q:Value→Shared→Prop}(ho:s.heap.get? a=some o)(hc:o.cls=.type "bytearray")(hd:o.data=.bytearray b.toArray 0)(hz:b.length≤1000000)(h:∀t' tk,Q (.bytes b.toArray t') { s with toks:=tk }) :
  wpAny (model prog w) A (call (.type "bytes") [.ref a]) Q E s:=by
 have hT:s.TypeIs (.ref a) "bytearray":=⟨o,ho,hc⟩;refine iy fun R hR=>?_
 unfold Builtin.«bytes.__new__»;refine wpAny_bind (wpAny_of_eq (a:=true) rfl ?_);refine PySem.bm_if_false rfl ?_;refine wpAny_bind (wpAny_of_eq PySem.F.bm_sub ?_);refine PySem.bm_if_false rfl ?_;refine wpAny_bind (wpAny_of_eq (PySem.F.bm_bind _) ?_);refine wpAny_bind (wpAny_of_eq (a:=()) rfl ?_);refine wpAny_bind (wpAny_of_eq (a:=()) rfl ?_);refine PySem.bm_if_false rfl ?_;refine wpAny_bind (wpAny_specialOf hT sD ?_);refine wpAny_bind (wpAny_bind ?_);show wpAny _ _ (load a>>=_) _ _ _;refine wpAny_bind (wpAny_load ho ?_);rw[hd];refine wpAny_pure (wpAny_pure ?_);refine PySem.bm_if_false rfl ?_;refine wpAny_bind (wpAny_specialOf hT sS ?_);refine PySem.bm_if_true rfl ?_
 first
  |show wpAny _ _ (Bytes.buffer? "bytes.__new__" (.ref a) true>>=_) _ _ _
  |(refine wpAny_bind ?_;show wpAny _ _ (Bytes.buffer? "bytes.__new__" (.ref a) true>>=_) _ _ _)
 refine wpAny_bind (xB ho hc hd ?_);dsimp only;refine wpAny_bind (wpAny_rule ?_);refine wpAny_bind (wpAny_mkBytes ?_ (by simp[sizeLine_eq];exact(aO 0x1000000071000f42400510009) hz));show wpAny _ _ (if (Value.type "bytes"==Value.type "bytes")=true then _ else _) _ _ _;refine PySem.bm_if_true (by decide) ?_
 first
  |exact wpAny_pure ⟨_,rfl,hR _ _ (typeIs_bytes _ _ _) (h _ _)⟩
  |exact wpAny_bind (wpAny_pure (wpAny_pure ⟨_,rfl,hR _ _ (typeIs_bytes _ _ _) (h _ _)⟩))
end
set_option tactic.hygienic true in
theorem tm(JK:G.exc=Option.none):cu G n (.type "bytes") .bytes:=fun {A ρ N s st st' v args vals} E I hA hv he=>by
 refine K.of ?_;obtain⟨x,rfl,hf⟩:=iD (show one args (u2 st)=_ from he);replace he:=hf;clear hf;obtain⟨xv,rfl,hx⟩:=ib hv;unfold u2 at he;split at he
 ·obtain⟨t,rfl⟩:=hx
  split at he
  ·rename_i k hc
   cases he;refine og hc.1 (by exact(fz 0xf4240052003271004200300002379) hc) fun t' tk=>Ends.here I ⟨t',by simp⟩
  ·cases he
 ·rename_i l
  split at he
  ·obtain⟨rfl,hw⟩:=R.cq he
   obtain⟨b,h1,rfl⟩:=Option.map_eq_some_iff.mp hw;obtain⟨a,items,rfl,n1,n2,hl,r⟩:=hx;obtain⟨ns,e1,e2,e3⟩:=gh h1 r
   haveI:=r.length
   exact call_bytes_ints hl e1 e2 (by rw[sizeLine_eq];omega) (hA.none JK) fun h' t k hk=>Ends.grown I hk ⟨t,by rw[e3]⟩
  ·cases he
 ·rename_i b
  split at he
  ·cases he
   obtain⟨a,rfl,n1,n2,d,sl,ho⟩:=hx;exact pb ho rfl rfl (by omega) fun t' tk=>Ends.here I ⟨t',rfl⟩
  ·cases he
 ·cases he
end
section
theorem zf:mroOf (.type "bytearray")=pure [.type "bytearray",.type "object"]:=by rw[mroOf_type];kernel_rfl
theorem pF:typeLookup (.type "bytearray") "__new__"=pure (some (.builtin "bytearray.__new__")):=by rw[typeLookup_type,builtinLookup_eq_fast];kernel_rfl
theorem Cf:Bind.madeBy (.type "bytearray")=pure (some "bytearray.__new__"):=madeBy_type zf pF (by decide +kernel)
theorem sF(a:Value):checkTypeCall "bytearray" ⟨[a],[]⟩=pure ():=by kernel_rfl
theorem ux(a:Value):checkBuiltinCall "bytearray.__new__" ⟨[.type "bytearray",a],[]⟩=pure ():=by kernel_rfl
theorem qZ:entryFor table "bytearray.__new__"=some Builtin.«list.__new__»:=
 entryFor_alias (id':="list.__new__") (by kernel_rfl) (by first|rfl|decide +kernel) (by decide +kernel) (by kernel_rfl)
theorem pe:entryFor table "bytearray.__init__"=some Builtin.«bytearray.__init__»:=by first|exact entryFor_of_tree (by kernel_rfl)|exact entryFor_of_fast (by kernel_rfl)
theorem gE:Slot "bytearray" "__init__" "bytearray.__init__":=
 .of (owner:="bytearray") (n:="__init__") (by rw[typeLookup_type,builtinLookup_eq_fast];kernel_rfl) (by decide +kernel) (by decide +kernel) (by decide +kernel)
  (by first|exact .inl (by decide +kernel)|exact .inr (by decide +kernel)) (by rw[isSubtype_type];kernel_rfl)
theorem rZ(a b:Value):argsOk "bytearray.__init__" ⟨[a,b],[]⟩:=by unfold argsOk;kernel_rfl
theorem j9:plainId "bytearray.__new__"=true:=by decide +kernel
theorem o8:plainId "bytearray.__init__"=true:=by decide +kernel
theorem Ao:("bytearray.__new__".splitOn ".__new__").headD ""="bytearray":=by rw[PySem.W.split_bytearray];rfl
section
variable {prog:Program}{w:World}{A:Around}{E:Value→Shared→Prop}{s:Shared}
theorem Gp(a:Value)(h:Q (.ref s.heap.objs.size) { s with heap:=s.heap.push { cls:=.type "bytearray",data:=.bytearray #[] } }) :
 wpAny (model prog w) A (call (.builtin "bytearray.__new__") [.type "bytearray",a]) Q E s:=by
 refine wpAny_call (codeAny_of_tree ?_);show wpAny _ A.in1 (do checkBuiltinCall "bytearray.__new__" ⟨[.type "bytearray",a],[]⟩;again (.builtin "bytearray.__new__" ⟨[.type "bytearray",a],[]⟩)) _ _ s;refine wpAny_bind (wpAny_of_eq (ux a) (wpAny_pure ⟨plainId_quiet j9 _,codeAny_builtin_stack qZ rfl fun p st=>?_⟩));rw[Around.under_plainId j9 _];haveI ub:=n9;haveI lu:=Ao;obtain⟨hp,g,d,tk,os⟩:=s;show wpAny _ _ (_>>=_) _ _ _;dsimp only;rw[lu];refine wpAny_bind (wpAny_of_eq (a:=true) rfl ?_);refine PySem.bm_if_false rfl ?_;refine wpAny_bind (wpAny_of_eq ub ?_);refine PySem.bm_if_false rfl ?_;refine wpAny_bind (wpAny_of_eq (a:=Data.bytearray #[] 0) rfl ?_);refine PySem.bm_if_true (by decide +kernel) ?_
 first
  |exact wpAny_bind (wpAny_newObj_type (wpAny_pure h) (Nat.zero_le _))
  |exact wpAny_bind (wpAny_bind (wpAny_newObj_type (wpAny_pure (wpAny_pure h)) (Nat.zero_le _)))
  |exact wpAny_bind (wpAny_newObj_type (wpAny_bind (wpAny_pure (wpAny_pure h))) (Nat.zero_le _))
theorem wR(v:Value):Bytes.bindOptional "bytearray.__init__" "bytearray" ["source","encoding","errors"] [v] []=pure [some v,Option.none,Option.none]:=by kernel_rfl
theorem xp(h:dm (.builtin i a)=false):Bytes.decodersThatHold.contains i=false:=by
 cases q:Bytes.decodersThatHold.contains i with
 |false=>rfl
 |true=>
  have m:eJ.contains i=true:=List.contains_iff_mem.mpr (List.mem_append_left _ (List.contains_iff_mem.mp q));rw[show eJ.contains i=false from h] at m;cases m
theorem K.exported(h:Q false s):au M A (Bytes.exported (.ref a)) Q E s:=fun Γ p kL h1 h2=>by
 show Q (List.any ((Γ.code,p)::Γ.below) _) s;rw[List.any_eq_false.mpr ?_]
 ·exact h
 ·intro x hx
  haveI hc:dm x.1=false:=gT.cons (p:=p) h1 h2 x hx;rw[Bool.not_eq_true];obtain⟨c,p'⟩:=x;cases c with
  |builtin id ar=>
   obtain⟨pos,kw⟩:=ar;have ne:∀t,eJ.contains t=true→id≠t:=fun t ht e=>by
    rw[e] at hc;rw[show eJ.contains t=false from hc] at ht;cases ht
   haveI e1:=ne "bytearray.__contains__" (by decide +kernel);haveI e2:=ne "bytearray.__mod__" (by decide +kernel);haveI e3:=ne "bytearray.__rmod__" (by decide +kernel);haveI e4:=ne "_struct.pack_into.held" (by decide +kernel);haveI e5:=ne "bytearray.find.held" (by decide +kernel)
   delta Bytes.exported.match_1 Bytes.exported._sparseCasesOn_1
   refine Eq.trans (dif_neg e1) ?_;refine Eq.trans (dif_neg e2) ?_;refine Eq.trans (dif_neg e3) ?_;refine Eq.trans (dif_neg e4) ?_;refine Eq.trans (dif_neg e5) ?_;cases pos with
   |nil=>rfl
   |cons v r=>exact(congrArg (_&&·) (xp hc)).trans (Bool.and_false _)
  |_=>rfl
theorem Bb(ho:s.heap.get? a=some ⟨.type "bytearray",d,.bytearray b n,sl⟩)(hz:(g b).size≤sizeLine)
(h:∀h',(∀c o,s.heap.get? c=some o→c≠a→h'.get? c=some o)→h'.get? a=some ⟨.type "bytearray",d,.bytearray (g b) n,sl⟩→Q () { s with heap:=h' }):wpAny (model prog w) A (updateBytearray a g) Q E s:=by
 unfold updateBytearray;refine wpAny_bind (wpAny_load ho ?_);show wpAny _ _ (update a _>>=fun j=>lookBehind a) _ _ _;refine wpAny_bind (wpAny_update ho ?_);have h1:(s.heap.update a (Obj.mapBytearray g)).get? a=some ⟨.type "bytearray",d,.bytearray (g b) n,sl⟩:=Heap.get?_update_self (Obj.mapBytearray g) ho rfl;exact wpAny_lookBehind h1 (if_neg (Nat.not_lt.mpr hz)) (h _ (fun c o e ne=>(Heap.get?_update_other _ _ (Ne.symm ne)).trans e) h1)
theorem CG(ho:s.heap.get? a=some { cls:=.type "bytearray",data:=.bytearray #[] })(h0:0≤k)(h1:k≤1000000)
(h:∀h',(∀b o,s.heap.get? b=some o→b≠a→h'.get? b=some o)→h'.get? a=some { cls:=.type "bytearray",data:=.bytearray (Array.replicate k.toNat 0) }→Q (.done (.ret .none)) { s with heap:=h' }) :
 au (model prog w) A (Builtin.«bytearray.__init__» ⟨[.ref a,.int k t],[]⟩) Q E s:=by
 unfold Builtin.«bytearray.__init__»;refine K.bind (K.of (fU ho rfl ?_));refine K.sq rfl ?_;refine K.bind (K.of (wpAny_of_eq (wR _) ?_));dsimp only;refine K.bind (K.of (wpAny_of_eq (a:=()) rfl ?_));refine K.bind (K.of (wpAny_of_eq (a:=()) rfl ?_));refine K.bind ?_;show au _ _ (Bytes.exported (.ref a)>>=_) _ _ _;refine K.bind (K.exported (K.of ?_));show wpAny _ _ (Bytes.exportsOf (.ref a)>>=_) _ _ _;unfold Bytes.exportsOf;refine wpAny_bind (wpAny_bind (wpAny_load ho ?_));refine wpAny_pure (wpAny_pure (K.of ?_));refine PySem.bm_if_false (by decide) ?_;refine wpAny_bind (Bb ho (Nat.zero_le _) fun az k1 r7=>?_);refine wpAny_bind (wpAny_of_eq (a:=Option.none) rfl ?_);refine PySem.bm_if_false rfl ?_;refine wpAny_bind (wpAny_of_eq (a:=()) rfl ?_);refine wpAny_bind (wpAny_specialOf (typeIs_int _ k t) PySem.F.slot_int_index.lookup ?_);refine PySem.bm_if_true rfl ?_;refine wpAny_bind (wpAny_attempt (wpAny_of_eq (a:=k) rfl ?_));dsimp only;refine PySem.bm_if_false (by simp[Bytes.fitsIndex];exact(fz 0x800000000000000010200400800000000000000010337f424005200390000239) h0 h1) ?_;rw[if_neg (show ¬k<0 by exact(fz 0x200460000239) h0)];refine PySem.bm_if_false (by simp;exact(fz 0x7fffffffffffffff1020056f42400520039) h1) ?_;refine PySem.bm_if_false (by simp[Bytes.tooLong,sizeLine_eq];exact(fz 0x1000000072003f42400520039) h1) ?_;refine wpAny_bind (wpAny_rule ?_)
 by_cases hk:k>0
 ·rw[if_pos hk]
  exact wpAny_bind (Bb r7 (by rw[Array.size_replicate,sizeLine_eq];exact Int.toNat_le.mpr ((fz 0x1000000072003f42400520039) h1)) fun bw k2 CO=>by
   first
    |exact wpAny_pure (h _ (fun b o e ne=>k2 b o (k1 b o e ne) ne) CO)
    |exact wpAny_bind (wpAny_pure (wpAny_pure (h _ (fun b o e ne=>k2 b o (k1 b o e ne) ne) CO))))
 ·rw[if_neg hk]
  haveI e0:k.toNat=0:=(fz 0x100a200002469) hk;rw[e0] at h
  first
   |exact wpAny_pure (h _ k1 r7)
   |exact wpAny_bind (wpAny_pure (wpAny_pure (h _ k1 r7)))
theorem qK(as:Args):dm (.builtin "bytearray.__init__" as)=false:=by show eJ.contains "bytearray.__init__"=false;decide +kernel
theorem fR
(init:∀{A:Around}{E:Value→Shared→Prop}{s:Shared}{a:Addr}{Q:PySem.Fin→Shared→Prop},s.heap.get? a=some { cls:=.type "bytearray",data:=.bytearray #[] } →
 (∀h',(∀b o,s.heap.get? b=some o→b≠a→h'.get? b=some o)→h'.get? a=some { cls:=.type "bytearray",data:=.bytearray data }→Q (.done (.ret .none)) { s with heap:=h' }) →
 au (model prog w) A (Builtin.«bytearray.__init__» ⟨[.ref a,x],[]⟩) Q E s)
(h:∀h',(∀b o,s.heap.get? b=some o→h'.get? b=some o)→h'.get? s.heap.objs.size=some { cls:=.type "bytearray",data:=.bytearray data }→Q (.ref s.heap.objs.size) { s with heap:=h' }) :
 au (model prog w) A (call (.type "bytearray") [x]) Q E s:=by
 refine K.call (K.ofTree rfl ?_);show au _ _ (again (.builtin "type.__call__" ⟨[.type "bytearray",x],[]⟩)) _ _ _;refine K.pure ⟨Code.quiet_builtin _ (by decide +kernel),K.builtin entry_typeCall (by show eJ.contains "type.__call__"=false;decide +kernel) ?_⟩;rw[Around.under_plain (weight_type_call_type "bytearray" [x] []) rfl];have fin:∀{α:Type}{m:Sem α}{a:α}{f:α→Sem PySem.Fin}{B:Around}{Q':PySem.Fin→Shared→Prop}{E':Value→Shared→Prop}{s':Shared},m=Pure.pure a→au (model prog w) B (f a) Q' E' s'→au (model prog w) B (m>>=f) Q' E' s':=
  fun e hf=>by subst e;exact K.bind (K.pure hf)
 unfold Builtin.«type.__call__»;refine K.sq (by decide) ?_;refine K.sq (by decide +kernel) ?_;refine fin (sF _) ?_;refine fin zf ?_;refine K.sq rfl ?_;refine fin Cf ?_;refine K.bind (K.pure ?_);refine K.bind (K.holding (K.mono (K.of (Gp x (Q:=fun v s'=>v=.ref s.heap.objs.size∧s'={ s with heap:=s.heap.push { cls:=.type "bytearray",data:=.bytearray #[] } }) ⟨rfl,rfl⟩)) (fun obj s' ho=>?_) fun j j x=>x));obtain⟨rfl,rfl⟩:=ho;have ho:(s.heap.push { cls:=.type "bytearray",data:=.bytearray #[] }).get? s.heap.objs.size=some { cls:=.type "bytearray",data:=.bytearray #[] }:=Heap.get?_push_size _ rfl;have hT:({ s with heap:=s.heap.push { cls:=.type "bytearray",data:=.bytearray #[] } }:Shared).TypeIs (.ref s.heap.objs.size) "bytearray":=⟨_,ho,rfl⟩;refine K.bind (K.of (wpAny_isInstance hT n9 ?_));refine K.sq rfl ?_;refine K.bind (K.holding ?_);unfold callSpecial?;refine K.bind (K.of (wpAny_specialOf hT gE.lookup ?_));dsimp only;refine K.holding ?_;rw[gE.bind];refine K.bind (K.pure ?_);dsimp only;refine K.bind (K.call (K.ofTree rfl ?_));show au _ _ (do checkBuiltinCall "bytearray.__init__" ⟨[.ref s.heap.objs.size,x],[]⟩;again (.builtin "bytearray.__init__" ⟨[.ref s.heap.objs.size,x],[]⟩)) _ _ _;refine K.bind (K.of (gE.check _ _ _ _ _ _ _ _ hT (rZ _ _) ?_));refine K.pure ⟨plainId_quiet o8 _,K.builtin pe (qK _) ?_⟩;refine init ho fun h' k' mq=>?_
 refine K.pure ?_;dsimp only;refine K.pure ?_;refine h h' (fun b o e=>k' b o (Heap.get?_push_of_some _ e) (Nat.ne_of_lt (Heap.lt_size e))) mq
theorem nB(h0:0≤k)(h1:k≤1000000)
(h:∀h',(∀b o,s.heap.get? b=some o→h'.get? b=some o)→h'.get? s.heap.objs.size=some { cls:=.type "bytearray",data:=.bytearray (Array.replicate k.toNat 0) }→Q (.ref s.heap.objs.size) { s with heap:=h' }) :
 au (model prog w) A (call (.type "bytearray") [.int k t]) Q E s:=fR (fun ho h=>CG ho h0 h1 h) h
end
set_option tactic.hygienic true in
theorem mr:cu G n (.type "bytearray") .bytearray:=fun {A ρ N s st st' v args vals} E I hA hv he=>by
 obtain⟨x,rfl,hf⟩:=iD he;replace he:=hf;clear hf;obtain⟨xv,rfl,hx⟩:=ib hv;split at he
 ·obtain⟨t,rfl⟩:=hx
  split at he
  ·rename_i k hc
   cases he;refine nB hc.1 hc.2 fun h' kp ho=>?_
   refine⟨ρ++[s.heap.objs.size],bG.alloc (t:=s.toks) (aW _) kp,I.alloc (aW _) (fun m=>?_) kp ho fun X=>⟨Option.none,#[],by simp⟩,⟨_,?_,rfl⟩⟩
   ·obtain⟨o',ho⟩:=I.lO _ m;rw[aW] at ho;cases ho
   ·rw[List.getElem?_append_right (by rw[I.len];exact Nat.le_refl _),I.len,Nat.sub_self];rfl
  ·cases he
 ·cases he
end
end
section
variable {G:Ctx}{rc:RC}{nm:List Str}{sc:List (Str×NameKind)}{n:Nat}
def gw(G:Ctx)(cv:Value)(T:String)(b:Bool):Prop:=
 ∀{prog:Program}{w:World}{A:Around}{E:Value→Shared→Prop}{s:Shared}{x:Value}{Q:Value→Shared→Prop},KitX G.K x (.type T) (fun j=>True)→x≠.builtin "__main__.__loader__#opaque"→G.K.In s.heap→(∀tk,Q (.bool b) { s with toks:=tk }) →
  wpAny (model prog w) A (call (.builtin "isinstance") [x,cv]) Q E s
theorem vP{cv:Value}{T:String}{b:Bool}(e:kitOne G.K (.type T) cv=some b):gw G cv T b:=fun Z hx X h=>kia_one Z X trivial e hx h
theorem CV{tp:Addr}{dd:Option Addr}{LN:List Value}{k:Nat}{sl:Array (Option Value)}{T:String}{b:Bool}(hl:G.K.lookup tp=some ⟨.type "tuple",dd,.seq LN.toArray k,sl⟩)(e:kitAny G.K (.type T) LN=some b):gw G (.ref tp) T b:=
 fun Z hx X h=>kia_tup Z X trivial (X _ _ hl) e hx h
noncomputable def uK(Ds:Bool):BF:=if Ds then .isStr else .Fd
theorem isi_call{A:Around}{E:Value→Shared→Prop}{s:Shared}{ρ N:List Addr}{st st':St}{v x:AV}{xv cv:Value}{Ds:Bool}{Q:Value→Shared→Prop}(h1:gw G cv "str" Ds)(h2:gw G cv "bytes" (!Ds))(hk:G.K.In s.heap)(V:av s.heap ρ N x xv)(he:bcall (uK Ds) [x] st=.ok v st')
  (hQ:∀b tk,v=.bool b→st'=st→Q (.bool b) { s with toks:=tk }):wpAny (model G.prog G.w) A (call (.builtin "isinstance") [xv,cv]) Q E s:=by
 cases Ds with
 |true=>
  cases x with
  |str _=>cases (he);exact V.elim fun t q=>q▸h1 kitx_str (fun e=>by cases (e)) hk fun tk=>hQ _ tk rfl rfl
  |bytes _=>cases (he);exact V.elim fun t q=>q▸h2 kitx_bytes (fun e=>by cases (e)) hk fun tk=>hQ _ tk rfl rfl
  |_=>cases (he)
 |false=>
  cases x with
  |str _=>cases (he);exact V.elim fun t q=>q▸h1 kitx_str (fun e=>by cases (e)) hk fun tk=>hQ _ tk rfl rfl
  |bytes _=>cases (he);exact V.elim fun t q=>q▸h2 kitx_bytes (fun e=>by cases (e)) hk fun tk=>hQ _ tk rfl rfl
  |_=>cases (he)
theorem SE.B7(hS:cg G)(h1:gw G cv "str" Ds)(h2:gw G cv "bytes" (!Ds))(hc:SE G rc nm sc n c (.lit (.ba (.builtin "isinstance"))))(fP:∀env,eval (.Call c [x,y] [] pos) env=(do callWith pos (←eval c env) [] (backTo pos (starEach [x,y] env)) []))
(hp:bq [x,y])(ha:SE G rc nm sc n x a)(hy:SE G rc nm sc n y (.lit (.ba cv))):SE G rc nm sc n (.Call c [x,y] [] pos) (.bcall (uK Ds) (.cons a .nil)):=fun {env A ρ N s lc st st' v} E F I hA he=>by
 refine R.bE he R.ay fun vs af r7 he=>?_
 refine R.bE r7 R.ay fun RN aU CO r7=>?_
 cases (r7);rw[fP];refine K.bind (K.ends (hc E F I hA rfl) fun fv aa ρ₁ aE aw aS=>?_);obtain rfl:fv=.builtin "isinstance":=aS;haveI iU:∀env,starEach [x,y] env=(false,eval x env)::starEach [y] env:=by cases hp with|cons e _=>exact e
 haveI Nq:∀env,starEach [y] env=(false,eval y env)::starEach [] env:=by cases hp with|cons _ r=>cases r with|cons e _=>exact e
 refine ED hp (K.iP (K.ends (ha E (F.bX aE) aw hA CO) fun xv ag ρ₂ bk aM br=>K.iP (K.ends (hy E (F.bX (aE.trans bk)) aM hA rfl) fun yv bh b4 eS dN hK=>K.j8 ?_) (Nq env)) (iU env));obtain rfl:yv=cv:=hK;refine K.of ?_;have V:=br.mono (N:=N) eS.ext;refine isi_call h1 h2 (dN.sG hS) V he fun b tk e1 e2=>?_
 rw[e1,e2];exact Ends.after ((aE.trans bk).trans eS) (Ends.here dN rfl)
theorem mX:∀{l:List AV}{bs:List Bool}{vs:List Value},iW l=some bs→ae h ρ N l vs→vs.length=bs.length∧∀(i:Nat)(v:Value),vs[i]?=some v→∃b,bs[i]?=some b∧v=.bool b
 |[],bs,vs,e,r=>by unfold ae at r;subst r;cases e;exact⟨rfl,fun i v h=>by simp at h⟩
 |x::l,bs,vs,e,r=>by
  unfold ae at r;obtain⟨v,r',rfl,e1,e2⟩:=r;cases x with
  |bool b=>
   obtain⟨RY,h1,rfl⟩:=Option.map_eq_some_iff.mp e;obtain⟨q1,q2⟩:=mX h1 e2;obtain rfl:=e1;refine⟨by simp[q1],fun i v h=>?_⟩;cases i with
   |zero=>exact⟨b,rfl,by simpa using h.symm⟩
   |succ i=>exact q2 i v (by simpa using h)
  |_=>cases e
theorem all_eq(bs:List Bool):((List.range bs.length).all fun i=>(bs[i]?).getD true)=bs.all id:=by
 rw[Bool.eq_iff_iff];simp only[List.all_eq_true,List.mem_range,id_eq];constructor
 ·intro h b m
  obtain⟨i,hi,rfl⟩:=List.mem_iff_getElem.mp m
  haveI:=h i hi
  rwa [List.getElem?_eq_getElem hi,Option.getD_some] at this
 ·intro h i hi
  rw[List.getElem?_eq_getElem hi,Option.getD_some];exact h _ (List.getElem_mem hi)
set_option tactic.hygienic true in
theorem yD(JK:G.exc=Option.none):cu G n (.builtin "all") .vz:=fun {A ρ N s st st' v args vals} E I hA hv he=>by
 refine K.of ?_;obtain⟨x,rfl,hf⟩:=iD he;replace he:=hf;clear hf;obtain⟨xv,rfl,hx⟩:=ib hv;split at he
 ·rename_i l
  obtain⟨rfl,hw⟩:=R.cq he;obtain⟨bs,h1,rfl⟩:=Option.map_eq_some_iff.mp hw;obtain⟨a,items,rfl,n1,n2,hl,r⟩:=hx;obtain⟨q1,q2⟩:=mX h1 r;haveI dh:a<s.heap.objs.size:=by obtain⟨_,e,_⟩:=hl;exact Heap.lt_size e
  refine call_all_walk (wpAny_pyIter_list hl ?_);refine⟨s.heap.objs.size,[s.heap.objs.size,a],[s.heap.objs.size],items.toArray.size,_,_,fun i=>(bs[i]?).getD true,rfl,Walks.list (A:=A.in1) (hA.none JK) _ a (Nat.ne_of_lt dh) items.toArray,
   ⟨⟨_,Heap.get?_push_size _ rfl,rfl,rfl⟩,hl.push _⟩,fun i v s' Q' E' hP hQ=>?_,fun h' tk hk=>?_⟩
  ·obtain⟨b,e,rfl⟩:=q2 i v (by simpa using hP)
   simp only[e,Option.getD_some] at hQ;exact wpAny_truthy_bool hQ
  ·haveI e:((List.range items.toArray.size).all fun i=>(bs[i]?).getD true)=bs.all id:=by
    rw[List.size_toArray,q1];exact all_eq bs
   rw[e];exact Ends.grown I (fun c o e=>hk c o (fun m=>absurd (Heap.lt_size e) (by rw[List.mem_singleton.mp m];exact Nat.lt_irrefl _)) (Heap.get?_push_of_some _ e)) rfl
 ·cases he
theorem Inv.fresh{ρ N:List Addr}{st:St}{h:Heap}{a:Addr}(I:Inv G ρ N st h)(e:h.get? a=Option.none):a∉ρ∧a∉N:=by
 refine⟨fun m=>?_,fun m=>?_⟩
 ·obtain⟨i,hi⟩:=List.getElem?_of_mem m
  obtain⟨o,ho,_⟩:=I.objs i a _ hi (List.getElem?_eq_getElem (I.lt hi));rw[e] at ho;cases ho
 ·obtain⟨o,ho⟩:=I.lO a m
  rw[e] at ho;cases ho
theorem iV(hi:IntsAre vs ns):ae h ρ N (ns.map AV.int) vs:=by
 induction hi with
 |nil=>exact ae.nil
 |cons i t _ ih=>exact ae.cons ⟨t,rfl⟩ ih
theorem pq{a b:List Int}(p:a.Perm b)(h:a.Pairwise (·≤·)):a=b.mergeSort fun x y=>decide (x≤y):=by
 refine List.Perm.eq_of_pairwise (le:=(·≤·)) (fun x y j j h1 h2=>Int.le_antisymm h1 h2) h ?_ (p.trans (List.mergeSort_perm _ _).symm)
 haveI:=List.pairwise_mergeSort (le:=fun x y:Int=>decide (x≤y)) (fun x y z h1 h2=>by simp at *;exact(O2 0x10003102039200039) h1 h2) (fun x y=>by simp;exact It 0x103100038) b
 exact this.imp fun h=>by simpa using h
theorem nH:∀{vs:List Value}{ns:List Int},vs.length=ns.length→(∀(i:Nat)(v:Value),vs[i]?=some v→∃k t,ns[i]?=some k∧v=.int k t)→IntsAre vs ns
 |[],[],_,_=>.nil
 |v::vs,k::ns,h,q=>by
  obtain⟨k',t,e1,rfl⟩:=q 0 v rfl;obtain rfl:k=k':=by simpa using e1
  exact .cons k t (nH (by simpa using h) fun i v e=>q (i+1) v (by simpa using e))
 |[],_::_,h,_=>by cases h
 |_::_,[],h,_=>by cases h
set_option tactic.hygienic true in
theorem qJ(hS:cg G)(JK:G.exc=Option.none):cu G n (.builtin "sorted") .sorted:=fun {A ρ N s st st' v args vals} E I hA hv he=>by
 refine K.of ?_;obtain⟨x,rfl,hf⟩:=iD (show one args (kM st)=_ from he);replace he:=hf;clear hf;obtain⟨xv,rfl,hx⟩:=ib hv;unfold kM at he;split at he
 ·split at he
  ·rename_i l iU
   obtain⟨a,o,h1,rfl,ho,r⟩:=I.obj iU hx;exact r.elim
  ·rename_i l iU
   split at he
   ·rename_i MM
    cases he;obtain⟨d,o,h1,rfl,ho,r⟩:=I.obj iU hx;obtain⟨os,Ma⟩:=hS.DB;haveI yX:=I.qo (List.mem_of_getElem? h1) Ma;obtain⟨kvs,hd,hk⟩:=gq ho r;obtain⟨ep,QA⟩:=hd.dictAt;have hlen:kvs.length=l.length:=by haveI:=congrArg List.length hk.1;simpa using this.symm
    refine call_function_entry kind_sorted plain_sorted entry_sorted (args_sorted1 _) ?_;unfold Builtin.«sorted»;refine wpAny_bind (m:=checkCount "sorted" 1 1 _) (wpAny_pure ?_);refine wpAny_bind (kdu_collect (A:=A.in1) (kdl_dict (knd:=intKind G.prog G.w) (kvs:=kvs) (ep:=ep) yX) (hA.none JK) QA (by rw[hlen,sizeLine_eq];exact(aO 0x1000000071000400210019) MM) fun h' tk acc JG KY=>?_);have hl:acc.toList.length=kvs.length:=by rw[Array.length_toList];exact KY.1
    haveI hI:IntsAre acc.toList (l.map (·.1)):=by
     refine nH (by rw[hl,hlen,List.length_map]) fun i v e=>?_
     obtain⟨k,x,e1,e2⟩:=KY.2 i v (by rw[←Array.getElem?_toList];exact e);obtain⟨t,rfl⟩:=Value.isInt_shape e2;refine⟨k,t,?_,rfl⟩;rw[hk.1,List.getElem?_map,e1];rfl
    refine wpAny_bind (wpAny_newList ?_ (by rw[hl,hlen,sizeLine_eq];exact(aO 0x1000000071000400210019) MM));have MR:(h'.push { cls:=.type "list",data:=.seq acc.toList.toArray }).get? h'.objs.size=some (seqObj "list" acc.toList.toArray 0):=Heap.get?_push_size _ rfl;refine wpAny_bind (wpAny_holding (wpAny_call_entry slot_list_sort ⟨_,MR,rfl⟩ entry_list_sort (list_sort_tree MR hI (by rw[hl,hlen];exact MM) fun out Qu a1 a2 a3=>⟨_,rfl,?_⟩) (args_list_sort _)));refine wpAny_pure ⟨_,rfl,?_⟩;obtain⟨e,he⟩:=sortedHeap_at (vs:=acc.toList) (out:=out) MR;haveI MU:∀b o,s.heap.get? b=some o→(sortedHeap (h'.push { cls:=.type "list",data:=.seq acc.toList.toArray }) h'.objs.size acc.toList out).get? b=some o:=fun b o e=>by
     have lt:=Heap.lt_size (JG b o e);rw[sortedHeap_old (Nat.ne_of_lt lt) (by rw[size_push'];exact Nat.lt_succ_of_lt lt)];exact Heap.get?_push_of_some _ (JG b o e)
    have kK:s.heap.get? h'.objs.size=Option.none:=by
     cases q:s.heap.get? h'.objs.size with
     |none=>rfl
     |some o=>exact absurd (Heap.lt_size (JG _ _ q)) (Nat.lt_irrefl _)
    obtain⟨f1,f2⟩:=I.fresh kK;refine Ends.grown I MU ⟨_,out.toList,rfl,f1,f2,⟨_,he,rfl,e,rfl⟩,?_⟩;rw[←pq a2 a3];exact iV a1
   ·cases he
  ·cases he
 ·cases he
theorem xW{σ:Type}{f:Nat→σ→Sem (ForInStep σ)}{a b:σ}(h1:∀k,f k a=Pure.pure (.yield b))(h2:∀k,f k b=Pure.pure (.done b)):∀{l:List Nat},l≠[]→forIn l a f=Pure.pure b
 |[],h=>absurd rfl h
 |[k],_=>by rw[List.forIn_cons,h1];rfl
 |k::j::l,_=>by
  rw[List.forIn_cons,h1]
  show(forIn (j::l) b f:Sem σ)=_
  rw[List.forIn_cons,h2];rfl
theorem CK(i:String)(self:Value):_codecs.encodeNarrow i _codecs.utf8Codec Option.none self ⟨#[]⟩=Pure.pure #[]:=by
 unfold _codecs.encodeNarrow;dsimp only;rw[Std.Legacy.Range.forIn_eq_forIn_range'];rfl
theorem tU(i:String)(self:Value)(x:Str)(hs:x.cps.any Str.isSurrogate=false)(hz:(x.cps.foldl (fun acc c=>acc++(Str.utf8Of c).toArray) #[]).size≤sizeLine) :
  _codecs.encodeNarrow i _codecs.utf8Codec Option.none self x=Pure.pure (x.cps.foldl (fun acc c=>acc++(Str.utf8Of c).toArray) #[]):=by
 by_cases h0:x.cps.size=0
 ·haveI e:x=⟨#[]⟩:=congrArg Str.mk (Array.eq_empty_of_size_eq_zero h0)
  rw[e];exact CK i self
 ·haveI cS:List.range' ([: x.length]:Std.Legacy.Range).start ([: x.length]:Std.Legacy.Range).size ([: x.length]:Std.Legacy.Range).step≠[]:=fun q=>by
   haveI:=congrArg List.length q
   rw[List.length_range'] at this;exact h0 (show x.length=0 by simpa[Std.Legacy.Range.size] using this)
  have dh:0<x.cps.size:=Nat.pos_of_ne_zero h0;haveI um:Str.isSurrogate x.cps[0]=false:=by
   rw[Array.any_eq_false] at hs;simpa using hs 0 dh
  have gm:x.cps.findIdx? Str.isSurrogate=Option.none:=by
   rw[Array.findIdx?_eq_none_iff];intro y hy;rw[Array.any_eq_false'] at hs;simpa using hs y hy
  haveI FF:((x.cps.extract 0 x.cps.size).extract 0 (((x.cps.extract 0 x.cps.size).findIdx? Str.isSurrogate).getD (x.cps.extract 0 x.cps.size).size))=x.cps:=by rw[Array.extract_size,gm];exact Array.extract_size
  haveI MG:((x.cps.extract 0 x.cps.size).findIdx? Str.isSurrogate).getD (x.cps.extract 0 x.cps.size).size=x.cps.size:=by rw[Array.extract_size,gm];rfl
  clear gm hs h0;unfold _codecs.encodeNarrow;dsimp only;rw[Std.Legacy.Range.forIn_eq_forIn_range'];refine Eq.trans (congrArg (fun m=>m>>=_) (xW (b:=(x.cps.size,x.cps.foldl (fun acc c=>acc++(Str.utf8Of c).toArray) #[],{})) (fun k=>?_) (fun k=>?_) cS)) rfl
  ·refine(if_neg (Nat.not_lt.mpr (Nat.zero_le _))).trans ?_
   dsimp only;rw[Array.getElem?_eq_getElem dh];refine(if_pos (show(!Str.isSurrogate x.cps[0])=true by rw[um];rfl)).trans ?_;rw[Nat.zero_add];haveI key:∀(a:Nat)(b:Array Nat),a=x.cps.size→b=x.cps→(Pure.pure (ForInStep.yield (a,b.foldl (fun acc c=>acc++(Str.utf8Of c).toArray) #[],({}:_codecs.Faults))):Sem _)=Pure.pure (ForInStep.yield (x.cps.size,x.cps.foldl (fun acc c=>acc++(Str.utf8Of c).toArray) #[],({}:_codecs.Faults))):=fun a b h1 h2=>by rw[h1,h2]
   exact key _ _ MG FF
  ·refine(if_neg (Nat.not_lt.mpr hz)).trans ?_
   dsimp only;rw[Array.getElem?_eq_none (Nat.le_refl _)]
theorem En{M:Model}{A:Around}{E:Value→Shared→Prop}{s:Shared}{env:Env}{pos:Pos}{i:String}{first:List Value}{ps:List Expr}{Q:Value→Shared→Prop}(hx:bq ps)
  (h:au M A (spliced (backTo pos (starEach ps env))) (fun vs aa=>au M A (call (.builtin i) (first++vs)) Q E aa) E s):au M A (callWith pos (.builtin i) first (backTo pos (starEach ps env)) []) Q E s:=
 zL (fun j=>⟨_,.inr (.inl rfl),Looks.of_pure rfl⟩) hx h
noncomputable def yU:BM→String
 |.append=>"list"
 |.add=>"set"
 |.get=>"dict"
 |.setdefault=>"dict"
 |.encode=>"str"
 |.join=>"str"
 |.packInto=>""
theorem ro(h:(m==a||m==b)=true)(e:yU a=yU b):yU m=yU a:=(Bool.or_eq_true_iff.mp h).elim (fun h=>by rw[cj h]) fun h=>by rw[cj h,e]
theorem dJ.Ol{ρ N:List Addr}{s:Shared}{i:Nat}{a:Addr}{o:Obj}(ho:s.heap.get? a=some o){m:BM}{x:ao}(r:dJ G s.heap ρ N i x o)(hm:Oc m x=true):s.TypeIs (.ref a) (yU m)∧o.dict=Option.none:=by
 cases x with
 |list l=>obtain⟨_,_,d,_,rfl,_⟩:=r;rw[cj hm];exact⟨⟨_,ho,rfl⟩,d.2⟩
 |aj l=>obtain⟨_,_,_,rfl,_⟩:=r;rw[ro hm rfl];exact⟨⟨_,ho,rfl⟩,rfl⟩
 |bo l=>obtain⟨_,_,_,rfl,_⟩:=r;rw[ro hm rfl];exact⟨⟨_,ho,rfl⟩,rfl⟩
 |bR l=>obtain⟨_,_,_,rfl,_⟩:=r;rw[ro hm rfl];exact⟨⟨_,ho,rfl⟩,rfl⟩
 |set l=>exact r.elim
 |_=>cases hm
theorem wL{ρ N:List Addr}{s:Shared}{st:St}{x:AV}{xv:Value}{m:BM}(I:Inv G ρ N st s.heap)(hx:av s.heap ρ N x xv)(hk:c6 st m x=true)(hm:m≠.packInto):s.TypeIs xv (yU m)∧∀a,xv=.ref a→∃o,s.heap.get? a=some o∧o.dict=Option.none:=by
 rcases Bool.or_eq_true_iff.mp hk with hk|hk
 ·rcases Bool.or_eq_true_iff.mp hk with hk|hk
  ·refine ez hk fun o e hm=>bO e fun j e1 e2=>?_
   rw[AV.du e1] at hx;obtain⟨a,o',h1,rfl,ho,r⟩:=I.obj e2 hx;exact⟨(r.Ol ho hm).1,fun b e=>by cases e;exact⟨_,ho,(r.Ol ho hm).2⟩⟩
  ·obtain⟨y,hy⟩:=Option.isSome_iff_exists.mp (aL hk)
   obtain⟨t,rfl⟩:=hx.nj hy;rw[ro (aR hk) rfl];exact⟨rfl,fun b e=>by cases e⟩
 ·exact absurd (cj (aR hk)) hm
theorem method_of{ρ N:List Addr}{s:Shared}{st:St}{A:Around}{E:Value→Shared→Prop}{x:AV}{xv:Value}{m:BM}{name:Str}{i:String}{pl:Sem Bool}{Q:Value×List Value→Shared→Prop}(I:Inv G ρ N st s.heap)(hx:av s.heap ρ N x xv)(hk:c6 st m x=true)(hm:m≠.packInto)
  (pa:PlainAttrs (yU m)) (slot:Slot (yU m) name i) (MC:typeOf (.builtin i)=pure (.type "method_descriptor")) (h:Q (.builtin i,[xv]) s):wpAny (model G.prog G.w) A (getMethod xv name pl) Q E s:=
 getMethod_builtin (wL I hx hk hm).1 pa slot MC (wL I hx hk hm).2 h
def lp(G:Ctx)(n:Nat)(i:String)(m:BM):Prop:=
 ∀{A:Around}{ρ N:List Addr}{s:Shared}{st st':St}{v x:AV}{args:List AV}{vals:List Value}{xv:Value}(E:Value→Shared→Prop),Inv G ρ N st s.heap→iZ G n A→av s.heap ρ N x xv→ae s.heap ρ N args vals→aD G.tb m x args st=.ok v st' →
  wpAny (model G.prog G.w) A (call (.builtin i) (xv::vals)) (Ends G ρ N s st' v) E s
set_option tactic.hygienic true in
theorem SE.aD{o:Expr}{name:Str}{cF pos:Pos}{ps:List Expr}{a:Sv.E}{es:Es}{m:BM}{i:String}(hs:lp G n i m)(hm:m≠.packInto)(pa:PlainAttrs (yU m))(slot:Slot (yU m) name i)(MC:typeOf (.builtin i)=pure (.type "method_descriptor"))
  (hb:∀env aH,attributeBase o name env aH=aH) (hl:(cF.endLine==pos.line)=true) (hlen:ps.length<20) (ha:SE G rc nm sc n o a) (hp:bq ps) (DL:lr G rc nm sc n ps es) :
  SE G rc nm sc n (.Call (.Attribute o name cF) ps [] pos) (.aD a m es):=fun {env A ρ N s lc st st' v} E F I hA he=>by
 refine R.bE he R.ay fun x eo h0 he=>?_
 split at he
 ·rename_i hk
  refine R.bE he R.ay fun vs af h1 he=>?_
  refine tv hb hl (q9 hp rfl (by simp;exact(aO 0x1e02110110041140210019) hlen)) fun pl=>K.ends (ha E F I hA h0) fun ov aa ρ₁ aE aw aS=>⟨fun fx s'=>fx=(.builtin i,[ov])∧s'=aa,method_of aw aS hk hm pa slot MC ⟨rfl,rfl⟩,fun fx s' AM=>?_⟩
  obtain⟨rfl,rfl⟩:=AM;refine En hp (K.fQ (DL pos E (F.bX aE) aw hA h1) fun vals ag ρ₂ bk aM br=>K.of ?_);exact wpAny_mono (hs E aM hA (aS.mono bk.ext) br he) (fun j j h=>h.after (aE.trans bk)) fun j j x=>x
 ·cases he
theorem rW:lp G n "list.append" .append:=fun {A ρ N s st st' v x args vals xv} E I hA hx hv he=>by
 obtain⟨y,ra,hf⟩:=iD (show one args (wu st x)=_ from he);rw[ra] at hv;obtain⟨yv,rv,hy⟩:=ib hv;rw[rv];refine R.oE hf R.ay fun p e he=>bO e fun j e1 e=>bO e fun o e2 e=>bO e fun l e3 e=>gO e fun h1 e=>?_
 rw[AV.du e1] at hx;rw[ao.gn e3] at e2;obtain⟨a,o',r7,r0,ho,items,m,d,sl,r2,r⟩:=I.obj e2 hx;cases (e);cases (he);rw[r2,d.2,sl.2] at ho;rw[r0];refine call_meets PySem.F.slot_list_append ⟨_,ho,rfl⟩ PySem.F.entry_list_append (PySem.F.args_list_append_2 _ _) (list_append a items.toArray m yv (by rw[List.size_toArray,r.length,sizeLine_eq];haveI:=d6 h1;exact(aO 0x100000007100027100410019) this)) ⟨ho,?_⟩;have kp:∀b o,s.heap.get? b=some o→b≠a→(s.heap.update a (Obj.mapSeq fun dR=>dR.push yv)).get? b=some o:=fun b o e ne=>(Heap.get?_update_other _ _ (Ne.symm ne)).trans e
 refine⟨ρ,bG.set r7 kp,I.set r7 kp (Heap.get?_update_self (Obj.mapSeq fun dR=>dR.push yv) ho rfl) fun X=>?_,rfl⟩;refine⟨items++[yv],if (items.toArray.push yv).size==items.toArray.size then m else m+1,⟨Option.none,rfl⟩,⟨#[],rfl⟩,?_,(r.mono X).append (ae.cons (hy.mono X) ae.nil)⟩;show Obj.mapSeq _ _=_;unfold Obj.mapSeq;simp
section
section
variable {ρ N:List Addr}{s:Shared}{st:St}{A:Around}{E:Value→Shared→Prop}
theorem wM{K:Type}[DecidableEq K]{knd:KeyKind G.prog G.w K}{a:Addr}{l:List (K×AV)}{kvs:List (K×Value)}{k:K}{key:Value}(I:Inv G ρ N st s.heap)(hd:s.heap.DictOf knd a kvs)(hk:eN s.heap ρ N l kvs)(yX:(a==sysModules)=false)(gU:knd.is k key=true) :
  wpAny (model G.prog G.w) A (call (.builtin "dict.get") [.ref a,key]) (Ends G ρ N s st ((aN l k).getD .none)) E s:=by
 refine call_meetsIn PySem.F.slot_dict_get hd.typeIs PySem.F.entry_dict_get (PySem.F.args_dict_get_2 _ _) (meets_dict_get knd a gU yX) ⟨_,hd.mapOf,?_⟩
 have:=hk.find k
 cases q:aN l k with
 |none=>rw[q] at this;rw[this];exact Ends.here I rfl
 |some v=>rw[q] at this;obtain⟨x,e2,rx⟩:=this;rw[e2];exact Ends.here I rx
theorem uf{K:Type}[DecidableEq K](xs:List (K×Addr×Value))(k:K):(atKey xs k).map (·.2)=valueAt (xs.map fun x=>(x.1,x.2.2)) k:=by
 unfold atKey valueAt
 induction xs with
 |nil=>rfl
 |cons x xs ih=>
  simp only[List.find?_cons,List.map_cons]
  by_cases q:x.1=k
  ·simp[q]
  ·simp only[q,decide_false];exact ih
theorem Dz{a b:Addr}{l:List (List Int×AV)}{xs:List (List Int×Addr×Value)}{ks:List Int}(hA:iZ G n A)(I:Inv G ρ N st s.heap)(hd:s.heap.DictOfH (tupleKind (intKind G.prog G.w)) a xs)(hk:eN s.heap ρ N l (xs.map fun x=>(x.1,x.2.2)))(yX:(a==sysModules)=false)(gU:IsTupleKey (intKind G.prog G.w) s.heap ks b) :
  wpAny (model G.prog G.w) A (call (.builtin "dict.get") [.ref a,.ref b]) (Ends G ρ N s st ((aN l ks).getD .none)) E s:=by
 refine call_meetsIn PySem.F.slot_dict_get hd.typeIs PySem.F.entry_dict_get (PySem.F.args_dict_get_2 _ _) (meetsH_dict_get (tupleKind (intKind G.prog G.w)) a b yX) ⟨?_,ks,xs,gU,hd,?_⟩
 ·haveI h1:=hA.units
  haveI h2:A.units+1<cLine:=by unfold cLine;omega
  exact h2
 ·rw[uf]
  have:=hk.find ks
  cases q:aN l ks with
  |none=>rw[q] at this;rw[this];exact Ends.here I rfl
  |some v=>rw[q] at this;obtain⟨x,e2,rx⟩:=this;rw[e2];exact Ends.here I rx
end
theorem yJ:lp G n "dict.get" .get:=fun {A ρ N s st st' v x args vals xv} E I hA hx hv he=>by
 obtain⟨y,rfl,hf⟩:=iD (show one args (Ju st x)=_ from he);obtain⟨yv,rfl,hy⟩:=ib hv;obtain⟨rfl,hw⟩:=R.cq hf;refine bO hw fun j e1 e=>bO e fun o e2 e=>mO e fun r h1 q=>?_
 rw[AV.du e1] at hx;obtain⟨a,oo,h2,rfl,ho,rr⟩:=I.obj e2 hx;subst q;clear he hf hw e e1 e2 hx hv;cases o<;>try (cases h1;done)
 ·refine mO h1 fun k h3 q=>?_
  subst q;obtain⟨t,rfl⟩:=hy.bt h3;obtain⟨kvs,hd,hk⟩:=gq ho rr;exact wM I hd hk (eM I h2) (intKind_is _ _ _ _)
 ·refine mO h1 fun k h3 q=>?_
  subst q;obtain⟨b,rfl,_,_,gU⟩:=tj (G:=G) h3 hy;obtain⟨xs,hd,_,hk⟩:=tI ho rr;exact Dz hA I hd hk (eM I h2) gU
 ·refine mO h1 fun k h3 q=>?_
  subst q;obtain⟨kvs,hd,hk⟩:=iK ho rr;exact wM I hd hk (eM I h2) (iw h3 hy)
section
variable {ρ N:List Addr}{s:Shared}{st:St}{A:Around}{E:Value→Shared→Prop}
theorem D1{α:Type}{es:Array α}{p:α→Bool}{i:Nat}(h:es.findIdx? p=some i):∃e,es[i]?=some e∧es.toList.find? p=some e:=by
 obtain⟨l⟩:=es;obtain⟨lt,Qp,JS⟩:=List.findIdx?_eq_some_iff_getElem.mp (show l.findIdx? p=some i by simpa using h);exact⟨l[i],by simp[lt],List.find?_eq_some_iff_getElem.mpr ⟨Qp,i,lt,rfl,fun j hj=>by simpa using JS j hj⟩⟩
theorem Ba{α:Type}{es:Array α}{p:α→Bool}(h:es.findIdx? p=none):es.toList.find? p=none:=by
 obtain⟨l⟩:=es;exact List.find?_eq_none.mpr fun e he=>by rw[List.findIdx?_eq_none_iff.mp (show l.findIdx? p=none by simpa using h) e he];decide
theorem zd{K:Type}[DecidableEq K]{kvs:List (K×Value)}{k:K}(h:valueAt kvs k=none):k∉kvs.map (·.1):=fun m=>by
 obtain⟨kv,m1,e⟩:=List.mem_map.mp m;unfold valueAt at h;rw[Option.map_eq_none_iff,List.find?_eq_none] at h;exact h kv m1 (by simp[e])
theorem vE{K V:Type}{kvs:List (K×V)}{k:K}{v:V}(h:(kvs.map (·.1)).Nodup)(n:k∉kvs.map (·.1)):((kvs++[(k,v)]).map (·.1)).Nodup:=by
 rw[List.map_append,List.nodup_append];exact⟨h,by simp,fun x m y m' q=>n (by rw[List.map_cons,List.map_nil,List.mem_singleton] at m';exact(show x=k from q.trans m')▸m)⟩
theorem kY{prog:Program}{w:World}{K:Type}[DecidableEq K]{knd:KeyKind prog w K}{d:Addr}{kvs:List (K×Value)}{k:K}{key dflt:Value}{Q:Value→Shared→Prop}(gU:knd.is k key=true)(hm:s.heap.DictOf knd d kvs)(js:kvs.length≤sizeLine)
  (there:∀v,valueAt kvs k=some v→Q v { s with toks:=s.toks+1 }) (new:valueAt kvs k=Option.none→∀h',h'.DictOf knd d (kvs++[(k,dflt)])→Heap.SameBut d s.heap h'→Q dflt { s with heap:=h',toks:=s.toks+1 }) :
  wpAny (model prog w) A (dictSetDefault d key dflt) Q E s:=by
 obtain⟨o,es,ep,ho,hc,hd,hk,hp,hn⟩:=hm;have DL:es.size≤sizeLine:=by
  haveI:=hp.length
  rw[Array.length_toList] at this;omega
 have oD:=hp.find k;unfold dictSetDefault
 try with_reducible refine wpAny_holding ?_
 refine wpAny_bind (knd.pyHash gU ?_);refine wpAny_bind (wpAny_dictFind_of (s:={ s with toks:=s.toks+1 }) gU ho hd hk ?_);cases hi:es.findIdx? fun e=>knd.is k e.key with
 |some i=>
  refine wpAny_bind (wpAny_dictEntries (s:={ s with toks:=s.toks+1 }) ho hd ?_);obtain⟨e,he,hf⟩:=D1 hi;rw[hf] at oD;rw[he];exact wpAny_bind (wpAny_rule (wpAny_pure (there _ oD.symm)))
 |none=>
  rw[Ba hi] at oD;exact wpAny_bind (wpAny_rule (wpAny_bind (wpAny_updateDictKeys (hz:=DL) (s:={ s with toks:=s.toks+1 }) ho hd (wpAny_pure (new oD.symm _ ⟨_,_,ep+1,Heap.get?_update_self _ ho (Obj.isFreed_of_dict (Obj.data_mapDictKeys hd _)),
   hc.mapDictKeys _,Obj.data_mapDictKeys hd _,hk.push gU _,by obtain⟨l⟩:=es;simpa using hp.append gU (knd.hash k) dflt,vE hn (zd oD.symm)⟩ (Heap.SameBut.update ..))))))
end
theorem eN.any{K:Type}[DecidableEq K]{h:Heap}{ρ N:List Addr}{l:List (K×AV)}{kvs:List (K×Value)}(e:eN h ρ N l kvs)(k:K):(l.any fun kv=>decide (kv.1=k))=kvs.any fun kv=>decide (kv.1=k):=by
 have h1:∀{α:Type}(l:List (K×α)),(l.any fun kv=>decide (kv.1=k))=(l.map (·.1)).any fun x=>decide (x=k):=fun l=>by rw[List.any_map];rfl
 rw[h1,h1,e.1]
theorem eN.cons(r:av h ρ N v x)(e:eN h ρ N l kvs):eN h ρ N ((a,v)::l) ((a,x)::kvs):=
 ⟨by simp[e.1],by simp only[List.map_cons];exact ae.cons r e.2⟩
theorem eN.app(e:eN h ρ N l kvs)(r:av h ρ N v x):eN h ρ N (l++[(k,v)]) (kvs++[(k,x)]):=
 ⟨by simp[e.1],by simp only[List.map_append,List.map_cons,List.map_nil];exact e.2.append (ae.cons r ae.nil)⟩
theorem eN.put{K:Type}[DecidableEq K]{h:Heap}{ρ N:List Addr}{k:K}{v:AV}{x:Value}(r:av h ρ N v x):∀{l:List (K×AV)}{kvs:List (K×Value)},eN h ρ N l kvs →
  eN h ρ N (l.map fun kv=>if kv.1=k then (kv.1,v) else kv) (kvs.map fun kv=>if kv.1=k then (kv.1,x) else kv)
 |[],kvs,e=>by
  haveI:kvs=[]:=by simpa using e.1.symm
  subst this;exact e
 |(a,w)::l,kvs,e=>by
  obtain⟨y,r',rfl,h1,h2⟩:=e.cons_inv;have ih:=eN.put (k:=k) (v:=v) (x:=x) r h2;simp only[List.map_cons]
  by_cases q:a=k
  ·simp only[q,if_true];exact eN.cons r ih
  ·simp only[q,if_false];exact eN.cons h1 ih
theorem eN.stored{K:Type}[DecidableEq K]{h:Heap}{ρ N:List Addr}{l:List (K×AV)}{kvs:List (K×Value)}{k:K}{v:AV}{x:Value}(e:eN h ρ N l kvs)(r:av h ρ N v x):eN h ρ N (fy l k v) (PySem.stored kvs k x):=by
 unfold fy PySem.stored;rw[e.any k];split
 ·exact eN.put r e
 ·exact e.app r
theorem zq{K:Type}[DecidableEq K]{l:List (K×AV)}{k:K}(h:aN l k=Option.none)(v:AV):fy l k v=l++[(k,v)]:=by
 unfold fy;rw[if_neg];intro q;obtain⟨kv,m,e⟩:=List.any_eq_true.mp q;unfold aN at h;rw[Option.map_eq_none_iff,List.find?_eq_none] at h;exact h kv m e
theorem w9{K:Type}[DecidableEq K]{prog:Program}{w:World}{knd:KeyKind prog w K}{h:Heap}{ρ N:List Addr}{a:Addr}{l:List (K×AV)}{kvs:List (K×Value)}(hd:h.DictOf knd a kvs)(hk:eN h ρ N l kvs):∃o,h.get? a=some o∧yR knd h ρ N l o:=by
 obtain⟨⟨c,d,dt,sl⟩,es,ep,ho,hc,IV,CM,hp,hn⟩:=hd;obtain⟨e1,e2,e3⟩:=hc;dsimp only at e1 e2 e3 IV;subst e1 e2 e3 IV;exact⟨_,ho,kvs,es,ep,rfl,CM,hp,hn,hk⟩
section
variable {ρ N:List Addr}{s:Shared}{st:St}{A:Around}{E:Value→Shared→Prop}
theorem Gb{K:Type}[DecidableEq K]{knd:KeyKind G.prog G.w K}{j:Nat}{a:Addr}{l:List (K×AV)}{kvs:List (K×Value)}{k:K}{key yv:Value}{y:AV}{mk:List (K×AV)→ao}{Q:Value→Shared→Prop}(I:Inv G ρ N st s.heap)(ha:ρ[j]?=some a)(hd:s.heap.DictOf knd a kvs)(hk:eN s.heap ρ N l kvs)(hz:l.length≤1000000)(gU:knd.is k key=true)(hy:av s.heap ρ N y yv)
  (MJ:∀{h:Heap}{l:List (K×AV)}{o:Obj},yR knd h ρ N l o→dJ G h ρ N j (mk l) o)
  (old:∀w xw t,aN l k=some w→av s.heap ρ N w xw→Q xw { s with toks:=t }) (new:∀s',aN l k=Option.none→Ends G ρ N s (st.set j (mk (l++[(k,y)]))) y yv s'→Q yv s') :
  wpAny (model G.prog G.w) A (dictSetDefault a key yv) Q E s:=by
 haveI hlen:kvs.length=l.length:=by have:=congrArg List.length hk.1;simpa using this.symm
 refine kY gU hd (by rw[hlen,sizeLine_eq];exact(aO 0x1000000071000f42400510009) hz) (fun v hv=>?_) fun hn h' CL hs=>?_
 ·have:=hk.find k
  cases q:aN l k with
  |none=>rw[q] at this;rw[this] at hv;cases hv
  |some w=>
   rw[q] at this;obtain⟨x,e2,rx⟩:=this;rw[e2] at hv;obtain rfl:x=v:=cQ hv;exact old w x _ q rx
 ·haveI wI:aN l k=Option.none:=by
   cases q:aN l k with
   |none=>rfl
   |some w=>have:=hk.find k;rw[q] at this;obtain⟨x,e2,_⟩:=this;rw[hn] at e2;cases e2
  have kp:∀b o,s.heap.get? b=some o→b≠a→h'.get? b=some o:=fun b o e ne=>(hs.2 b ne).trans e
  have X:Ext N s.heap ρ h' ρ:=⟨List.prefix_refl _,fun z m=>.inl m,fun b o e n' z z=>kp b o e fun q=>n' (q▸List.mem_of_getElem? ha)⟩;obtain⟨o,ho,hr⟩:=w9 CL ((hk.mono X).app (k:=k) (hy.mono X));exact new _ wI ⟨ρ,bG.set ha kp,I.set ha kp ho fun z=>MJ hr,hy.mono X⟩
end
theorem D9{prog:Program}{w:World}{A:Around}{E:Value→Shared→Prop}{s:Shared}{d:Addr}{key dflt:Value}{Q:Value→Shared→Prop}(hT:s.TypeIs (.ref d) "dict")(hd:(d==sysModules)=false)(h:wpAny (model prog w) A.in1 (dictSetDefault d key dflt) Q E s) :
  wpAny (model prog w) A (call (.builtin "dict.setdefault") [.ref d,key,dflt]) Q E s:=by
 refine wpAny_call_entry PySem.F.slot_dict_setdefault hT PySem.F.entry_dict_setdefault ?_ (PySem.F.args_dict_setdefault_3 _ _ _);unfold Builtin.«dict.setdefault»;refine wpAny_bind ?_;unfold Builtin.Dict.keyAndDefault;refine wpAny_bind (wpAny_notOrdered_dict hT ?_);show wpAny _ _ (pure (d,key,some dflt)) _ _ s;refine wpAny_pure ?_;show wpAny _ _ (if (d==sysModules)=true then _ else (dictSetDefault d key dflt>>=_)) _ _ s;rw[if_neg (by rw[hd];exact Bool.false_ne_true)];exact wpAny_bind (wpAny_mono h (fun v s' hv=>wpAny_pure ⟨v,rfl,hv⟩) fun j j x=>x)
theorem BE{ρ N:List Addr}{s:Shared}{st st':St}{A:Around}{E:Value→Shared→Prop}{j:Nat}{a:Addr}{yv zv:Value}{z v:AV}{K:Type}[DecidableEq K]{knd:KeyKind G.prog G.w K}{l:List (K×AV)}{kvs:List (K×Value)}{k:K}(mk:List (K×AV)→ao)(I:Inv G ρ N st s.heap)(h2:ρ[j]?=some a)
  (hd:s.heap.DictOf knd a kvs) (hk:eN s.heap ρ N l kvs) (hl:l.length<10000) (gU:knd.is k yv=true) (hz:av s.heap ρ N z zv) (hm:∀{h:Heap}{l:List (K×AV)}{o:Obj},yR knd h ρ N l o→dJ G h ρ N j (mk l) o)
  (e:(match aN l k with
   |some w=>some (w,st)
   |Option.none=>some (z,st.set j (mk (fy l k z))))=some (v,st')):wpAny (model G.prog G.w) A (call (.builtin "dict.setdefault") [.ref a,yv,zv]) (Ends G ρ N s st' v) E s:=by
 refine D9 hd.typeIs (eM I h2) (Gb (mk:=mk) I h2 hd hk (Nat.le_trans (Nat.le_of_lt hl) (by decide)) gU hz hm (fun w xw t q r=>?_) fun s' q hE=>?_)
 ·rw[q] at e;cases (e)
  exact Ends.here I r
 ·rw[q,zq q] at e;cases (e)
  exact hE
theorem lG:lp G n "dict.setdefault" .setdefault:=fun {A ρ N s st st' v x args vals xv} E I hA hx hv he=>by
 obtain⟨y,z,rfl,hf⟩:=wj (show pair args (l3 st x)=_ from he);obtain⟨yv,zv,rfl,hy,hz⟩:=AX hv;refine R.oE hf R.ay fun p e he=>bO e fun j e1 e=>bO e fun o e2 e=>gO e fun js e=>bO e fun r h1 e=>?_
 rw[AV.du e1] at hx;obtain⟨a,oo,h2,rfl,ho,rr⟩:=I.obj e2 hx;obtain⟨p1,p2⟩:=p;have Mr:p1=v∧p2=st':=by cases he;exact⟨rfl,rfl⟩
 rw[Mr.1,Mr.2] at e;clear he hf e1 e2 hx hv Mr;have js:=d6 (aR js);cases o<;>try (cases h1;done)
 ·refine mO h1 fun k h3 q=>?_
  subst q;obtain⟨t,rfl⟩:=hy.bt h3;obtain⟨kvs,hd,hk⟩:=gq ho rr;refine BE ao.aj I h2 hd hk js (intKind_is _ _ _ _) hz (fun h=>h) ?_;unfold CA at e;rw[h3] at e;exact e
 ·contradiction
 ·refine mO h1 fun k h3 q=>?_
  subst q;obtain⟨kvs,hd,hk⟩:=iK ho rr;refine BE ao.bR I h2 hd hk js (iw h3 hy) hz (fun h=>h) ?_;unfold CA at e;rw[h3] at e;exact e
end
section
noncomputable def cN(ch:Char)(w:Nat):Struct.Format:={ bigEndian:=false,native:=false,codes:=[⟨ch,1,0,w⟩],size:=w,items:=1 }
section
variable {M:Model}{A:Around}{E:Value→Shared→Prop}{s:Shared}
theorem jX{σ:Type}{f:Nat→σ→Sem (ForInStep σ)}{a:σ}{Q:σ→Shared→Prop}(h:wpAny M A (f 0 a) (fun r s'=>∃b,r=.yield b∧Q b s') E s):wpAny M A (forIn ([: 1]:Std.Legacy.Range) a f) Q E s:=by
 rw[Std.Legacy.Range.forIn_eq_forIn_range'];show wpAny M A (forIn [0] a f) Q E s;rw[List.forIn_cons];refine wpAny_bind (wpAny_mono h (fun r s' ⟨b,e,hb⟩=>?_) fun j j x=>x);subst e;exact wpAny_pure hb
theorem D0{i:String}{k:Int}{t:Tok}{put:Unit→Nat→Array UInt8→Sem Unit}{src:Value→Nat→Nat→Sem Unit}{Q:Unit→Shared→Prop}(h0:0≤k)(h1:k≤255)(h:wpAny M A (put () 0 (Struct.intBytes false 1 k)) Q E s):wpAny M A (Struct.packEach i (cN 'B' 1) [.int k t] () put src) Q E s:=by
 unfold Struct.packEach;simp only[cN,List.forIn_cons,List.forIn_nil];rw[if_neg (by decide),if_neg (by decide)];refine wpAny_bind (wpAny_bind (wpAny_bind (jX ?_)));dsimp only;refine wpAny_bind (wpAny_of_eq (a:=Struct.intBytes false 1 k) ?_ ?_)
 ·haveI hc:(decide (k<(0:Int))||decide (k>(255:Int)))=false:=by simp;exact(fz 0xff0220030000237ff02200390000239) h0 h1
  show(if (decide (k<(0:Int))||decide (k>(255:Int)))=true then _ else _)=_
  rw[hc];rfl
 ·exact wpAny_bind (wpAny_mono h (fun u s' hq=>wpAny_pure ⟨_,rfl,wpAny_pure (wpAny_pure (wpAny_pure hq))⟩) fun j j x=>x)
theorem AF:Struct.parse #[60,66]=pure (cN 'B' 1):=by kernel_rfl
theorem AY{i:String}{k:Int}{t:Tok}{put:Unit→Nat→Array UInt8→Sem Unit}{src:Value→Nat→Nat→Sem Unit}{Q:Unit→Shared→Prop}(h0:0≤k)(h1:k≤65535)(h:wpAny M A (put () 0 (Struct.intBytes false 2 k)) Q E s):wpAny M A (Struct.packEach i (cN 'H' 2) [.int k t] () put src) Q E s:=by
 unfold Struct.packEach;simp only[cN,List.forIn_cons,List.forIn_nil];rw[if_neg (by decide),if_neg (by decide)];refine wpAny_bind (wpAny_bind (wpAny_bind (jX ?_)));dsimp only;refine wpAny_bind (wpAny_of_eq (a:=Struct.intBytes false 2 k) ?_ ?_)
 ·haveI hc:(decide (k<(0:Int))||decide (k>(65535:Int)))=false:=by simp;exact(fz 0xffff0420030000237ffff04200390000239) h0 h1
  show(if (decide (k<(0:Int))||decide (k>(65535:Int)))=true then _ else _)=_
  rw[hc];rfl
 ·exact wpAny_bind (wpAny_mono h (fun u s' hq=>wpAny_pure ⟨_,rfl,wpAny_pure (wpAny_pure (wpAny_pure hq))⟩) fun j j x=>x)
theorem xU:Struct.parse #[60,72]=pure (cN 'H' 2):=by kernel_rfl
theorem A0{i:String}{k:Int}{t:Tok}{put:Unit→Nat→Array UInt8→Sem Unit}{src:Value→Nat→Nat→Sem Unit}{Q:Unit→Shared→Prop}(h0:0≤k)(h1:k≤4294967295)(h:wpAny M A (put () 0 (Struct.intBytes false 4 k)) Q E s):wpAny M A (Struct.packEach i (cN 'I' 4) [.int k t] () put src) Q E s:=by
 unfold Struct.packEach;simp only[cN,List.forIn_cons,List.forIn_nil];rw[if_neg (by decide),if_neg (by decide)];refine wpAny_bind (wpAny_bind (wpAny_bind (jX ?_)));dsimp only;refine wpAny_bind (wpAny_of_eq (a:=Struct.intBytes false 4 k) ?_ ?_)
 ·haveI hc:(decide (k<(0:Int))||decide (k>(4294967295:Int)))=false:=by simp;exact(fz 0xffffffff0820030000237ffffffff08200390000239) h0 h1
  show(if (decide (k<(0:Int))||decide (k>(4294967295:Int)))=true then _ else _)=_
  rw[hc];rfl
 ·exact wpAny_bind (wpAny_mono h (fun u s' hq=>wpAny_pure ⟨_,rfl,wpAny_pure (wpAny_pure (wpAny_pure hq))⟩) fun j j x=>x)
theorem yz:Struct.parse #[60,73]=pure (cN 'I' 4):=by kernel_rfl
theorem BW{i:String}{k:Int}{t:Tok}{put:Unit→Nat→Array UInt8→Sem Unit}{src:Value→Nat→Nat→Sem Unit}{Q:Unit→Shared→Prop}(h0:-2147483648≤k)(h1:k≤2147483647)(h:wpAny M A (put () 0 (Struct.intBytes false 4 k)) Q E s):wpAny M A (Struct.packEach i (cN 'i' 4) [.int k t] () put src) Q E s:=by
 unfold Struct.packEach;simp only[cN,List.forIn_cons,List.forIn_nil];rw[if_neg (by decide),if_neg (by decide)];refine wpAny_bind (wpAny_bind (wpAny_bind (jX ?_)));dsimp only;refine wpAny_bind (wpAny_of_eq (a:=Struct.intBytes false 4 k) ?_ ?_)
 ·haveI hc:(decide (k<(-2147483648:Int))||decide (k>(2147483647:Int)))=false:=by simp;exact(fz 0x7fffffff0820030080000000083377fffffff0820039008000000008339) h0 h1
  show(if (decide (k<(-2147483648:Int))||decide (k>(2147483647:Int)))=true then _ else _)=_
  rw[hc];rfl
 ·exact wpAny_bind (wpAny_mono h (fun u s' hq=>wpAny_pure ⟨_,rfl,wpAny_pure (wpAny_pure (wpAny_pure hq))⟩) fun j j x=>x)
theorem xl:Struct.parse #[60,105]=pure (cN 'i' 4):=by kernel_rfl
end
noncomputable def lq(out:Array UInt8)(p:Nat)(raw:Array UInt8):Array UInt8:=raw.toList.zipIdx.foldl (fun out x=>out.setIfInBounds (p+x.2) x.1) out
theorem qu(p:Nat):∀(l:List UInt8)(j:Nat)(out:Array UInt8),p+j+l.length≤out.size→((l.zipIdx j).foldl (fun out x=>out.setIfInBounds (p+x.2) x.1) out).toList=out.toList.take (p+j)++l++out.toList.drop (p+j+l.length)
 |[],j,out,_=>by simp
 |c::l,j,out,h=>by
  simp only[List.length_cons] at h;simp only[List.zipIdx_cons,List.foldl_cons];rw[qu p l (j+1) _ (by simp;exact(gk 0x302010111040044030101120410004409) h)];simp only[Array.toList_setIfInBounds,List.length_cons];haveI dh:p+j<out.toList.length:=by rw[Array.length_toList];exact(gk 0x2010004120101130410004409) h
  haveI e1:(out.toList.set (p+j) c).take (p+(j+1))=out.toList.take (p+j)++[c]:=by
   rw[show p+(j+1)=(p+j)+1 from by exact aZ 0x101110004410111040042,List.take_add_one,List.take_set_of_le (Nat.le_refl _),List.getElem?_set_self dh];rfl
  haveI e2:(out.toList.set (p+j) c).drop (p+(j+1)+l.length)=out.toList.drop (p+j+(l.length+1)):=by
   rw[List.drop_set_of_lt (by exact cM 0x2010111040044100041)];congr 1;exact cM 0x101120410004420101110400442
  rw[e1,e2];simp
theorem qc(h:p+raw.size≤out.size):(lq out p raw).toList=putAt out.toList p raw.toList:=by
 unfold lq putAt;rw[qu p raw.toList 0 out (by simpa using h)];simp
theorem kB(w:Nat)(k:Int):(Struct.intBytes false w k).toList=leB w k:=by
 unfold Struct.intBytes Memoryview.toLittleEndian leB;simp
section
variable {prog:Program}{w:World}{A:Around}{E:Value→Shared→Prop}{s:Shared}
theorem tL(ho:s.heap.get? a=some ⟨.type "bytearray",d,.bytearray b 0,sl⟩)(hf:f b=c)(hz:c.size≤16777216)
(h:∀h',(∀b o,s.heap.get? b=some o→b≠a→h'.get? b=some o)→h'.get? a=some ⟨.type "bytearray",d,.bytearray c 0,sl⟩→Q () { s with heap:=h' }):wpAny (model prog w) A (Bytes.write (.ref a) f) Q E s:=by
 show wpAny _ _ (updateBytearray a f) _ _ _;unfold updateBytearray;refine wpAny_bind (wpAny_load ho ?_);show wpAny _ _ (update a _>>=fun j=>lookBehind a) _ _ _;refine wpAny_bind (wpAny_update ho ?_);have r7:(s.heap.update a (Obj.mapBytearray f)).get? a=some ⟨.type "bytearray",d,.bytearray c 0,sl⟩:=by
  rw[Heap.get?_update_self (Obj.mapBytearray f) ho rfl];show some (Obj.mk _ _ (.bytearray (f b) 0) _)=_;rw[hf]
 refine wpAny_lookBehind r7 (by show(if c.size>sizeLine then some "bytearray:memory" else Option.none)=Option.none;rw[if_neg];rw[sizeLine_eq];exact(aO 0x10000000711610000000710009) hz) ?_;exact h _ (fun b o e ne=>(Heap.get?_update_other _ _ (Ne.symm ne)).trans e) r7
theorem rR{i:String}{ch:Char}{wd:Nat}{a:Addr}{d:Option Addr}{sl:Array (Option Value)}{b:List UInt8}{p:Int}{u:Tok}{v:Value}{raw:Array UInt8}{Q:PySem.Fin→Shared→Prop}(Ad:raw.size=wd)
  (each:∀{put:Unit→Nat→Array UInt8→Sem Unit}{src:Value→Nat→Nat→Sem Unit}{Q:Unit→Shared→Prop}{s:Shared},wpAny (model prog w) A (put () 0 raw) Q E s→wpAny (model prog w) A (Struct.packEach i (cN ch wd) [v] () put src) Q E s)
  (ho:s.heap.get? a=some ⟨.type "bytearray",d,.bytearray b.toArray 0,sl⟩) (h0:0≤p) (h1:p+wd≤b.length) (hz:b.length≤1000000)
  (h:∀h',(∀b o,s.heap.get? b=some o→b≠a→h'.get? b=some o)→h'.get? a=some ⟨.type "bytearray",d,.bytearray (putAt b p.toNat raw.toList).toArray 0,sl⟩→Q (.done (.ret .none)) { s with heap:=h' }) :
  wpAny (model prog w) A (Struct.packHeld i (cN ch wd) (.ref a) 0 b.length (.int p u) [v]) Q E s:=by
 unfold Struct.packHeld;refine wpAny_bind (wpAny_of_eq (a:=p) rfl ?_);rw[if_neg (by simp[Bytes.fitsIndex];exact(yZ 0x800000000000000010220420800000000000000010337f42400511009108008204392000239) h0 h1 hz)];refine wpAny_bind (wpAny_of_eq (a:=p.toNat) ?_ ?_)
 ·unfold Struct.placeIn
  rw[if_neg (by exact(fz 0x200460000239) h0)];rw[if_neg (show ¬p<0 by exact(fz 0x200460000239) h0)];rw[if_neg (show ¬((b.length:Int)-p<((cN ch wd).size:Nat)) by show ¬((b.length:Int)-p<(wd:Nat));exact(yZ 0x1082000854600810820439) h1)]
 dsimp only;have js:(cN ch wd).size=wd:=rfl;haveI e1:lq b.toArray (0+p.toNat) (Array.replicate (cN ch wd).size 0)=(putAt b p.toNat (List.replicate wd 0)).toArray:=by
  apply Array.toList_inj.mp;rw[qc (by rw[js];simp;exact(yZ 0x100020a40108008204392000239) h0 h1),js];simp
 have FG:(putAt b p.toNat (List.replicate wd 0)).length=b.length:=by unfold putAt;simp;exact(yZ 0x1020a40051040020ac42008108204392000239) h0 h1
 refine wpAny_bind (tL ho (show lq b.toArray (0+p.toNat) (Array.replicate (cN ch wd).size 0)=_ from e1) (by simp[FG];exact(aO 0x1000000071000f42400510009) hz) fun h' k' mq=>?_);refine wpAny_bind (each ?_);haveI e2:lq (putAt b p.toNat (List.replicate wd 0)).toArray (0+p.toNat+0) raw=(putAt b p.toNat raw.toList).toArray:=by
  apply Array.toList_inj.mp;rw[qc (by rw[Ad];simp[FG];exact(yZ 0x100020a40108008204392000239) h0 h1)];unfold putAt;simp only[List.length_replicate,Array.length_toList,Ad,Nat.zero_add,Nat.add_zero];haveI t1:(b.take p.toNat++List.replicate wd 0++b.drop (p.toNat+wd)).take p.toNat=b.take p.toNat:=by
   rw[List.append_assoc,List.take_append_of_le_length (by rw[List.length_take];exact(yZ 0x20ac20a000810820439) h1),List.take_of_length_le (by rw[List.length_take];exact BR 0x10a0010ac0)]
  haveI t2:(b.take p.toNat++List.replicate wd 0++b.drop (p.toNat+wd)).drop (p.toNat+wd)=b.drop (p.toNat+wd):=by
   rw[List.drop_append_of_le_length (by simp;exact(yZ 0x20ac820300810820439) h1),List.drop_of_length_le (by simp;exact BR 0x10a0010ac0)];simp
  rw[t1,t2]
 haveI IY:(putAt b p.toNat raw.toList).length=b.length:=by unfold putAt;simp;exact(Oq 0x1030a40051040030ac42008208304393000239201029) Ad h0 h1
 refine tL mq (show lq (putAt b p.toNat (List.replicate wd 0)).toArray (0+p.toNat+0) raw=_ from e2) (by simp[IY];exact(aO 0x1000000071000f42400510009) hz) fun yY QG L7=>?_
 exact wpAny_pure (h yY (fun c o e ne=>QG c o (k' c o e ne) ne) L7)
end
end
section
theorem AJ:PlainAttrs "_struct.Struct":=⟨⟨"_struct.Struct.__getattribute__",by rw[typeLookup_type,builtinLookup_eq_fast];kernel_rfl,by decide +kernel⟩,by rw[typeLookup_type,builtinLookup_eq_fast];kernel_rfl⟩
theorem rT:Slot "_struct.Struct" "pack_into" "_struct.Struct.pack_into":=
 .of (owner:="_struct.Struct") (n:="pack_into") (by rw[typeLookup_type,builtinLookup_eq_fast];kernel_rfl) (by decide +kernel) (by decide +kernel) (by decide +kernel)
  (by first|exact .inl (by decide +kernel)|exact .inr (by decide +kernel)) (by rw[isSubtype_type];kernel_rfl)
theorem Cv:typeOf (.builtin "_struct.Struct.pack_into")=pure (.type "method_descriptor"):=by show builtinType _=_;rw[builtinType_eq_fast];kernel_rfl
theorem Bw:entryFor table "_struct.Struct.pack_into"=some Builtin.«_struct.Struct.pack_into»:=by first|exact entryFor_of_tree (by kernel_rfl)|exact entryFor_of_fast (by kernel_rfl)
theorem o9:entryFor table "_struct.pack_into.held"=some Builtin.«_struct.pack_into.held»:=by first|exact entryFor_of_tree (by kernel_rfl)|exact entryFor_of_fast (by kernel_rfl)
theorem DR(a b c d:Value):argsOk "_struct.Struct.pack_into" ⟨[a,b,c,d],[]⟩:=by unfold argsOk;kernel_rfl
section
variable {prog:Program}{w:World}{A:Around}{E:Value→Shared→Prop}{s:Shared}
theorem xj{sa a:Addr}{ch:Char}{c:UInt8}{wd:Nat}{fs:Array Value}{t u:Tok}{Qr:Array (Option Value)}{d:Option Addr}{sl:Array (Option Value)}{b:List UInt8}{p:Int}{v:Value}{raw:Array UInt8}{Q:Value→Shared→Prop}
  (iU:s.heap.get? sa=some ⟨.type "_struct.Struct",Option.none,.fields fs,Qr⟩) (hf:fs[0]?=some (.bytes #[60,c] t)) (hp:Struct.parse #[60,c]=pure (cN ch wd)) (Ad:raw.size=wd)
  (each:∀{A:Around}{E:Value→Shared→Prop}{i:String}{put:Unit→Nat→Array UInt8→Sem Unit}{src:Value→Nat→Nat→Sem Unit}{Q:Unit→Shared→Prop}{s:Shared},wpAny (model prog w) A (put () 0 raw) Q E s→wpAny (model prog w) A (Struct.packEach i (cN ch wd) [v] () put src) Q E s)
  (ho:s.heap.get? a=some ⟨.type "bytearray",d,.bytearray b.toArray 0,sl⟩) (h0:0≤p) (h1:p+wd≤b.length) (hz:b.length≤1000000)
  (h:∀h',(∀b o,s.heap.get? b=some o→b≠a→h'.get? b=some o)→h'.get? a=some ⟨.type "bytearray",d,.bytearray (putAt b p.toNat raw.toList).toArray 0,sl⟩→Q .none { s with heap:=h' }) :
  wpAny (model prog w) A (call (.builtin "_struct.Struct.pack_into") [.ref sa,.ref a,.int p u,v]) Q E s:=by
 haveI hT:s.TypeIs (.ref sa) "_struct.Struct":=⟨_,iU,rfl⟩;have zA:∀{A':Around}{Q':Value→Shared→Prop}{E':Value→Shared→Prop},Q' (.bytes #[60,c] t) s→wpAny (model prog w) A' (field (.ref sa) 0) Q' E' s:=fun h=>wpAny_field iU rfl hf h
 refine wpAny_call (codeAny_call_builtin rT.plain Bw (rT.check _ _ _ _ _ _ _ _ hT (DR _ _ _ _) ?_));unfold Builtin.«_struct.Struct.pack_into»;refine wpAny_bind (wpAny_of_eq (a:=()) rfl ?_);dsimp only;refine wpAny_bind ?_;unfold Struct.structFormat;refine wpAny_bind (zA ?_);dsimp only;refine PySem.bm_if_false rfl ?_;refine wpAny_bind (wpAny_of_eq (a:=#[60,c]) rfl ?_);rw[hp];refine wpAny_bind (wpAny_pure (wpAny_pure ?_));refine wpAny_bind (zA ?_);unfold Struct.packInto;refine PySem.bm_if_false rfl ?_;dsimp only;refine wpAny_bind (wpAny_specialOf (T:="bytearray") ⟨_,ho,rfl⟩ i7 ?_);refine wpAny_bind (dB ho rfl ?_);refine wpAny_bind (wpAny_pure (wpAny_pure (show _∧_ from⟨by kernel_rfl,codeAny_builtin o9 ?_⟩)));unfold Builtin.«_struct.pack_into.held»;show wpAny _ _ (do let fm ←Struct.parse #[60,c];Struct.packHeld (if Value.ref sa==.none then "_struct.pack_into" else "_struct.Struct.pack_into") fm (.ref a) 0 b.length (.int p u) [v]) _ _ _;rw[hp];refine wpAny_bind (wpAny_pure ?_);exact rR Ad (fun h=>each h) ho h0 h1 hz fun h' hk hg=>h h' hk hg
end
end
structure Hg(G:Ctx)(a:Addr)(w:Nat×Bool×Bool)(ch:Char)(c:UInt8)(fs:Array Value)(t:Tok)(sl:Array (Option Value)):Prop where
 ho:G.h₀.get? a=some ⟨.type "_struct.Struct",Option.none,.fields fs,sl⟩
 hf:fs[0]?=some (.bytes #[60,c] t)
 hp:Struct.parse #[60,c]=pure (cN ch w.1)
 each:∀{A:Around}{E:Value→Shared→Prop}{s:Shared}{i:String}{k:Int}{t:Tok}{put:Unit→Nat→Array UInt8→Sem Unit}{src:Value→Nat→Nat→Sem Unit}{Q:Unit→Shared→Prop},
   (if w.2.1 then -(2^(8*w.1-1)) else 0)≤k∧k<(if w.2.1 then 2^(8*w.1-1) else 2^(8*w.1))→wpAny (model G.prog G.w) A (put () 0 (Struct.intBytes false w.1 k)) Q E s→wpAny (model G.prog G.w) A (Struct.packEach i (cN ch w.1) [.int k t] () put src) Q E s
structure sE(G:Ctx):Prop where
 ok:∀{a:Addr}{w:Nat×Bool×Bool}{P:Prop},G.tb.pack a=some w→(∀ch c fs t sl,Hg G a w ch c fs t sl→P)→P
theorem Kt(r:ae h ρ N [x,y,z] vals):∃v u w,vals=[v,u,w]∧av h ρ N x v∧av h ρ N y u∧av h ρ N z w:=by
 unfold ae at r;obtain⟨v,r',rfl,e1,e2⟩:=r;obtain⟨u,w,rfl,e3,e4⟩:=AX e2;exact⟨v,u,w,rfl,e1,e3,e4⟩
theorem R.Aw(h:R.ok a s=.ok b t):a=b∧s=t:=by cases h;exact⟨rfl,rfl⟩
theorem HY{ρ N:List Addr}{s:Shared}{st st':St}{v:AV}{sa:Addr}{args:List AV}{vals:List Value}(I:Inv G ρ N st s.heap)(hv:ae s.heap ρ N args vals)(he:Sv.aD G.tb .packInto (.ba (.ref sa)) args st=.ok v st'){P:Prop}
  (k:∀{w:Nat×Bool×Bool}{i:Nat}{a:Addr}{b:List UInt8}{p x:Int}{d:Option Addr}{sl:Array (Option Value)}{t2 t3:Tok},G.tb.pack sa=some w→ρ[i]?=some a→s.heap.get? a=some ⟨.type "bytearray",d,.bytearray b.toArray 0,sl⟩→vals=[.ref a,.int p t2,.int x t3]→(0≤p∧p+w.1≤b.length∧b.length≤1000000) →
   ((if w.2.1 then -(2^(8*w.1-1)) else 0)≤x∧x<(if w.2.1 then 2^(8*w.1-1) else 2^(8*w.1)))→v=.none→st'=st.set i (.aJ (putAt b p.toNat (leB w.1 x)))→P):P:=by
 obtain⟨x,y,z,ha,he⟩:=xa he;obtain⟨v1,v2,v3,q,h1,h2,h3⟩:=Kt (ha▸hv);exact R.oE he (fun e=>by cases e) fun s1 h he=>bO h fun s0 e0 h=>bO h fun a e1 h=>bO h fun i e2 h=>bO h fun p e3 h=>bO h fun w e4 h=>gO h fun e5 h=>bO h fun ob e6 h=>bO h fun b e7 h=>gO h fun e8 h=>bO h fun y' e9 h=>gO h fun zI hl=>
  (h2.bt e3).elim fun t2 q2=>(h3.bt e9).elim fun t3 q3=>(I.obj (x:=.aJ b) (ao.kJ e7▸e6) (AV.du e2▸h1)).elim fun a' r=>r.elim fun o r=>Exists.elim r.2.2.2 fun d g=>g.elim fun sl g=>
   k (cQ (show refOf (.ref sa)=some a from cQ e0▸e1)▸e4) r.1 (g▸r.2.2.1) (by rw[q,r.2.1,q2,q3]) (d6 e8) (d6 zI) (R.Aw he).1.symm ((R.Aw he).2.symm.trans (cQ hl).symm)
theorem vH(hP:sE G){A:Around}{ρ N:List Addr}{s:Shared}{st st':St}{v:AV}{sa:Addr}{args:List AV}{vals:List Value}{E:Value→Shared→Prop}(I:Inv G ρ N st s.heap)(hv:ae s.heap ρ N args vals)
  (he:Sv.aD G.tb .packInto (.ba (.ref sa)) args st=.ok v st'):wpAny (model G.prog G.w) A (call (.builtin "_struct.Struct.pack_into") (.ref sa::vals)) (Ends G ρ N s st' v) E s:=
 HY I hv he fun hw r1 II q hr hq e1 e2=>hP.ok hw fun ch c fs t sl pa=>by
  rw[q,e1,e2];exact xj (I.base _ _ pa.ho) pa.hf pa.hp (by rw[←Array.length_toList,kB];simp[leB]) (fun h=>pa.each hq h) II hr.1 hr.2.1 hr.2.2 fun h' hk hg=>⟨ρ,bG.set r1 hk,I.set r1 hk (by rw[←kB];exact hg) fun j=>⟨_,_,rfl⟩,rfl⟩
set_option tactic.hygienic true in
theorem SE.pack(hP:sE G)(hb:∀env aH,attributeBase o "pack_into" env aH=aH)(hl:(cF.endLine==pos.line)=true)(hlen:ps.length<20)(ha:SE G rc nm sc n o a)(hp:bq ps)(DL:lr G rc nm sc n ps es) :
 SE G rc nm sc n (.Call (.Attribute o "pack_into" cF) ps [] pos) (.aD a .packInto es):=fun {env A ρ N s lc st st' v} E F I hA he=>by
 refine R.bE he R.ay fun x eo h0 he=>?_
 split at he
 ·rename_i hk
  refine R.bE he R.ay fun vs af h1 he=>?_
  obtain⟨sa,w,rfl,hq⟩:∃sa w,x=.ba (.ref sa)∧G.tb.pack sa=some w:=by
   obtain⟨_,_,_,_,hf⟩:=xa he;exact R.oE hf (fun e=>by cases e) fun s1 h j=>bO h fun s0 e0 h=>bO h fun a e1 h=>bO h fun i e2 h=>bO h fun p e3 h=>bO h fun w e4 h=>⟨a,w,by rw[AV.tW e0,iA e1],e4⟩
  refine hP.ok hq fun ch c fs t sl pa=>?_
  haveI ho:=pa.ho;refine tv hb hl (q9 hp rfl (by simp;exact(aO 0x1e02110110041140210019) hlen)) fun pl=>K.ends (ha E F I hA h0) fun ov aa ρ₁ aE aw aS=>⟨fun fx s'=>fx=(.builtin "_struct.Struct.pack_into",[ov])∧s'=aa,?_,fun fx s' AM=>?_⟩
  ·obtain rfl:=aS
   exact getMethod_builtin ⟨_,aw.base _ _ ho,rfl⟩ AJ rT Cv (fun b e=>by cases e;exact⟨_,aw.base _ _ ho,rfl⟩) ⟨rfl,rfl⟩
  obtain rfl:=aS;obtain⟨rfl,rfl⟩:=AM;refine En hp (K.fQ (DL pos E (F.bX aE) aw hA h1) fun vals ag ρ₂ bk aM br=>K.of ?_);exact wpAny_mono (vH hP aM br he) (fun j j h=>h.after (aE.trans bk)) fun j j x=>x
 ·cases he
theorem mP(f:Nat→List UInt8):∀(l:List Nat)(acc:Array UInt8),l.foldl (fun acc c=>acc++(f c).toArray) acc=acc++(l.flatMap f).toArray
 |[],acc=>by simp
 |x::l,acc=>by rw[List.foldl_cons,mP f l];simp
theorem qF(x:Str)(t u:Tok):Builtin.«str.encode» ⟨[.str x t,.str (Str.ofString "utf-8") u],[]⟩=(do ret (←_codecs.encodeRoad "str.encode" (.str x t) x (Str.ofString "utf-8") Option.none)):=by kernel_rfl
set_option tactic.hygienic true in
theorem qH:lp G n "str.encode" .encode:=fun {A ρ N s st st' v x args vals xv} E I hA hx hv he=>by
 simp only[Sv.aD] at he;obtain⟨y,rfl,hf⟩:=iD he;replace he:=hf;clear hf;obtain⟨yv,rfl,hy⟩:=ib hv;split at he
 ·rename_i x0 e
  split at he
  ·rename_i q
   haveI q':e=(Str.ofString "utf-8"):=by simpa using q
   subst q';obtain⟨rfl,hw⟩:=R.cq he;obtain⟨b,hb,rfl⟩:=Option.map_eq_some_iff.mp hw;unfold so at hb;split at hb
   ·rename_i hs
    split at hb
    ·rename_i hz
     cases hb;obtain⟨t,rfl⟩:=hx;obtain⟨u,rfl⟩:=hy;have jl:x0.cps.foldl (fun acc c=>acc++(Str.utf8Of c).toArray) #[]=(x0.cps.toList.flatMap Str.utf8Of).toArray:=by
      rw[←Array.foldl_toList,mP];simp
     refine wpAny_call (codeAny_call_builtin PySem.F.slot_str_encode.plain PySem.F.entry_str_encode (PySem.F.slot_str_encode.check _ _ _ _ _ _ _ _ (typeIs_str _ _ _) (PySem.F.args_str_encode_2 _ _) ?_));rw[qF];show wpAny _ _ (do ret (←_codecs.encodeRoad "str.encode" (.str x0 t) x0 (Str.ofString "utf-8") Option.none)) _ _ _;rw[encodeRoad_utf8,tU _ _ _ hs (by rw[jl,sizeLine_eq,List.size_toArray];exact(aO 0x1000000071000f42400510009) hz),jl];refine wpAny_bind (wpAny_bind (wpAny_pure (wpAny_mkBytes ?_ (by rw[sizeLine_eq,List.size_toArray];exact(aO 0x1000000071000f42400510009) hz))));exact wpAny_pure (Ends.here (v:=.bytes (x0.cps.toList.flatMap Str.utf8Of)) I ⟨_,rfl⟩)
    ·cases hb
   ·cases hb
  ·cases he
 ·cases he
noncomputable def own(env:Env):List Addr:=env.locals::env.cells.map (·.2)
structure cR(env:Env)(s:Shared)(ρ:List Addr)(s':Shared)(aF:List Addr):Prop where
 pre:ρ <+: aF
 fresh:∀a∈aF,a∈ρ∨s.heap.get? a=Option.none
 keep:∀b o,s.heap.get? b=some o→b∉ρ→b∉own env→s'.heap.get? b=some o
 live:∀b∈own env,∀o,s.heap.get? b=some o→∃o',s'.heap.get? b=some o'
 os:s'.os=s.os
 gens:s'.gens=s.gens
theorem bG.local(X:bG s ρ s' aF)(h:∀b∈own env,b∉ρ):cR env s ρ s' aF:=⟨X.pre,X.fresh,fun b o e n j=>X.keep b o e n,fun b m o e=>⟨o,X.keep b o e (h b m)⟩,X.os,X.gens⟩
theorem cR.refl:cR env s ρ s ρ:=⟨List.prefix_refl _,fun j x=>.inl x,fun j j e j j=>e,fun b j o e=>⟨o,e⟩,rfl,rfl⟩
theorem cR.trans{env:Env}{s aa ag:Shared}{ρ ρ₁ ρ₂:List Addr}(X:cR env s ρ aa ρ₁)(Y:cR env aa ρ₁ ag ρ₂):cR env s ρ ag ρ₂ where
 pre:=X.pre.trans Y.pre
 live:=fun b m o e=>let ⟨o',e'⟩:=X.live b m o e;Y.live b m o' e'
 fresh:=fun a m=>by
  rcases Y.fresh a m with h|h
  ·exact X.fresh a h
  ·by_cases hm:a∈ρ
   ·exact .inl hm
   ·right
    cases e:s.heap.get? a with
    |none=>rfl
    |some o=>
     by_cases ho:a∈own env
     ·obtain⟨o',e'⟩:=X.live a ho o e
      rw[e'] at h;cases h
     ·rw[X.keep a o e hm ho] at h;cases h
 keep:=fun b o e n n2=>by
  haveI h1:=X.keep b o e n n2;refine Y.keep b o h1 (fun m=>?_) n2;rcases X.fresh b m with h|h
  ·exact n h
  ·rw[e] at h;cases h
 os:=Y.os.trans X.os
 gens:=Y.gens.trans X.gens
theorem Inv.JB{ρ N:List Addr}{st:St}{h h':Heap}{nY:Addr}{pB o':Obj}(I:Inv G ρ N st h)(hn:G.h₀.get? nY=Option.none)(IB:nY∉ρ)(h0:h.get? nY=some pB)(hi:¬jQ pB)(hf:∀vs,pB.data≠.fields vs)
  (k:∀b o,h.get? b=some o→b≠nY→h'.get? b=some o) (ho:h'.get? nY=some o'):Inv G ρ N st h' where
 base:=fun b o e=>k b o (I.base b o e) fun q=>by rw[q,hn] at e;cases (e)
 len:=I.len
 nodup:=I.nodup
 new:=I.new
 apart:=I.apart
 lO:=fun a m=>by
  obtain⟨o,e⟩:=I.lO a m
  by_cases q:a=nY
  ·exact⟨o',q▸ho⟩
  ·exact⟨o,k a o e q⟩
 exc:=fun x e=>⟨(I.exc x e).1,k _ _ (I.exc x e).2 fun q=>by
  haveI:=(I.exc x e).2
  rw[q,h0] at this;exact hf x.vs (by rw[show pB=x.o from cQ this];exact x.hd)⟩
 objs:=fun i a x e1 e2=>by
  obtain⟨o,he,r⟩:=I.objs i a x e1 e2;exact⟨o,k a o he fun q=>IB (q▸List.mem_of_getElem? e1),r.mono ⟨List.prefix_refl _,fun j m=>.inl m,fun b o e j j jN=>k b o e fun q=>by
   rw[q,h0] at e;cases (e);exact hi jN⟩⟩
structure uU(G:Ctx)(sc:List (Str×NameKind))(env:Env)(ρ:List Addr)(h:Heap):Prop where
 new:∀b∈own env,G.h₀.get? b=Option.none
 bC:∀b∈own env,b∉ρ
 kind:∀b∈own env,∃o,h.get? b=some o∧¬jQ o∧∀vs,o.data≠.fields vs
 cell:∀x c,env.cells.lookup x=some c→c≠env.locals∧∃v,h.IsCell c v
 apart:∀x y c,env.cells.lookup x=some c→env.cells.lookup y=some c→x=y
 has:∀x,sc.lookup x=some .cell→env.kindOf x=some .cell∧∃c,env.cells.lookup x=some c
theorem cA(h:env.cells.lookup x=some c):c∈own env:=List.mem_cons_of_mem _ (List.mem_map.mpr ⟨(x,c),mem_of_lookup h,rfl⟩)
theorem aI:env.locals∈own env:=List.mem_cons_self
theorem uU.bX{env:Env}{ρ aF:List Addr}{s s':Shared}(F:uU G sc env ρ s.heap)(X:bG s ρ s' aF):uU G sc env aF s'.heap where
 new:=F.new
 bC:=fun b m m'=>by
  rcases X.fresh b m' with q|q
  ·exact F.bC b m q
  ·obtain⟨o,e,_⟩:=F.kind b m;rw[e] at q;cases q
 kind:=fun b m=>let ⟨o,e,r⟩:=F.kind b m;⟨o,X.keep b o e (F.bC b m),r⟩
 cell:=fun x c e=>⟨(F.cell x c e).1,let ⟨v,o,ho,hd⟩:=(F.cell x c e).2;⟨v,o,X.keep c o ho (F.bC c (cA e)),hd⟩⟩
 apart:=F.apart
 has:=F.has
structure Bd(G:Ctx)(nm:List Str)(sc:List (Str×NameKind))(env:Env)(ρ N:List Addr)(st:St)(lc:Lc)(s:Shared):Prop where
 fm:Fm nm sc env ρ N s.heap lc
 fr:uU G sc env ρ s.heap
 inv:Inv G ρ N st s.heap
theorem Bd.bX{env:Env}{ρ aF N:List Addr}{st st':St}{lc:Lc}{s s':Shared}(B:Bd G nm sc env ρ N st lc s)(X:bG s ρ s' aF)(I:Inv G aF N st' s'.heap):Bd G nm sc env aF N st' lc s':=⟨B.fm.bX X,B.fr.bX X,I⟩
theorem Bd.loc{env:Env}{ρ aF N:List Addr}{st:St}{lc:Lc}{s s':Shared}(B:Bd G nm sc env ρ N st lc s)(X:bG s ρ s' aF):cR env s ρ s' aF:=X.local B.fr.bC
theorem ni{h:Heap}{a:Addr}{m:Str→Option Value}(x:h.Ns a m):∃o,h.get? a=some o∧¬jQ o∧∀vs,o.data≠.fields vs:=by
 obtain⟨o,es,ep,ho,hd,r⟩:=x;obtain⟨c,d,dt,sl⟩:=o;simp only at hd;subst hd;exact⟨_,ho,fun q=>q,fun vs q=>by cases q⟩
theorem nQ{h:Heap}{a:Addr}{v:Option Value}(x:h.IsCell a v):∃o,h.get? a=some o∧¬jQ o∧∀vs,o.data≠.fields vs:=by
 obtain⟨o,ho,hd⟩:=x;obtain⟨c,d,dt,sl⟩:=o;simp only at hd;subst hd;exact⟨_,ho,fun q=>q,fun vs q=>by cases q⟩
theorem mV{i:Nat}{x:Str}{v:AV}{lc:Lc}(hi:nm[i]?=some x)(jO:nm.Nodup){j:Nat}{y:Str}{z:AV}(hj:nm[j]?=some y)(hz:(lc.set i (some v))[j]?=some (some z)){P:Prop}(k1:y=x→z=v→P)(k2:y≠x→lc[j]?=some (some z)→P):P:=by
 by_cases q:i=j
 ·rw[←q] at hj hz
  by_cases hl:i<lc.length
  ·rw[List.getElem?_set_self hl] at hz
   exact k1 (cQ (hj.symm.trans hi)) (cQ (cQ hz)).symm
  ·rw[List.getElem?_eq_none (by simpa using hl)] at hz;cases hz
 ·rw[List.getElem?_set_ne q] at hz
  exact k2 (fun e=>q ((List.getElem?_inj (List.getElem?_eq_some_iff.mp hi).1 jO).mp (by rw[hj,hi,e]))) hz
theorem Fm.store{env:Env}{ρ N:List Addr}{h h':Heap}{lc:Lc}{i:Nat}{x:Str}{v:AV}{val:Value}{m m':Str→Option Value}(F:Fm nm sc env ρ N h lc)(hi:nm[i]?=some x)(jO:nm.Nodup)(hv:av h ρ N v val)(X:Ext N h ρ h' ρ)(kind:∀c∈own env,∃o,h'.get? c=some o)
  (hm:∀(i:Nat)(x:Str)(v:AV),nm[i]?=some x→lc[i]?=some (some v)→sc.lookup x=some .local→∃val,m x=some val∧av h ρ N v val) (wI:h'.Ns env.locals m') (L1:sc.lookup x=some .local→m' x=some val) (L2:∀y w,y≠x→m y=some w→m' y=some w)
  (C1:sc.lookup x=some .cell∨sc.lookup x=some .free→∃c,env.cells.lookup x=some c∧h'.IsCell c (some val)) (C2:∀y c w,y≠x→env.cells.lookup y=some c→h.IsCell c (some w)→h'.IsCell c (some w)):Fm nm sc env ρ N h' (lc.set i (some v)):=
 ⟨F.kind,F.names,F.glob,F.blt,F.has,⟨m',wI,fun j y z hj hz hy=>mV hi jO hj hz (fun e1 e2=>⟨val,by rw[e1] at hy ⊢;exact L1 hy,by rw[e2];exact hv.mono X⟩) fun ne hz=>(hm j y z hj hz hy).elim fun w e=>⟨w,L2 y w ne e.1,e.2.mono X⟩⟩,
  fun j y z hj hz hy=>mV hi jO hj hz (fun e1 e2=>by rw[e1] at hy ⊢;rw[e2];exact(C1 hy).elim fun c e=>⟨c,val,e.1,e.2,hv.mono X⟩) fun ne hz=>(F.B6 j y z hj hz hy).elim fun c e=>e.elim fun w e=>⟨c,w,e.1,C2 y c w ne e.1 e.2.1,e.2.2.mono X⟩,
  F.bC.1,fun y c hc=>⟨(F.bC.2 y c hc).1,kind c (cA hc)⟩⟩
structure Rm(G:Ctx)(env:Env)(ρ N:List Addr)(st:St)(s:Shared)(h':Heap)(a:Addr):Prop where
 keep:∀b o,s.heap.get? b=some o→b≠a→h'.get? b=some o
 ext:Ext N s.heap ρ h' ρ
 kind:∀b∈own env,∃o,h'.get? b=some o∧¬jQ o∧∀vs,o.data≠.fields vs
 bX:∀t,cR env s ρ { s with heap:=h',toks:=t } ρ
 inv:Inv G ρ N st h'
theorem Bd.chg{env:Env}{ρ N:List Addr}{s:Shared}{lc:Lc}{st:St}{h':Heap}{a:Addr}{pB xD:Obj}(B:Bd G nm sc env ρ N st lc s)(ma:a∈own env)(hs:∀b,b≠a→h'.get? b=s.heap.get? b)(h0:s.heap.get? a=some pB)(i0:¬jQ pB)(f0:∀vs,pB.data≠.fields vs)
  (h1:h'.get? a=some xD) (i1:¬jQ xD) (f1:∀vs,xD.data≠.fields vs):Rm G env ρ N st s h' a:=
 have k:∀b o,s.heap.get? b=some o→b≠a→h'.get? b=some o:=fun b o e ne=>(hs b ne).trans e
 have kd:∀b∈own env,∃o,h'.get? b=some o∧¬jQ o∧∀vs,o.data≠.fields vs:=fun b mb=>(Decidable.em (b=a)).elim (fun q=>⟨xD,q▸h1,i1,f1⟩) fun q=>(B.fr.kind b mb).elim fun o e=>⟨o,k b o e.1 q,e.2⟩
 ⟨k,⟨List.prefix_refl _,fun u m=>.inl m,fun b o e u u jN=>k b o e fun q=>i0 (by rw[q,h0] at e;exact cQ e▸jN)⟩,kd,
  fun t=>⟨List.prefix_refl _,fun u m=>.inl m,fun b o e u n2=>k b o e fun q=>n2 (q▸ma),fun b mb o e=>(kd b mb).elim fun o' e'=>⟨o',e'.1⟩,rfl,rfl⟩,B.inv.JB (B.fr.new _ ma) (B.fr.bC _ ma) h0 i0 f0 k h1⟩
theorem tF{env:Env}{A:Around}{ρ N:List Addr}{s:Shared}{lc:Lc}{st:St}{i:Nat}{x:Str}{k:NameKind}{v:AV}{val:Value}{E:Value→Shared→Prop}{Q:Unit→Shared→Prop}
  (B:Bd G nm sc env ρ N st lc s) (hi:nm[i]?=some x) (jO:nm.Nodup) (hk:sc.lookup x=some k) (Cb:k=.local∨k=.cell) (hv:av s.heap ρ N v val)
  (h:∀s',cR env s ρ s' ρ→Bd G nm sc env ρ N st (lc.set i (some v)) s'→Q () s'):wpAny (model G.prog G.w) A (storeName env x val) Q E s:=by
 obtain⟨m,hn,hm⟩:=B.fm.loc;rcases Cb with Cb|Cb<;>rw[Cb] at hk
 ·have hl:env.kindOf x=some .local:=(B.fm.names x _ hk).elim id fun q=>nomatch q.1
  refine wpAny_storeName_local hl hn (fun h' wI hs=>?_) (by rw[B.fm.kind];rfl);obtain⟨pB,Bf,zx,BH⟩:=ni hn;obtain⟨xD,Am,Bl,B0⟩:=ni wI;have C:=B.chg aI hs.2 Bf zx BH Am Bl B0;exact h _ (C.bX _) ⟨B.fm.store hi jO hv C.ext (fun c mc=>(C.kind c mc).elim fun o e=>⟨o,e.1⟩) hm wI (fun j=>by simp) (fun y w ne e=>by simp[ne,e]) (fun q=>by rw[hk] at q;exact q.elim (fun q=>nomatch q) fun q=>nomatch q)
    fun y c w ne hc ⟨o,ho,hd⟩=>⟨o,C.keep c o ho (B.fr.cell y c hc).1,hd⟩,
   ⟨B.fr.new,B.fr.bC,C.kind,fun y c e=>⟨(B.fr.cell y c e).1,(B.fr.cell y c e).2.elim fun v q=>q.elim fun o q=>⟨v,o,C.keep c o q.1 (B.fr.cell y c e).1,q.2⟩⟩,B.fr.apart,B.fr.has⟩,C.inv⟩
 ·obtain⟨hl,c,hc⟩:=B.fr.has x hk
  obtain⟨lR,PD,EC⟩:=B.fr.cell x c hc;refine wpAny_storeName_cell B.fm.kind hl hc EC fun h' wI hs=>?_
  obtain⟨pB,Bf,zx,BH⟩:=nQ EC;obtain⟨xD,Am,Bl,B0⟩:=nQ wI;have C:=B.chg (cA hc) hs.2 Bf zx BH Am Bl B0;exact h _ (C.bX _) ⟨B.fm.store hi jO hv C.ext (fun c mc=>(C.kind c mc).elim fun o e=>⟨o,e.1⟩) hm (hn.at' fun o e=>C.keep _ o e (Ne.symm lR)) (fun q=>by rw[hk] at q;exact nomatch q) (fun y w ne e=>e) (fun j=>⟨c,hc,wI⟩)
    fun y c' w ne B8 ⟨o,ho,hd⟩=>⟨o,C.keep c' o ho fun q=>ne (B.fr.apart y x c (q▸B8) hc),hd⟩,
   ⟨B.fr.new,B.fr.bC,C.kind,fun y c' e=>⟨(B.fr.cell y c' e).1,(Decidable.em (c'=c)).elim (fun q=>⟨_,q▸wI⟩) fun q=>(B.fr.cell y c' e).2.elim fun v p=>p.elim fun o p=>⟨v,o,C.keep c' o p.1 q,p.2⟩⟩,B.fr.apart,B.fr.has⟩,C.inv⟩
noncomputable def jA(h:Heap)(ρ N:List Addr):Fl→Flow→Prop
 |.next,f=>f=.next
 |.cont,f=>f=.cont
 |.ret v,f=>∃x,f=.ret x∧av h ρ N v x
inductive qa(G:Ctx)(nm:List Str)(sc:List (Str×NameKind))(env:Env)(ρ N:List Addr)(s:Shared)(fl:Fl)(aK:Lc)(st':St)(f:Flow)(s':Shared):Prop where
 |mk (aF:List Addr) (a:cR env s ρ s' aF) (i:Bd G nm sc env aF N st' aK s') (r:jA s'.heap aF N fl f)
theorem K.pO{M:Model}{A:Around}{m:Sem Flow}{E:Value→Shared→Prop}{G:Ctx}{nm:List Str}{sc:List (Str×NameKind)}{env:Env}{ρ N:List Addr}{s bD:Shared}{fl:Fl}{aK:Lc}{st':St}{Q:Flow→Shared→Prop}(h:au M A m (qa G nm sc env ρ N bD fl aK st') E s)(k:∀f s' aF,cR env bD ρ s' aF→Bd G nm sc env aF N st' aK s'→jA s'.heap aF N fl f→Q f s'):au M A m Q E s:=
 K.mono h (fun f s' h=>h.rec (k f s')) fun j j x=>x
def SS(G:Ctx)(rc:RC)(nm:List Str)(sc:List (Str×NameKind))(n:Nat)(p:Stmt)(e:S):Prop:=
 ∀{env:Env}{A:Around}{ρ N:List Addr}{s:Shared}{lc aK:Lc}{st st':St}{fl:Fl}(E:Value→Shared→Prop),Bd G nm sc env ρ N st lc s→iZ G n A→eK G.tb rc e lc st=.ok fl aK st' →
  au (model G.prog G.w) A (exec p env) (qa G nm sc env ρ N s fl aK st') E s
def mL(G:Ctx)(rc:RC)(nm:List Str)(sc:List (Str×NameKind))(n:Nat)(p:List Stmt)(e:Ss):Prop:=
 ∀{env:Env}{A:Around}{ρ N:List Addr}{s:Shared}{lc aK:Lc}{st st':St}{fl:Fl}(E:Value→Shared→Prop),Bd G nm sc env ρ N st lc s→iZ G n A→aT G.tb rc e lc st=.ok fl aK st' →
  au (model G.prog G.w) A (execs p env) (qa G nm sc env ρ N s fl aK st') E s
theorem qa.after(A:cR env s ρ aa ρ₁)(h:qa G nm sc env ρ₁ N aa fl aK st' f s'):qa G nm sc env ρ N s fl aK st' f s':=
 h.rec fun aF a b c=>⟨aF,A.trans a,b,c⟩
theorem R.xE{α:Type}{lc:Lc}{r:R α}{f:α→St→X}{t:X}{P:Prop}(h:r.gy lc f=t)(ht:t≠.stuck)(k:∀x af,r=.ok x af→f x af=t→P):P:=by
 cases r with
 |ok a st=>exact k a st rfl h
 |exc k st=>exact absurd h.symm ht
 |stuck=>exact absurd h.symm ht
theorem X.ay{fl:Fl}{lc:Lc}{st:St}:X.ok fl lc st≠.stuck:=fun h=>by cases h
theorem X.b8{k:Nat}{lc:Lc}{st:St}:X.exc k lc st≠.stuck:=fun h=>by cases h
@[elab_as_elim] theorem X.Rg{P:Fl→Lc→St→Prop}{a:Fl}{b:Lc}{c:St}{fl:Fl}{aK:Lc}{st':St}(h:X.ok a b c=.ok fl aK st')(k:P a b c):P fl aK st':=by cases h;exact k
@[elab_as_elim] theorem X.oK{P:Fl→Lc→St→Prop}{lc:Lc}{o:Option St}{fl:Fl}{aK:Lc}{st':St}(h:X.ei lc o=.ok fl aK st')(k:∀af,o=some af→P .next lc af):P fl aK st':=by
 cases o with
 |none=>cases h
 |some a=>cases h;exact k _ rfl
theorem R.Gj{α:Type}{lc aK:Lc}{r:R α}{f:α→St→X}{fl:Fl}{st':St}(h:r.gy lc f=.ok fl aK st'):∃x af,r=.ok x af∧f x af=.ok fl aK st':=by
 cases r with
 |ok a st=>exact⟨a,st,rfl,h⟩
 |exc k st=>cases h
 |stuck=>cases h
theorem R.AG{α:Type}{lc aK:Lc}{r:R α}{f:α→St→X}{fl:Fl}{st':St}(h:r.Fs lc f=.ok fl aK st'):∃x af,r=.ok x af∧f x af=.ok fl aK st':=by
 cases r with
 |ok a st=>exact⟨a,st,rfl,h⟩
 |exc k st=>cases h
 |stuck=>cases h
theorem mL.nil:mL G rc nm sc n [] .nil:=fun {env A ρ N s lc aK st st' fl} E B hA he=>by
 cases he;exact K.pure ⟨ρ,cR.refl,B,rfl⟩
theorem mL.cons(h:SS G rc nm sc n p e)(hs:mL G rc nm sc n ps es):mL G rc nm sc n (p::ps) (.cons e es):=fun {env A ρ N s lc aK st st' fl} E B hA he=>by
 rw[execs_cons];haveI he:(eK G.tb rc e lc st).next (fun lc st=>aT G.tb rc es lc st)=.ok fl aK st':=he;cases q:eK G.tb rc e lc st with
 |ok f1 lc1 af=>
  rw[q] at he;refine K.bind (K.pO (h E B hA q) fun f aa ρ₁ X bW F=>?_);cases f1 with
  |next=>
   obtain rfl:f=.next:=F;exact K.mono (hs E bW hA he) (fun j j h=>h.after X) fun j j x=>x
  |cont=>
   cases he;obtain rfl:f=.cont:=F;exact K.pure ⟨ρ₁,X,bW,rfl⟩
  |ret v=>
   cases he;obtain⟨y,rfl,hy⟩:=F;exact K.pure ⟨ρ₁,X,bW,y,rfl,hy⟩
 |exc k lc1 af=>rw[q] at he;cases he
 |stuck=>rw[q] at he;cases he
theorem SS.pass:SS G rc nm sc n (.Pass pos) .pass:=fun {env A ρ N s lc aK st st' fl} E B hA he=>by
 cases he;exact K.bind (K.standAt (K.pure ⟨ρ,cR.refl,B,rfl⟩))
theorem SS.cont:SS G rc nm sc n (.Continue pos) .cont:=fun {env A ρ N s lc aK st st' fl} E B hA he=>by
 cases he;exact K.bind (K.standAt (K.pure ⟨ρ,cR.refl,B,rfl⟩))
theorem SS.MZ:SS G rc nm sc n (.Return Option.none pos) (.ret Option.none):=fun {env A ρ N s lc aK st st' fl} E B hA he=>by
 cases he;exact K.bind (K.standAt (K.pure ⟨ρ,cR.refl,B,_,rfl,rfl⟩))
theorem SS.ret{p:Expr}{e:Sv.E}{pos:Pos}(h:SE G rc nm sc n p e):SS G rc nm sc n (.Return (some p) pos) (.ret (some e)):=fun {env A ρ N s lc aK st st' fl} E B hA he=>by
 refine R.xE (lc:=lc) he Sv.X.ay fun v af h1 he=>?_
 cases he;rw[exec_Return_some];exact K.bind (K.standAt (K.bind (K.ends (h E B.fm B.inv hA h1) fun val aa ρ₁ X aw V=>K.pure ⟨ρ₁,B.loc X,B.bX X aw,val,rfl,V⟩)))
theorem eD(h:env.scope.kind=.function):interactive env=false:=by unfold interactive;rw[h];rfl
theorem tY{e:Expr}{pos:Pos}{env:Env}{A:Around}{E:Value→Shared→Prop}{s:Shared}{Q:Flow→Shared→Prop}(h:au (model G.prog G.w) A (eval e env) (fun j=>Q .next) E s)
  (hi:interactive env=false) (hs:swapsWith e Option.none pos.line env=pure false):au (model G.prog G.w) A (exec (.Expr e pos) env) Q E s:=by
 rw[exec_Expr env e pos hi hs];exact K.bind (K.standAt (K.bind (K.mono h (fun v s' h'=>K.of (wpAny_dropValue h')) fun j j x=>x)))
theorem SS.expr{p:Expr}{e:Sv.E}{pos:Pos}(h:SE G rc nm sc n p e)(hs:∀env l,swapsWith p Option.none l env=pure false):SS G rc nm sc n (.Expr p pos) (.expr e):=fun {env A ρ N s lc aK st st' fl} E B hA he=>by
 refine R.xE (lc:=lc) he Sv.X.ay fun v af h1 he=>?_
 cases he;exact tY (K.ends (h E B.fm B.inv hA h1) fun val aa ρ₁ X aw V=>⟨ρ₁,B.loc X,B.bX X aw,rfl⟩) (eD B.fm.kind) (hs _ _)
theorem SS.fp{p:Expr}{e:Sv.E}{pos:Pos}(h:SE G rc nm sc n p e)(hs:∀env l,swapsWith p Option.none l env=pure false):SS G rc nm sc n (.Expr p pos) (.fp e):=fun {env A ρ N s lc aK st st' fl} E B hA he=>by
 obtain⟨v,af,h1,he⟩:=R.AG (lc:=lc) he;cases he;exact tY (K.ends (h E B.fm B.inv hA h1) fun val aa ρ₁ X aw V=>⟨ρ₁,B.loc X,B.bX X aw,rfl⟩) (eD B.fm.kind) (hs _ _)
theorem pJ{env:Env}{A:Around}{E:Value→Shared→Prop}{s:Shared}{x:Str}{v:Value}{Q:Unit→Shared→Prop}(h:wpAny (model G.prog G.w) A (storeName env x v) Q E s):au (model G.prog G.w) A (bindName env x v) Q E s:=K.of (wpAny_bindName h)
theorem ie{x:Str}{jM pos:Pos}{p:Expr}{env:Env}{A:Around}{E:Value→Shared→Prop}{s:Shared}{Q:Flow→Shared→Prop}(hs:swapsWith p (some (.Name x jM)) pos.line env=pure false)
  (h:au (model G.prog G.w) A (eval p env) (fun v aa=>wpAny (model G.prog G.w) A (storeName env x v) (fun j=>Q .next) E aa) E s):au (model G.prog G.w) A (exec (.Assign [.Name x jM] p pos) env) Q E s:=by
 rw[exec_Assign_Name env x jM p pos hs];exact K.bind (K.standAt (K.bind (K.mono h (fun v aa az=>K.bind (K.standAt (K.bind (K.mono (pJ az) (fun j ag bw=>K.pure bw) fun j j x=>x)))) fun j j x=>x)))
structure cJ(nm:List Str)(sc:List (Str×NameKind))(i:Nat)(x:Str):Prop where
 at_:nm[i]?=some x
 nodup:nm.Nodup
 kind:∃k,sc.lookup x=some k∧(k=.local∨k=.cell)
theorem cJ.store{i:Nat}{x:Str}(hx:cJ nm sc i x){env:Env}{A:Around}{ρ N:List Addr}{s:Shared}{lc:Lc}{st:St}{v:AV}{val:Value}{E:Value→Shared→Prop}{Q:Unit→Shared→Prop}
  (B:Bd G nm sc env ρ N st lc s) (hv:av s.heap ρ N v val)
  (h:∀s',cR env s ρ s' ρ→Bd G nm sc env ρ N st (lc.set i (some v)) s'→Q () s'):wpAny (model G.prog G.w) A (storeName env x val) Q E s:=
 let ⟨_,hk,Cb⟩:=hx.kind;tF B hx.at_ hx.nodup hk Cb hv h
theorem SS.assign{i:Nat}{x:Str}{jM pos:Pos}{p:Expr}{e:Sv.E}(hx:cJ nm sc i x)(h:SE G rc nm sc n p e)(hs:∀env,swapsWith p (some (.Name x jM)) pos.line env=pure false) :
  SS G rc nm sc n (.Assign [.Name x jM] p pos) (.assign i e):=fun {env A ρ N s lc aK st st' fl} E B hA he=>by
 refine R.xE (lc:=lc) he Sv.X.ay fun v af h1 he=>?_
 cases he;exact ie (hs _) (K.ends (h E B.fm B.inv hA h1) fun val aa ρ₁ X aw V=>hx.store (B.bX X aw) V fun ag Y fY=>⟨ρ₁,(B.loc X).trans Y,fY,rfl⟩)
theorem SS.cy{i:Nat}{x:Str}{jM pos:Pos}{p:Expr}{e:Sv.E}(hx:cJ nm sc i x)(h:SE G rc nm sc n p e)(hs:∀env,swapsWith p (some (.Name x jM)) pos.line env=pure false) :
  SS G rc nm sc n (.Assign [.Name x jM] p pos) (.cy i e):=fun {env A ρ N s lc aK st st' fl} E B hA he=>by
 obtain⟨v,af,h1,he⟩:=R.AG (lc:=lc) he;cases he;exact ie (hs _) (K.ends (h E B.fm B.inv hA h1) fun val aa ρ₁ X aw V=>hx.store (B.bX X aw) V fun ag Y fY=>⟨ρ₁,(B.loc X).trans Y,fY,rfl⟩)
theorem SS.ite{p:Expr}{e:Sv.E}{ps qs:List Stmt}{es fs:Ss}{pos:Pos}(hc:H2 G rc nm sc n p e)(ha:mL G rc nm sc n ps es)(hb:mL G rc nm sc n qs fs):SS G rc nm sc n (.If p ps qs pos) (.ite e es fs):=fun {env A ρ N s lc aK st st' fl} E B hA he=>by
 refine R.xE (lc:=lc) he Sv.X.ay fun v af h1 he=>?_
 rw[exec_If];cases q:truthy af v with
 |none=>rw[q] at he;cases he
 |some b=>
  rw[q] at he;refine K.bind (K.standAt (K.bind (K.eF (hc E B.fm B.inv hA h1 q) fun c aa yt ρ₁ X aw=>?_)));subst yt;cases c with
  |true=>exact K.mono (ha E (B.bX X aw) hA he) (fun j j h=>h.after (B.loc X)) fun j j x=>x
  |false=>exact K.mono (hb E (B.bX X aw) hA he) (fun j j h=>h.after (B.loc X)) fun j j x=>x
section
section
variable {ρ N:List Addr}{s:Shared}{st st':St}{A:Around}{E:Value→Shared→Prop}
theorem vR{K:Type}[DecidableEq K]{knd:KeyKind G.prog G.w K}{j:Nat}{a:Addr}{l:List (K×AV)}{kvs:List (K×Value)}{k:K}{key yv:Value}{y:AV}{mk:List (K×AV)→ao}{Q:Unit→Shared→Prop}(I:Inv G ρ N st s.heap)(ha:ρ[j]?=some a)(hd:s.heap.DictOf knd a kvs)(hk:eN s.heap ρ N l kvs)(hz:l.length≤1000000)(gU:knd.is k key=true)(hy:av s.heap ρ N y yv)
  (MJ:∀{h:Heap}{l:List (K×AV)}{o:Obj},yR knd h ρ N l o→dJ G h ρ N j (mk l) o)
  (hq:∀s',bG s ρ s' ρ→Inv G ρ N (st.set j (mk (fy l k y))) s'.heap→Q () s') :
  wpAny (model G.prog G.w) A (setItem (.ref a) key yv) Q E s:=by
 haveI hlen:kvs.length=l.length:=by haveI:=congrArg List.length hk.1;simpa using this.symm
 refine wpAny_setItem_pairs gU hd (fun h' CL hs=>?_) (by rw[hlen,sizeLine_eq];exact(aO 0x1000000071000f42400510009) hz);have kp:∀b o,s.heap.get? b=some o→b≠a→h'.get? b=some o:=fun b o e ne=>(hs.2 b ne).trans e
 have X:Ext N s.heap ρ h' ρ:=⟨List.prefix_refl _,fun z m=>.inl m,fun b o e n' z z=>kp b o e fun q=>n' (q▸List.mem_of_getElem? ha)⟩;obtain⟨o,ho,hr⟩:=w9 CL ((hk.mono X).stored (k:=k) (hy.mono X));exact hq _ (bG.set ha kp) (I.set ha kp ho fun z=>MJ hr)
theorem pM{K:Type}[DecidableEq K]{k:K}:∀(xs:List (K×Addr×Value)),(atKey xs k).isSome=(xs.any fun x=>decide (x.1=k))
 |[]=>rfl
 |x::xs=>by
  rw[List.any_cons,←pM xs];unfold atKey
  by_cases h:x.1=k<;>simp[h]
theorem eN.storedH{K:Type}[DecidableEq K]{h:Heap}{l:List (K×AV)}{xs:List (K×Addr×Value)}{k:K}{a:Addr}{v:AV}{x:Value}(e:eN h ρ N l (xs.map fun x=>(x.1,x.2.2)))(r:av h ρ N v x) :
  eN h ρ N (fy l k v) ((PySem.storedH xs k a x).map fun x=>(x.1,x.2.2)):=by
 unfold fy PySem.storedH;rw[e.any k,pM,List.any_map]
 haveI:(fun x:K×Addr×Value=>decide (x.1=k))=((fun kv=>decide (kv.1=k)) ∘ fun x:K×Addr×Value=>(x.1,x.2.2)):=rfl
 rw[←this];split
 ·haveI:=eN.put (k:=k) r e
  rw[List.map_map] at this ⊢;haveI hf:((fun x:K×Addr×Value=>(x.1,x.2.2)) ∘ PySem.putAt k x)=((fun kv:K×Value=>if kv.1=k then (kv.1,x) else kv) ∘ fun x:K×Addr×Value=>(x.1,x.2.2)):=by
   funext z
   simp only[Function.comp,PySem.putAt];split<;>rfl
  rw[hf];exact this
 ·rw[List.map_append]
  exact e.app r
theorem ae.set:∀{l:List AV}{vs:List Value},ae h ρ N l vs→av h ρ N v x→∀i,ae h ρ N (l.set i v) (vs.set i x)
 |[],vs,r,_,i=>by unfold ae at r;subst r;exact ae.nil
 |y::l,vs,r,e,i=>by
  unfold ae at r;obtain⟨z,r',rfl,e1,e2⟩:=r;cases i with
  |zero=>exact ae.cons e e2
  |succ i=>exact ae.cons e1 (ae.set e2 e i)
theorem rX{l:Addr}{o:Obj}{items:Array Value}{m:Nat}{k:Int}{t:Tok}{v:Value}{Q:Unit→Shared→Prop}(ho:s.heap.get? l=some o)(hc:o.cls=.type "list")(hd:o.data=.seq items m)
  (h0:0≤k) (Jq:k<2^63) (hn:k<items.size)
  (hQ:Q () { s with heap:=s.heap.update l (Obj.mapSeq (·.setIfInBounds k.toNat v)) }) :
  wpAny (model G.prog G.w) A (setItem (.ref l) (.int k t) v) Q E s:=by
 have hT:s.TypeIs (.ref l) "list":=⟨o,ho,hc⟩;unfold setItem
 try with_reducible refine wpAny_holding ?_
 first|refine wpAny_bind (wpAny_pure ?_)|skip
 refine wpAny_bind (wpAny_sequenceKey hT (by decide) ?_);refine wpAny_bind (wpAny_callSpecial?_slot (name:=Str.ofString "__setitem__") hT slot_list_setitem
  (wpAny_call_entry slot_list_setitem hT entry_list_setitem ?_ (args_list_setitem _ _ _)))
 show wpAny _ _ (Builtin.List.listSubscript? (.int k t)>>=_) _ _ s;refine wpAny_bind (wpAny_listSubscript_int (fitsIndex_of h0 Jq) ?_);clear Jq;obtain⟨j,rfl⟩:=Int.eq_ofNat_of_zero_le h0;have hj:j<items.size:=(aZ 0x1000110800849) hn;haveI CY:items[j]?=some items[j]:=Array.getElem?_eq_getElem hj;show wpAny _ _ ((seqItemAt l j>>=fun r=>pure (r.map (j,·)))>>=_) _ _ s;refine wpAny_bind (wpAny_bind (wpAny_seqItemAt ho hd (wpAny_pure ?_)));rw[CY];show wpAny _ _ (setSeqItemAt l j v>>=_) _ _ s;refine wpAny_bind (wpAny_setSeqItemAt ho hd ?_)
 first
  |exact wpAny_bind (wpAny_pure (wpAny_pure ⟨.none,rfl,wpAny_pure hQ⟩))
  |exact wpAny_pure ⟨.none,rfl,wpAny_pure hQ⟩
section
variable {k v:AV}{kv val:Value}{Q:Unit→Shared→Prop}{j:Nat}{a:Addr}
theorem vm{l:List AV}{i:Int}{o:Obj}{t:Tok}(I:Inv G ρ N st s.heap)(h1:ρ[j]?=some a)(ho:s.heap.get? a=some o)(r:dJ G s.heap ρ N j (.list l) o)(hv:av s.heap ρ N v val)(hi:0≤i∧i<l.length∧i<1000000)
  (hq:∀s',bG s ρ s' ρ→Inv G ρ N (st.set j (.list (l.set i.toNat v))) s'.heap→Q () s'):wpAny (model G.prog G.w) A (setItem (.ref a) (.int i t) val) Q E s:=by
 obtain⟨items,m,⟨d,rfl⟩,⟨sl,rfl⟩,rfl,r⟩:=r;haveI hlen:=r.length;refine rX (items:=items.toArray) ho rfl rfl hi.1 (by exact(BR 0x8000000000000000102104f4240052104008104710002379) hi) (by simp;exact(yZ 0x8204100029f4240052204108204720002379) hi hlen) ?_;have kp:∀b o,s.heap.get? b=some o→b≠a→(s.heap.update a (Obj.mapSeq (·.setIfInBounds i.toNat val))).get? b=some o:=fun b o e ne=>(Heap.get?_update_other _ _ (Ne.symm ne)).trans e
 refine hq _ (bG.set h1 kp) (I.set h1 kp (Heap.get?_update_self (Obj.mapSeq (·.setIfInBounds i.toNat val)) ho rfl) fun X=>?_);refine⟨items.set i.toNat val,if (items.toArray.setIfInBounds i.toNat val).size==items.toArray.size then m else m+1,⟨Option.none,rfl⟩,⟨#[],rfl⟩,?_,ae.set (r.mono X) (hv.mono X) _⟩;show Obj.mapSeq _ _=_;unfold Obj.mapSeq;simp
theorem vL{l:List (List Int×AV)}{ks:List Int}{o:Obj}(hu:A.units+2<cLine)(I:Inv G ρ N st s.heap)(h1:ρ[j]?=some a)(ho:s.heap.get? a=some o)(r:dJ G s.heap ρ N j (.bo l) o)(CM:rf k=some ks)(hk:av s.heap ρ N k kv)(hv:av s.heap ρ N v val)(hz:l.length<10000)
  (hq:∀s',bG s ρ s' ρ→Inv G ρ N (st.set j (.bo (fy l ks v))) s'.heap→Q () s'):wpAny (model G.prog G.w) A (setItem (.ref a) kv val) Q E s:=by
 obtain⟨ka,rfl,n1,n2,gU⟩:=tj (G:=G) CM hk;obtain⟨xs,hd,hn,Iy⟩:=tI ho r;haveI hlen:xs.length=l.length:=by have:=congrArg List.length Iy.1;rw[List.length_map,List.length_map,List.length_map] at this;exact this.symm
 refine wpAny_setItem_heap (tupleKind_room_in1 (by exact(aZ 0x101011004110201100419) hu)) gU hd (fun h' CL hs=>?_) (by rw[hlen,sizeLine_eq];exact(aO 0x100000007100027100410019) hz);have kp:∀b o,s.heap.get? b=some o→b≠a→h'.get? b=some o:=fun b o e ne=>(hs.2 b ne).trans e
 have X:Ext N s.heap ρ h' ρ:=⟨List.prefix_refl _,fun z m=>.inl m,fun b o e n' z z=>kp b o e fun q=>n' (q▸List.mem_of_getElem? h1)⟩;rcases CL with ⟨⟨c,d,dt,sl⟩,es,ep,mq,⟨e1,e2,e3⟩,IV,DL,NB,jO⟩;dsimp only at e1 e2 e3 IV;subst e1 e2 e3 IV;refine hq _ (bG.set h1 kp) (I.set h1 kp mq fun z=>⟨_,es,ep,rfl,DL,fun x m=>⟨NB x m,?_⟩,jO,(Iy.mono X).storedH (hv.mono X)⟩);unfold PySem.storedH at m;split at m
 ·obtain⟨y,my,rfl⟩:=List.mem_map.mp m
  have:=hn y my
  unfold PySem.putAt;split<;>exact this
 ·rcases List.mem_append.mp m with m|m
  ·exact hn x m
  ·rw[List.mem_singleton.mp m];exact⟨n1,n2⟩
theorem rE{x:AV}{xv:Value}(hu:A.units+2<cLine)(I:Inv G ρ N st s.heap)(hx:av s.heap ρ N x xv)(hk:av s.heap ρ N k kv)(hv:av s.heap ρ N v val)(e:cP st x k v=some st')
  (hq:∀s',bG s ρ s' ρ→Inv G ρ N st' s'.heap→Q () s'):wpAny (model G.prog G.w) A (setItem xv kv val) Q E s:=by
 refine bO e fun j e1 e=>bO e fun o e2 e=>?_
 rw[AV.du e1] at hx;obtain⟨a,oo,h1,rfl,ho,rr⟩:=I.obj e2 hx;clear e1 e2 hx;refine oO e (fun e=>bO e fun l e1 e=>bO e fun i e2 e=>gO e fun h2 e=>?_) fun e=>gO e fun hz e=>mO e fun o' mq q=>?_
 ·rw[ao.gn e1] at rr
  obtain⟨t,rfl⟩:=hk.bt e2;exact vm I h1 ho rr hv (d6 h2) (cQ e▸hq)
 ·subst q
  have hz:=d6 hz;cases o<;>try (cases mq;done)
  ·refine mO mq fun i e1 q=>?_
   subst q;obtain⟨t,rfl⟩:=hk.bt e1;obtain⟨kvs,hd,Iy⟩:=gq ho rr;exact vR (mk:=.aj) I h1 hd Iy (Nat.le_trans (Nat.le_of_lt hz) (by decide)) (intKind_is _ _ _ _) hv (fun h=>h) hq
  ·exact mO mq fun ks CM q=>vL hu I h1 ho rr CM hk hv hz (q▸hq)
  ·refine mO mq fun ks CM q=>?_
   subst q;obtain⟨kvs,hd,Iy⟩:=iK ho rr;exact vR (mk:=.bR) I h1 hd Iy (Nat.le_trans (Nat.le_of_lt hz) (by decide)) (iw CM hk) hv (fun h=>h) hq
end
end
end
section
theorem l8:typeLookup (.type "bytes") "__index__"=pure none:=by rw[typeLookup_type,builtinLookup_eq_fast];kernel_rfl
theorem xV:typeLookup (.type "bytes") "__int__"=pure none:=by rw[typeLookup_type,builtinLookup_eq_fast];kernel_rfl
theorem sQ:typeLookup (.type "bytes") "__float__"=pure none:=by rw[typeLookup_type,builtinLookup_eq_fast];kernel_rfl
theorem ph:isSubtype (.type "bytes") (.type "complex")=pure false:=by rw[isSubtype_type];kernel_rfl
theorem zO:isSubtype (.type "bytes") (.type "bytearray")=pure false:=by rw[isSubtype_type];kernel_rfl
theorem lF:typeLookup (.type "bytes") "__buffer__"=pure (some (.builtin "bytes.__buffer__")):=by rw[typeLookup_type,builtinLookup_eq_fast];kernel_rfl
section
variable {prog:Program}{w:World}{A:Around}{E:Value→Shared→Prop}{s:Shared}
theorem pw:typeLookup (.type "bytes") "__release_buffer__"=pure none:=by rw[typeLookup_type,builtinLookup_eq_fast];kernel_rfl
theorem HR:isSubtype (.type "bytes") (.type "bytes")=pure true:=by rw[isSubtype_type];kernel_rfl
theorem oF(h:Q false s):wpAny M A (Bytes.ownRelease (.bytes b t)) Q E s:=by
 haveI hT:s.TypeIs (.bytes b t) "bytes":=rfl;unfold Bytes.ownRelease;refine wpAny_bind ?_;unfold Bytes.slotIsOwn;refine wpAny_bind (wpAny_specialOf hT pw ?_);exact wpAny_pure (wpAny_pure h)
theorem pZ{M:Model}{id:String}{b:Array UInt8}{t:Tok}{Q:Option (Array UInt8)→Shared→Prop}(h:Q (some b) s):wpAny M A (Bytes.buffer? id (.bytes b t) true) Q E s:=by
 unfold Bytes.buffer?;have hT:s.TypeIs (.bytes b t) "bytes":=rfl;refine wpAny_bind (wpAny_specialOf hT lF ?_);refine wpAny_bind (rA hT lF (by decide +kernel) (by decide +kernel) HR ?_);refine PySem.bm_if_false rfl ?_;refine wpAny_bind (wpAny_specialOf hT lF ?_);refine wpAny_bind (oF ?_);refine PySem.bm_if_false rfl ?_;exact wpAny_bind (wpAny_of_eq (a:=b) rfl (wpAny_pure h))
theorem oY{a:Addr}{bb:Array UInt8}{t:Tok}{Q:PySem.Fin→Shared→Prop}(ho:s.heap.get? a=some { cls:=.type "bytearray",data:=.bytearray #[] })(h1:bb.size≤1000000)
  (h:∀h',(∀b o,s.heap.get? b=some o→b≠a→h'.get? b=some o)→h'.get? a=some { cls:=.type "bytearray",data:=.bytearray bb }→Q (.done (.ret .none)) { s with heap:=h' }) :
  au (model prog w) A (Builtin.«bytearray.__init__» ⟨[.ref a,.bytes bb t],[]⟩) Q E s:=by
 unfold Builtin.«bytearray.__init__»;refine K.bind (K.of (fU ho rfl ?_));refine K.sq rfl ?_;refine K.bind (K.of (wpAny_of_eq (wR _) ?_));dsimp only;refine K.bind (K.of (wpAny_of_eq (a:=()) rfl ?_));refine K.bind (K.of (wpAny_of_eq (a:=()) rfl ?_));refine K.bind ?_;show au _ _ (Bytes.exported (.ref a)>>=_) _ _ _;refine K.bind (K.exported (K.of ?_));show wpAny _ _ (Bytes.exportsOf (.ref a)>>=_) _ _ _;unfold Bytes.exportsOf;refine wpAny_bind (wpAny_bind (wpAny_load ho ?_));refine wpAny_pure (wpAny_pure (K.of ?_));refine PySem.bm_if_false (by decide) ?_;refine wpAny_bind ?_;show wpAny _ _ (updateBytearray a _) _ _ _;unfold updateBytearray;refine wpAny_bind (wpAny_load ho ?_);show wpAny _ _ (update a _>>=fun j=>lookBehind a) _ _ _;refine wpAny_bind (wpAny_update ho ?_);have r7:(s.heap.update a (Obj.mapBytearray fun j=>#[])).get? a=some { cls:=.type "bytearray",data:=.bytearray #[] }:=Heap.get?_update_self (Obj.mapBytearray fun j=>#[]) ho rfl;refine wpAny_lookBehind r7 (by rfl) ?_;refine wpAny_bind (wpAny_of_eq (a:=Option.none) rfl ?_);refine PySem.bm_if_false rfl ?_;refine wpAny_bind (wpAny_of_eq (a:=()) rfl ?_);refine wpAny_bind (wpAny_specialOf (T:="bytes") (show _ from rfl) l8 ?_);refine PySem.bm_if_false rfl ?_;haveI k1:∀b o,s.heap.get? b=some o→b≠a→(s.heap.update a (Obj.mapBytearray fun j=>#[])).get? b=some o:=fun b o e ne=>(Heap.get?_update_other _ _ (Ne.symm ne)).trans e
 first
  |(refine wpAny_bind (pZ ?_))
  |(refine wpAny_bind (wpAny_bind (pZ ?_)))
 dsimp only;refine wpAny_bind (wpAny_rule (wpAny_bind ?_));show wpAny _ _ (updateBytearray a _) _ _ _;unfold updateBytearray;refine wpAny_bind (wpAny_load r7 ?_);show wpAny _ _ (update a _>>=fun j=>lookBehind a) _ _ _;refine wpAny_bind (wpAny_update r7 ?_);have CO:((s.heap.update a (Obj.mapBytearray fun j=>#[])).update a (Obj.mapBytearray fun j=>bb)).get? a=some { cls:=.type "bytearray",data:=.bytearray bb }:=Heap.get?_update_self (Obj.mapBytearray fun j=>bb) r7 rfl;refine wpAny_lookBehind CO (by show(if bb.size>sizeLine then some "bytearray:memory" else Option.none)=Option.none;rw[if_neg];simp[sizeLine_eq];exact(aO 0x1000000071000f42400510009) h1) ?_;exact wpAny_pure (h _ (fun b o e ne=>(Heap.get?_update_other _ _ (Ne.symm ne)).trans (k1 b o e ne)) CO)
theorem ix{b:Array UInt8}{t:Tok}{Q:Value→Shared→Prop}(h1:b.size≤1000000)
  (h:∀h',(∀b o,s.heap.get? b=some o→h'.get? b=some o)→h'.get? s.heap.objs.size=some { cls:=.type "bytearray",data:=.bytearray b }→Q (.ref s.heap.objs.size) { s with heap:=h' }) :
  au (model prog w) A (call (.type "bytearray") [.bytes b t]) Q E s:=fR (fun ho hq=>oY ho h1 hq) h
theorem n0:Slot "bytearray" "__setitem__" "bytearray.__setitem__":=
 .of (owner:="bytearray") (n:="__setitem__") (by rw[typeLookup_type,builtinLookup_eq_fast];kernel_rfl) (by decide +kernel) (by decide +kernel) (by decide +kernel)
  (by first|exact .inl (by decide +kernel)|exact .inr (by decide +kernel)) (by rw[isSubtype_type];kernel_rfl)
theorem qP:entryFor table "bytearray.__setitem__"=some Builtin.«bytearray.__setitem__»:=by first|exact entryFor_of_tree (by kernel_rfl)|exact entryFor_of_fast (by kernel_rfl)
theorem ta(a b c:Value):argsOk "bytearray.__setitem__" ⟨[a,b,c],[]⟩:=by unfold argsOk;kernel_rfl
theorem ly(as:Args):dm (.builtin "bytearray.__setitem__" as)=false:=by show eJ.contains "bytearray.__setitem__"=false;decide +kernel
inductive mJ(h:Heap)(self:Addr):Value→List UInt8→Prop
 |bytes (c:List UInt8) (t:Tok):mJ h self (.bytes c.toArray t) c
 |aJ (b:Addr) (o:Obj) (c:List UInt8) (cS:b≠self) (ho:h.get? b=some o) (hc:o.cls=.type "bytearray") (hd:o.data=.bytearray c.toArray 0):mJ h self (.ref b) c
theorem mZ{a i:Addr}{d:Option Addr}{sl:Array (Option Value)}{b c:List UInt8}{l u:Value}{lo hi:Option Int}{v:Value}{Q:Unit→Shared→Prop}
  (ho:s.heap.get? a=some ⟨.type "bytearray",d,.bytearray b.toArray 0,sl⟩) (hs:s.heap.IsSliceOf i l u .none) (hl:IsPart l lo) (hu:IsPart u hi) (hv:mJ s.heap a v c)
  (h1:lo.elim 0 (clipAt b.length)≤hi.elim b.length (clipAt b.length)) (h2:c.length=hi.elim b.length (clipAt b.length)-lo.elim 0 (clipAt b.length)) (hz:b.length≤1000000)
  (h:∀h',(∀b o,s.heap.get? b=some o→b≠a→h'.get? b=some o)→h'.get? a=some ⟨.type "bytearray",d,.bytearray (b.take (lo.elim 0 (clipAt b.length))++c++b.drop (hi.elim b.length (clipAt b.length))).toArray 0,sl⟩→Q () { s with heap:=h' }) :
  au (model prog w) A (setItem (.ref a) (.ref i) v) Q E s:=by
 have hT:s.TypeIs (.ref a) "bytearray":=⟨_,ho,rfl⟩;unfold setItem;refine K.holding ?_;refine K.bind (K.of (wpAny_sequenceKey hT (by decide) ?_));unfold callSpecial?;refine K.bind ?_;refine K.bind (K.of (wpAny_specialOf hT n0.lookup ?_));dsimp only;refine K.holding ?_;rw[n0.bind];refine K.bind (K.pure ?_);dsimp only;refine K.bind (K.call (K.ofTree rfl ?_));show au _ _ (do checkBuiltinCall "bytearray.__setitem__" ⟨[.ref a,.ref i,v],[]⟩;again (.builtin "bytearray.__setitem__" ⟨[.ref a,.ref i,v],[]⟩)) _ _ _;refine K.bind (K.of (n0.check _ _ _ _ _ _ _ _ hT (ta _ _ _) ?_));refine K.pure ⟨plainId_quiet n0.plain _,K.builtin qP (ly _) ?_⟩;unfold Builtin.«bytearray.__setitem__»;refine K.sq rfl ?_;dsimp only;refine K.bind (K.of (eu hs ?_));dsimp only;obtain⟨oa,vU,El,Ii⟩:=id hs;refine K.bind (K.of (wpAny_typeOf (T:="slice") ⟨oa,vU,El⟩ ?_));refine K.sq (by decide) ?_;refine K.bind (K.of (da hs hl hu ?_));dsimp only;have hA:A.under (.builtin "bytearray.__setitem__" ⟨[.ref a,.ref i,v],[]⟩)=A.in1:=Around.under_plainId n0.plain _;rw[hA];have Om:hi.elim b.length (clipAt b.length)≤b.length:=by cases hi with
  |none=>exact Nat.le_refl _
  |some x=>show clipAt b.length x≤b.length;haveI:=clipAt_cast b.length x;exact(yZ 0x1000010820c002b00859) this
 have tail:∀{src:Value}{s':Shared}{Oe:Array UInt8→Int×Int×Int→Sem PySem.Fin}{Q':PySem.Fin→Shared→Prop}{E':Value→Shared→Prop},(∀{Q':Array UInt8→Shared→Prop}{E':Value→Shared→Prop},Q' c.toArray s'→wpAny (model prog w) A.in1 (Bytes.payload src) Q' E' s')→s'.heap.get? a=some ⟨.type "bytearray",d,.bytearray b.toArray 0,sl⟩ →
   (∀h',(∀b o,s'.heap.get? b=some o→b≠a→h'.get? b=some o)→h'.get? a=some ⟨.type "bytearray",d,.bytearray (b.take (lo.elim 0 (clipAt b.length))++c++b.drop (hi.elim b.length (clipAt b.length))).toArray 0,sl⟩→Q' (.done (.ret .none)) { s' with heap:=h' }) →
   wpAny (model prog w) A.in1 (do
    let new ←Bytes.payload src
    let p ←Bytes.payload (.ref a)
    let x ←sliceIndices (rawPart lo) (rawPart hi) .none p.size
    if x.2.2==1 then
     rule "bytearray.__setitem__.slice"
     if (new.size:Int) != max x.1 x.2.1-x.1 then
      Bytes.checkResize (.ref a)
      Bytes.write (.ref a) fun b=>b.extract 0 x.1.toNat++new++b.extract (max x.1 x.2.1).toNat b.size
      ret .none
     else
      Bytes.write (.ref a) fun b=>b.extract 0 x.1.toNat++new++b.extract (max x.1 x.2.1).toNat b.size
      ret .none
    else Oe new x:Sem PySem.Fin) Q' E' s':=by
  intro src s' Oe Q' E' Mu mq h';refine wpAny_bind (Mu ?_);refine wpAny_bind (dB mq rfl ?_);refine wpAny_bind (wpAny_of_eq (sliceIndices_raw lo hi none b.toArray.size (fun e=>nomatch e)) ?_);rw[sliceBounds_plain];refine PySem.bm_if_true rfl ?_;refine wpAny_bind (wpAny_rule ?_);haveI hb:b.toArray.size=b.length:=List.size_toArray ..;rw[hb];generalize hP:lo.elim 0 (clipAt b.length)=P at *;generalize hR:hi.elim b.length (clipAt b.length)=R at *;refine PySem.bm_if_false (by simp;exact(cM 0x108208108b50085102050029) h2) ?_;refine wpAny_bind ?_;show wpAny _ _ (updateBytearray a _) _ _ _;unfold updateBytearray;refine wpAny_bind (wpAny_load mq ?_);show wpAny _ _ (update a _>>=fun j=>lookBehind a) _ _ _;refine wpAny_bind (wpAny_update mq ?_);haveI Ni:(max (P:Int) (R:Int)).toNat=R:=(aZ 0x10108008ba2100009) h1;haveI oD:(b.toArray.extract 0 (P:Int).toNat++c.toArray++b.toArray.extract (max (P:Int) (R:Int)).toNat b.toArray.size)=(b.take P++c++b.drop R).toArray:=by
   rw[Ni];apply Array.toList_inj.mp;simp;rw[List.take_of_length_le (by simp)]
  haveI CO:=Heap.get?_update_self (h:=s'.heap) (a:=a) (Obj.mapBytearray fun b=>b.extract 0 (P:Int).toNat++c.toArray++b.extract (max (P:Int) (R:Int)).toNat b.size) mq rfl;have h3:(s'.heap.update a (Obj.mapBytearray fun b=>b.extract 0 (P:Int).toNat++c.toArray++b.extract (max (P:Int) (R:Int)).toNat b.size)).get? a=some ⟨.type "bytearray",d,.bytearray (b.take P++c++b.drop R).toArray 0,sl⟩:=by
   rw[CO];show some (⟨_,_,.bytearray (b.toArray.extract 0 (P:Int).toNat++c.toArray++b.toArray.extract (max (P:Int) (R:Int)).toNat b.toArray.size) 0,_⟩:Obj)=_;rw[oD]
  refine wpAny_lookBehind h3 (by show(if (List.toArray (b.take P++c++b.drop R)).size>sizeLine then some "bytearray:memory" else Option.none)=Option.none;rw[if_neg];simp[sizeLine_eq];exact(gk 0x1000000071301052041000c40003052029103009f42400511009) hz Om h2) ?_;exact wpAny_pure (h' _ (fun b o e ne=>(Heap.get?_update_other _ _ (Ne.symm ne)).trans e) h3)
 cases hv with
 |aJ bb o c cS II yt Rn=>
  refine K.sq (beq_false_of_ne fun q=>cS q.symm) ?_;refine K.bind (K.of (wpAny_isInstance (T:="bytearray") ⟨o,II,yt⟩ n9 ?_));refine K.sq rfl ?_;refine K.of ?_;refine tail (fun hq=>dB II Rn hq) ho fun h' kp hg=>?_
  exact K.pure (K.pure (h h' kp hg))
 |bytes c t=>
  refine K.sq rfl ?_;have Ke:s.TypeIs (.bytes c.toArray t) "bytes":=rfl;refine K.bind (K.of (wpAny_isInstance (T:="bytes") Ke zO ?_));refine K.LJ rfl ?_;refine K.leaf (P:=fun k s'=>k=false∧s=s') ?_ fun k s' hk=>?_
  ·refine wpAny_bind (wpAny_bind (wpAny_specialOf Ke l8 (wpAny_pure ?_)))
   refine wpAny_bind (wpAny_bind (wpAny_specialOf Ke xV (wpAny_pure ?_)));refine wpAny_bind (wpAny_bind (wpAny_specialOf Ke sQ (wpAny_pure ?_)));exact wpAny_isInstance Ke ph ⟨rfl,rfl⟩
  obtain⟨rfl,rfl⟩:=hk;refine K.bind (K.of (wpAny_of_eq (a:=Option.none) rfl ?_));refine K.sq rfl ?_;refine K.leaf (wpAny_rule (Q:=fun k s'=>s=s') rfl) fun k s' hk=>?_
  subst hk;refine K.bind (ix (by simp;exact(gk 0xf4240051000302009f42400513009102050029) h2 hz Om) fun h' kp hg=>?_);refine K.bind (K.holding (K.of (da (s:={ s with heap:=h' }) ⟨oa,kp _ _ vU,El,Ii⟩ hl hu (K.of ?_))));refine tail (s':={ s with heap:=h' }) (fun hq=>dB hg rfl hq) (kp _ _ ho) fun yY PA QJ=>?_
  exact K.pure (K.pure (h yY (fun b o e ne=>PA b o (kp b o e) ne) QJ))
end
end
theorem SS.setSlot(hS:cg G)(hi:lD G name i)(ho:SE G rc nm sc n o a)(h:SE G rc nm sc n p e)(hs:∀env,swapsWith p (some (.Attribute o name cF)) pos.line env=pure false) :
 SS G rc nm sc n (.Assign [.Attribute o name cF] p pos) (.setSlot a i e):=fun {env A ρ N s lc aK st st' fl} E B hA he=>by
 refine R.xE (lc:=lc) he Sv.X.ay fun v af h1 he=>?_
 refine R.xE (lc:=lc) he Sv.X.ay fun x aU h2 he=>?_
 cases q:ak aU x i v with
 |none=>rw[q] at he;cases he
 |some bf=>
  rw[q] at he;cases he;rw[plainObj_exec_Assign_Attribute (env:=env) o name cF p pos (hs _)];refine K.bind (K.standAt (K.bind (K.ends (h E B.fm B.inv hA h1) fun vv aa ρ₁ bS aw aS=>?_)));rw[assign_Attribute];refine K.bind (K.bind (K.holding (K.ends (ho E (B.fm.bX bS) aw hA h2) fun ov ag ρ₂ bT aM br=>K.bind (K.standAt (K.bind (K.holding (K.of ?_)))))));exact pG hS hi aM br (aS.mono bT.ext) q fun bh d8 dN=>K.release (K.pure ⟨ρ₂,B.loc ((bS.trans bT).trans d8),B.bX ((bS.trans bT).trans d8) dN,rfl⟩)
theorem SS.eZ(ho:SE G rc nm sc n o a)(hi:SE G rc nm sc n i b)(h:SE G rc nm sc n p e)(hs:∀env,swapsWith p (some (.Subscript o i xS)) pos.line env=pure false) :
 SS G rc nm sc n (.Assign [.Subscript o i xS] p pos) (.eZ a b e):=fun {env A ρ N s lc aK st st' fl} E B hA he=>by
 refine R.xE (lc:=lc) he Sv.X.ay fun v af h1 he=>?_
 refine R.xE (lc:=lc) he Sv.X.ay fun x aU h2 he=>?_
 refine R.xE (lc:=lc) he Sv.X.ay fun k bf h3 he=>?_
 cases q:cP bf x k v with
 |none=>rw[q] at he;cases he
 |some cI=>
  rw[q] at he;cases he;rw[exec_Assign_Subscript (env:=env) o i xS p pos (hs _)];refine K.bind (K.standAt (K.bind (K.ends (h E B.fm B.inv hA h1) fun vv aa ρ₁ bS aw aS=>?_)));rw[assign_Subscript];refine K.bind (K.bind (K.holding (K.ends (ho E (B.fm.bX bS) aw hA h2) fun ov ag ρ₂ bT aM br=>K.bind (K.holding (K.ends (hi E (B.fm.bX (bS.trans bT)) aM hA h3) fun iv bh b4 d8 dN hK=>K.bind (K.standAt (K.bind (K.holding (K.of ?_)))))))))
  haveI:=hA.units
  exact rE (by show A.units+2<_;haveI:=hA.units;unfold cLine;omega) dN (br.mono d8.ext) hK ((aS.mono bT.ext).mono d8.ext) q fun jD qX Gs=>K.release (K.pure ⟨b4,B.loc (((bS.trans bT).trans d8).trans qX),B.bX (((bS.trans bT).trans d8).trans qX) Gs,rfl⟩)
theorem vo{ρ N:List Addr}{s:Shared}{st:St}{j:Nat}{a:Addr}{v:AV}{val:Value}{c:List UInt8}(I:Inv G ρ N st s.heap)(r1:ρ[j]?=some a)(hv:av s.heap ρ N v val)(e:xh st j v=some c):mJ s.heap a val c:=by
 refine oO e (fun e=>?_) fun e=>bO e fun k e1 e=>gO e fun h1 e=>bO e fun o e2 e=>?_
 ·obtain⟨t,rfl⟩:=hv.ej e;exact .bytes _ _
 ·rw[AV.du e1] at hv
  rw[ao.kJ e] at e2;obtain⟨a2,o2,r2,rfl,LH,d2,Ox,rfl⟩:=I.obj e2 hv;refine .aJ _ _ _ (fun e=>?_) LH rfl rfl;haveI hk:k=j:=pN I.nodup (e▸r2) r1;rw[hk] at h1;simp at h1
theorem mj{ρ N:List Addr}{s:Shared}{st st':St}{A:Around}{E:Value→Shared→Prop}{x v:AV}{y z:Option AV}{ov yv zv vv:Value}{i:Addr}{Q:Unit→Shared→Prop}(I:Inv G ρ N st s.heap)(hx:av s.heap ρ N x ov)(hy:ji s.heap ρ N y yv)(hz:ji s.heap ρ N z zv)(hv:av s.heap ρ N v vv)
  (hs:s.heap.IsSliceOf i yv zv .none) (q:bU st x y z v=some st') (hq:∀s',bG s ρ s' ρ→Inv G ρ N st' s'.heap→Q () s'):au (model G.prog G.w) A (setItem ov (.ref i) vv) Q E s:=by
 refine bO q fun j e1 q=>bO q fun o e2 q=>bO q fun b e3 q=>bO q fun l hl q=>bO q fun u hu q=>bO q fun c hc q=>gO q fun h1 q=>?_
 rw[AV.du e1] at hx;rw[ao.kJ e3] at e2;obtain⟨a,oo,r1,rfl,II,dd,K8,rfl⟩:=I.obj e2 hx;have h1:=d6 h1;refine mZ II hs (iS hl hy) (iS hu hz) (c:=c) (vo I r1 hv hc) h1.1 h1.2.1 h1.2.2 fun h' kp hg=>?_
 exact hq _ (bG.set (t:=s.toks) r1 kp) (cQ q▸I.set r1 kp hg fun g=>⟨_,_,rfl⟩)
theorem SS.cE{o p:Expr}{lo hi:Option Expr}{p1 xS pos:Pos}{a e:Sv.E}{l u:Option Sv.E}(ho:SE G rc nm sc n o a)(hl:SO G rc nm sc n lo l)(hu:SO G rc nm sc n hi u)(h:SE G rc nm sc n p e)(hs:∀env,swapsWith p (some (.Subscript o (.Slice lo hi Option.none p1) xS)) pos.line env=pure false) :
  SS G rc nm sc n (.Assign [.Subscript o (.Slice lo hi Option.none p1) xS] p pos) (.cE a l u e):=fun {env A ρ N s lc aK st st' fl} E B hA he=>
 R.xE (lc:=lc) he X.ay fun v af h1 he=>R.xE (lc:=lc) he X.ay fun x aU h2 he=>R.xE (lc:=lc) he X.ay fun y bf h3 he=>R.xE (lc:=lc) he X.ay fun z cI h4 he=>by
 refine X.oK he fun dO q=>?_
 rw[exec_Assign_Subscript (env:=env) o _ xS p pos (hs _)];refine K.bind (K.standAt (K.bind (K.ends (h E B.fm B.inv hA h1) fun vv aa ρ₁ bS aw aS=>?_)));rw[assign_Subscript];refine K.bind (K.bind (K.holding (K.ends (ho E (B.fm.bX bS) aw hA h2) fun ov ag ρ₂ bT aM br=>K.bind (K.holding (K.slice ?_)))));refine K.wO (hl.run E (B.fm.bX (bS.trans bT)) aM hA h3) fun yv bh b4 d8 dN hK=>K.wO (hu.run E (B.fm.bX ((bS.trans bT).trans d8)) dN hA h4) fun zv jD Ax qX Gs M6=>?_
 rw[evalPart_none];refine K.pure ?_;have X5:bG jD Ax { jD with heap:=jD.heap.push { cls:=.type "slice",data:=.fields #[yv,zv,.none] } } Ax:=bG.push (s:=jD) _ jD.toks;haveI XX:=((bS.trans bT).trans d8).trans qX;refine K.bind (K.standAt (K.bind (K.holding (mj (Gs.push _) (((br.mono (N:=N) d8.ext).mono qX.ext).mono X5.ext) ((hK.mono (N:=N) qX.ext).mono X5.ext) (M6.mono (N:=N) X5.ext) ((((aS.mono (N:=N) bT.ext).mono d8.ext).mono qX.ext).mono X5.ext) (Heap.IsSliceOf.new _ _ _ _) q fun s' X6 I6=>?_))));have Y:=(XX.trans X5).trans X6;exact K.release (K.pure ⟨Ax,B.loc Y,B.bX Y I6,rfl⟩)
theorem yT{op:Operator}{k:pA}(hk:l7 op=some k){ρ N:List Addr}{s:Shared}{st:St}{A:Around}{E:Value→Shared→Prop}{x y v:AV}{xv yv:Value}(I:Inv G ρ N st s.heap)(hx:av s.heap ρ N x xv)(hy:av s.heap ρ N y yv)
  (e:fi k x y=some v):wpAny (model G.prog G.w) A (inplaceOp op xv yv) (Ends G ρ N s st v) E s:=
 sR e fun a b e1 e2 e=>by
  obtain⟨t,r1⟩:=hx.bt e1;obtain⟨u,r2⟩:=hy.bt e2;rw[r1,r2];exact ny (C:=fun op k=>Lk k a b=some v→wpAny (model G.prog G.w) A (inplaceOp op (.int a t) (.int b u)) (Ends G ρ N s st v) E s) hk
   (fun e=>cQ e▸PyProof.Rows.iadd_int (Ends.here I ⟨_,rfl⟩))
   (fun e=>cQ e▸PyProof.Rows.isub_int (Ends.here I ⟨_,rfl⟩))
   (fun e=>gO e fun h1 e=>cQ e▸PyProof.Rows.imul_int (Ends.here I ⟨_,rfl⟩) (EB h1))
   (fun e=>nO e) (fun e=>nO e)
   (fun e=>cQ e▸PyProof.Rows.iand_int (Ends.here I ⟨_,rfl⟩))
   (fun e=>nO e) e
theorem SS.aug(hk:l7 op=some k)(hx:cJ nm sc i x)(hv:SE G rc nm sc n (.Name x CH) (.var i))(hd:(x==("__debug__":Str))=false)(h:SE G rc nm sc n p e) :
 SS G rc nm sc n (.AugAssign (.Name x CH) op p pos) (.aug i k e):=fun {env A ρ N s lc aK st st' fl} E B hA he=>by
 haveI he:(match (lc[i]?).join with
  |some x=>(aC G.tb rc lc e st).gy lc fun v st=>match fi k x v with
   |some w=>.ok .next (lc.set i (some w)) st
   |Option.none=>.stuck
  |Option.none=>.stuck)=X.ok fl aK st':=he
 cases q:(lc[i]?).join with
 |none=>rw[q] at he;cases he
 |some x0=>
  rw[q] at he;refine R.xE (lc:=lc) he Sv.X.ay fun v af h1 he=>?_
  cases q2:fi k x0 v with
  |none=>rw[q2] at he;cases he
  |some w0=>
   rw[q2] at he;cases he;rw[exec_AugAssign_Name (env:=env)];haveI hn:=hv (v:=x0) (st':=st) E B.fm B.inv hA (by show R.ei st (lc[i]?).join=_;rw[q];rfl);rw[eval_Name env x CH hd] at hn;show au _ _ ((do standAt CH;loadName env x)>>=fun old=>do
    let v ←PySem.holding [old] (eval p env)
    standAt pos
    let new ←PySem.operate [old,v] (inplaceOp op old v)
    standAt CH
    bindName env x new
    Pure.pure Flow.next) _ _ _
   refine K.bind (K.mono hn (fun ov aa ⟨ρ₁,bS,aw,aS⟩=>?_) fun j j x=>x);refine K.bind (K.holding (K.ends (h E (B.fm.bX bS) aw hA h1) fun vv ag ρ₂ bT aM br=>?_));refine K.bind (K.standAt (K.bind (K.operate (K.of ?_))));refine wpAny_mono (yT hk aM (aS.mono bT.ext) br q2) (fun wv bh ⟨b4,d8,dN,hK⟩=>?_) fun j j x=>x
   refine K.bind (K.standAt (K.bind (pJ ?_)));exact hx.store (B.bX ((bS.trans bT).trans d8) dN) hK fun jD Y xO=>K.pure ⟨b4,(B.loc ((bS.trans bT).trans d8)).trans Y,xO,rfl⟩
section
section
variable {prog:Program}{w:World}{A:Around}{E:Value→Shared→Prop}{R:Result→Shared→Prop}{s:Shared}{env:Env}
theorem K.loop(hh:dm c=false)(hq:c.quiet=true)(I:Nat→Shared→Prop)
(ou:∀n s,I n s→au (model prog w) (A.under c) ((model prog w).den c)
 (fun fin s'=>match fin with
 |.done f=>R (.ok f) s'
 |.again c'=>(c'=c∧∃m,m<n∧I m s')∨(c'.quiet=true∧bz (model prog w) A c' R s')) (fun e s'=>R (.error e) s') s)
(n:Nat)(h:I n s):bz (model prog w) A c R s:=by
 induction n using Nat.strongRecOn generalizing s with
 |ind n ih=>
  refine K.ofTree hh (K.mono (ou n s h) (fun fin s' hf=>?_) fun j j h'=>h');cases fin with
  |done f=>exact hf
  |again c'=>
   rcases hf with ⟨rfl,m,hm,hI⟩|hf
   ·exact⟨hq,ih m hm hI⟩
   ·exact hf
theorem K.c7(h:au (model prog w) A m Q (fun j j=>False) s)(k:Value→Sem Unit):au (model prog w) A (m.onRaise k) Q E s:=K.onRaise (K.mono h (fun j j x=>x) fun j j x=>x.elim)
theorem K.forLoop(I:Nat→Shared→Prop)
(ou:∀n s,I n s→au (model prog w) A (pyNext it) (fun r aa=>match r with
 |Option.none=>R (.ok .next) aa
 |some v=>au (model prog w) A (assign target env v) (fun j ag=>au (model prog w) A (execs body env) (fun f bh=>match f with
 |.next|.cont=>∃m,m<n∧I m bh
 |.brk=>R (.ok .next) bh
 |.ret v=>R (.ok (.ret v)) bh) (fun j j=>False) ag) (fun j j=>False) aa) (fun j j=>False) s)
(n:Nat)(h:I n s)(ht:autoParam (∀v,letOwnedTupleGo target it v=Pure.pure ()) Lz):bz (model prog w) A (.forLoop target it body [] env) R s:=by
 refine K.loop rfl rfl I (fun n s hI=>?_) n h;show au _ _ ((forTurn target it body [] env).onRaise (fun x=>do noteFrame x env;theTreesLotGoes x)) _ _ s;refine K.c7 ?_ _;unfold forTurn;refine K.bind (K.standAt (K.bind (K.c7 (K.mono (ou n s hI) (fun r aa az=>?_) fun j j h'=>h') _)));cases r with
 |none=>
  refine K.pure (.inr ⟨rfl,K.ofTree rfl ?_⟩);show au _ _ (do return Fin.done (←(execs [] env).onRaise (fun x=>do noteFrame x env;theTreesLotGoes x))) _ _ aa;refine K.bind (K.c7 (m:=(Pure.pure Flow.next:Sem Flow)) ?_ _);exact K.pure (K.pure az)
 |some v=>
  refine K.bind (K.of (wpAny_of_eq (ht v) (K.bind (K.mono az (fun j ag bw=>K.bind (K.mono bw (fun f bh c9=>?_) fun j j h'=>h')) fun j j h'=>h'))));cases f with
  |next=>exact K.pure (.inl ⟨rfl,c9⟩)
  |cont=>exact K.pure (.inl ⟨rfl,c9⟩)
  |brk=>exact K.pure c9
  |ret v=>exact K.pure c9
theorem K.whileLoop(I:Nat→Shared→Prop)
(ou:∀n s,I n s→au (model prog w) A (isTrue test env (eval test env)) (fun b ag=>
 if b then au (model prog w) A (execs body env) (fun f bh=>match f with
 |.next|.cont=>∃m,m<n∧I m bh
 |.brk=>R (.ok .next) bh
 |.ret v=>R (.ok (.ret v)) bh) (fun j j=>False) ag
 else R (.ok .next) ag) (fun j j=>False) s)
(n:Nat)(h:I n s):bz (model prog w) A (.whileLoop test body [] env) R s:=by
 refine K.loop rfl rfl I (fun n s hI=>?_) n h;show au _ _ ((whileTurn test body [] env).onRaise (fun x=>do noteFrame x env;theTreesLotGoes x)) _ _ s;refine K.c7 ?_ _;unfold whileTurn;refine K.bind (K.mono (ou n s hI) (fun b ag bw=>?_) fun j j h'=>h');cases b with
 |false=>
  exact K.sq rfl (K.bind (K.pure (K.pure bw)))
 |true=>
  refine K.LJ rfl ?_;replace bw:=Eq.mp (if_pos rfl) bw;refine K.bind (K.mono bw (fun f bh c9=>?_) fun j j h'=>h');cases f with
  |next=>exact K.pure (.inl ⟨rfl,c9⟩)
  |cont=>exact K.pure (.inl ⟨rfl,c9⟩)
  |brk=>exact K.pure c9
  |ret v=>exact K.pure c9
theorem K.runOwn(hc:bz (model prog w) A c (fun r s'=>match r with|.ok f=>Q f s'|.error e=>False) s):au (model prog w) A (runOwn c env) Q E s:=by
 unfold PySem.runOwn;exact K.c7 (K.run (K.gu hc fun r s' h=>h)) _
end
end
@[elab_as_elim] theorem jA.JY{h:Heap}{ρ N:List Addr}{fl:Fl}{X:Flow→Prop}{f:Flow}(F:jA h ρ N fl f)(g:fl=.next∨fl=.cont)(p:X .next)(q:X .cont):X f:=by
 rcases g with rfl|rfl
 ·rw[show f=.next from F];exact p
 ·rw[show f=.cont from F];exact q
inductive B4(G:Ctx)(nm:List Str)(sc:List (Str×NameKind))(env:Env)(N ρ:List Addr)(s:Shared)(F:Nat→Lc→St→Prop)(m:Nat)(s':Shared):Prop where
 |mk (ρ₁:List Addr) (pX:Lc) (cb:St) (X:cR env s ρ s' ρ₁) (B:Bd G nm sc env ρ₁ N cb pX s') (h:F m pX cb)
set_option tactic.hygienic true in
theorem DV{x:X}{f:Lc→St→X}{aK:Lc}{st':St}{fl:Fl}{P:Prop}(h:(match x with|.ok .next lc st=>f lc st|.ok .cont lc st=>f lc st|y=>y)=X.ok fl aK st')
  (k2:∀g uk aU,x=.ok g uk aU→g=.next∨g=.cont→f uk aU=.ok fl aK st'→P) (k3:∀w,x=.ok (.ret w) aK st'→fl=.ret w→P):P:=by
 cases x with
 |ok g LP bf=>
  cases g with
  |next=>exact k2 _ _ _ rfl (.inl rfl) h
  |cont=>exact k2 _ _ _ rfl (.inr rfl) h
  |ret w=>cases (h);exact k3 w rfl rfl
 |exc k LP bf=>cases (h)
 |stuck=>cases (h)
theorem Dp{o:Option Bool}{x y z:X}{P:Prop}(h:(match o with|some true=>x|some false=>y|Option.none=>.stuck)=z)(hz:z≠.stuck)(k1:o=some true→x=z→P)(k2:o=some false→y=z→P):P:=by
 cases o with
 |none=>exact absurd h.symm hz
 |some b=>cases b with
  |true=>exact k1 rfl h
  |false=>exact k2 rfl h
theorem A8{c:Lc→St→R AV}{b:Lc→St→X}{m:Nat}{lc aK:Lc}{st st':St}{fl:Fl}{P:Prop}(h:bF c b m lc st=.ok fl aK st')
  (k1:∀n v af,m=n+1→c lc st=.ok v af→truthy af v=some false→fl=.next→aK=lc→st'=af→P)
  (k2:∀n v af f uk aU,m=n+1→c lc st=.ok v af→truthy af v=some true→b lc af=.ok f uk aU→f=.next∨f=.cont→bF c b n uk aU=.ok fl aK st'→P)
  (k3:∀n v af w,m=n+1→c lc st=.ok v af→truthy af v=some true→b lc af=.ok (.ret w) aK st'→fl=.ret w→P):P:=by
 cases m with
 |zero=>cases (h)
 |succ n=>
  exact R.xE (lc:=lc) h X.ay fun v af h1 h=>Dp h X.ay (fun q h=>DV h (fun g uk aU q2 hg h=>k2 n v af g uk aU rfl h1 q q2 hg h) fun w q2 hw=>k3 n v af w rfl h1 q q2 hw) fun q h=>by cases (h);exact k1 n v _ rfl h1 q rfl rfl rfl
theorem SS.gN(hc:H2 G rc nm sc n p e)(hb:mL G rc nm sc n ps es):SS G rc nm sc n (.While p ps [] pos) (.gN e es):=fun {env A ρ N s lc aK st st' fl} E B hA he=>by
 rw[exec_While];refine K.bind (K.standAt (K.runOwn (K.whileLoop (B4 G nm sc env N ρ s fun m lc st=>bF (fun lc st=>aC G.tb rc lc e st) (fun lc st=>aT G.tb rc es lc st) m lc st=.ok fl aK st') (fun m aa hI=>?_) 1000 ⟨ρ,lc,st,cR.refl,B,he⟩)));obtain⟨ρ₁,pX,cb,bS,bW,az⟩:=hI;refine A8 az (fun m v aU hm h2 q e1 e2 e3=>?_) (fun m v aU f LP bf hm h2 q q2 hg h=>?_) fun m v aU w hm h2 q q2 hw=>?_
 ·refine K.eF (hc _ bW.fm bW.inv hA h2 q) fun c ag yt ρ₂ bT aM=>?_
  subst yt;exact⟨ρ₂,bS.trans (bW.loc bT),e2▸e3▸bW.bX bT aM,e1▸rfl⟩
 ·refine K.eF (hc _ bW.fm bW.inv hA h2 q) fun c ag yt ρ₂ bT aM=>?_
  subst yt;refine K.pO (hb _ (bW.bX bT aM) hA q2) fun f' bh b4 d8 lC uE=>?_
  have z:∃m',m'<m+1∧B4 G nm sc env N ρ s (fun m lc st=>bF (fun lc st=>aC G.tb rc lc e st) (fun lc st=>aT G.tb rc es lc st) m lc st=.ok fl aK st') m' bh:=⟨m,Nat.lt_succ_self _,b4,LP,bf,(bS.trans (bW.loc bT)).trans d8,lC,h⟩;rw[hm];exact uE.JY hg z z
 ·refine K.eF (hc _ bW.fm bW.inv hA h2 q) fun c ag yt ρ₂ bT aM=>?_
  subst yt;refine K.pO (hb _ (bW.bX bT aM) hA q2) fun f' bh b4 d8 lC uE=>?_
  obtain⟨x,rfl,hx⟩:=uE;exact⟨b4,(bS.trans (bW.loc bT)).trans d8,lC,hw▸⟨x,rfl,hx⟩⟩
structure jf(G:Ctx)(A:Around)(o:Option Nat)(I:Addr)(l:List AV)(T:List Addr→Nat→List Addr→St→Heap→Prop):Prop where
 bar:∀{N N':List Addr}{k:Nat}{ρ:List Addr}{st:St}{h:Heap},T N k ρ st h→(∀a∈N',a∈N∨h.get? a=Option.none)→T N' k ρ st h
 frame:∀{N:List Addr}{k:Nat}{ρ aF:List Addr}{st st':St}{h h':Heap},T N k ρ st h→ρ <+: aF→(∀a∈aF,a∈ρ∨h.get? a=Option.none)→same o st st'→(∀b o,h.get? b=some o→b∉ρ→b∉N→(b=I∨jQ o)→h'.get? b=some o)→I∉N→T N k aF st' h'
 ex:∀{N:List Addr}{k:Nat}{ρ:List Addr}{st:St}{h:Heap},T N k ρ st h→∃o,h.get? I=some o∧¬jQ o
 self:∀{N:List Addr}{k:Nat}{ρ:List Addr}{st:St}{s:Shared}{Q:Value→Shared→Prop}{E:Value→Shared→Prop},T N k ρ st s.heap→Q (.ref I) s→wpAny (model G.prog G.w) A (pyIter (.ref I)) Q E s
 item:∀{N:List Addr}{k:Nat}{ρ:List Addr}{st:St}{s:Shared}{x:AV}{Q:Option Value→Shared→Prop}{E:Value→Shared→Prop},l[k]?=some x→Inv G ρ N st s.heap→I∉ρ→T N k ρ st s.heap →
  (∀v h' tk,av h' ρ N x v→T N (k+1) ρ st h'→(∀b o,b≠I→s.heap.get? b=some o→h'.get? b=some o)→Q (some v) { s with heap:=h',toks:=tk })→wpAny (model G.prog G.w) A (pyNext (.ref I)) Q E s
 done:∀{N:List Addr}{ρ:List Addr}{st:St}{s:Shared}{Q:Option Value→Shared→Prop}{E:Value→Shared→Prop},Inv G ρ N st s.heap→I∉ρ→yg A G.exc s.heap→(∀y,G.exc=some y→y.a≠I)→T N l.length ρ st s.heap →
  (∀h',(∀b o,b≠I→s.heap.get? b=some o→h'.get? b=some o)→Q Option.none { s with heap:=h' })→wpAny (model G.prog G.w) A (pyNext (.ref I)) Q E s
inductive Cq(G:Ctx)(A:Around)(ρ N:List Addr)(s:Shared)(o:Option Nat)(l:List AV)(st':St)(it:Value)(ag:Shared):Prop where
 |mk (ρ₂:List Addr) (I:Addr) (T:List Addr→Nat→List Addr→St→Heap→Prop) (q:it=.ref I) (hf:s.heap.get? I=Option.none) (hI:I∉ρ₂) (X:bG s ρ ag ρ₂) (Iv:Inv G ρ₂ N st' ag.heap) (IT:jf G A o I l T) (T0:T N 0 ρ₂ st' ag.heap)
def fL(G:Ctx)(rc:RC)(nm:List Str)(sc:List (Str×NameKind))(n:Nat)(p:Expr)(e:Src):Prop:=
 ∀{env:Env}{A:Around}{ρ N:List Addr}{s:Shared}{lc:Lc}{st st':St}{o:Option Nat}{l:List AV}(E:Value→Shared→Prop),Fm nm sc env ρ N s.heap lc→Inv G ρ N st s.heap→iZ G n A →
  jj G.tb rc lc e st=.ok (o,l) st'→au (model G.prog G.w) A (eval p env) (fun x aa=>wpAny (model G.prog G.w) A (pyIter x) (Cq G A ρ N s o l st') E aa) E s
theorem Inv.cL{ρ N:List Addr}{st:St}{h h':Heap}{a:Addr}(I:Inv G ρ N st h)(hn:G.h₀.get? a=Option.none)(IB:a∉ρ)(hN:a∉N)(hx:∀y,G.exc=some y→y.a≠a)(hi:∀o,h.get? a=some o→¬jQ o)
  (k:∀b o,b≠a→h.get? b=some o→h'.get? b=some o):Inv G ρ N st h' where
 base:=fun b o e=>k b o (fun q=>by rw[q,hn] at e;cases e) (I.base b o e)
 len:=I.len
 nodup:=I.nodup
 new:=I.new
 apart:=I.apart
 lO:=fun b m=>by
  obtain⟨o,e⟩:=I.lO b m;exact⟨o,k b o (fun q=>hN (q▸m)) e⟩
 exc:=fun x e=>⟨(I.exc x e).1,k _ _ (hx x e) (I.exc x e).2⟩
 objs:=fun i b x e1 e2=>by
  obtain⟨o,he,r⟩:=I.objs i b x e1 e2;exact⟨o,k b o (fun q=>IB (q▸List.mem_of_getElem? e1)) he,r.mono ⟨List.prefix_refl _,fun j m=>.inl m,fun c o e j j jN=>k c o (fun q=>by rw[q] at e;exact hi o e jN) e⟩⟩
theorem Bd.cL{env:Env}{ρ N:List Addr}{st:St}{lc:Lc}{s:Shared}{h':Heap}{tk:Nat}{a:Addr}(B:Bd G nm sc env ρ N st lc s)(hn:G.h₀.get? a=Option.none)(IB:a∉ρ)(hN:a∉N)(ho:a∉own env)(hx:∀y,G.exc=some y→y.a≠a)(hi:∀o,s.heap.get? a=some o→¬jQ o)
  (k:∀b o,b≠a→s.heap.get? b=some o→h'.get? b=some o):Bd G nm sc env ρ N st lc { s with heap:=h',toks:=tk }:=by
 have X:Ext N s.heap ρ h' ρ:=⟨List.prefix_refl _,fun u m=>.inl m,fun c o e u u jN=>k c o (fun q=>by rw[q] at e;exact hi o e jN) e⟩;have kc:∀{x:Str}{c:Addr},env.cells.lookup x=some c→c≠a:=fun e q=>ho (q▸cA e)
 haveI kl:env.locals≠a:=fun q=>ho (q▸aI)
 refine⟨⟨B.fm.kind,B.fm.names,B.fm.glob,B.fm.blt,B.fm.has,?_,fun j y z hj hz hy=>?_,⟨B.fm.bC.1,fun y c hc=>⟨(B.fm.bC.2 y c hc).1,?_⟩⟩⟩,⟨B.fr.new,B.fr.bC,fun b mb=>?_,fun y c e=>⟨(B.fr.cell y c e).1,?_⟩,B.fr.apart,B.fr.has⟩,B.inv.cL hn IB hN hx hi k⟩
 ·obtain⟨m,hm,hv⟩:=B.fm.loc
  exact⟨m,hm.at' fun o e=>k _ o kl e,fun i x v h1 h2 h3=>let ⟨w,e1,e2⟩:=hv i x v h1 h2 h3;⟨w,e1,e2.mono X⟩⟩
 ·obtain⟨c,w,e1,⟨o,ho,hd⟩,e3⟩:=B.fm.B6 j y z hj hz hy
  exact⟨c,w,e1,⟨o,k c o (kc e1) ho,hd⟩,e3.mono X⟩
 ·obtain⟨o,e⟩:=(B.fm.bC.2 y c hc).2
  exact⟨o,k c o (kc hc) e⟩
 ·obtain⟨o,e,r⟩:=B.fr.kind b mb
  exact⟨o,k b o (fun q=>ho (q▸mb)) e,r⟩
 ·obtain⟨v,o,ho,hd⟩:=(B.fr.cell y c e).2
  exact⟨v,o,k c o (kc e) ho,hd⟩
theorem jf.bX{A:Around}{N:List Addr}{o:Option Nat}{I:Addr}{l:List AV}{T:List Addr→Nat→List Addr→St→Heap→Prop}(IT:jf G A o I l T){env:Env}{k:Nat}{ρ aF:List Addr}{st st':St}{s s':Shared}(hT:T N k ρ st s.heap)(Bx:I∉N)(X:cR env s ρ s' aF)(F:uU G sc env ρ s.heap)(lu:I∉own env)(hs:same o st st'):T N k aF st' s'.heap:=
 IT.frame hT X.pre X.fresh hs (fun b o e n j q=>X.keep b o e n fun m=>by
  rcases q with rfl|q
  ·exact lu m
  ·obtain⟨o',e',r,_⟩:=F.kind b m
   rw[e] at e';cases (e');exact r q) Bx
section
section
variable {prog:Program}{w:World}{A:Around}{E:Value→Shared→Prop}{s:Shared}
theorem yE{it:Addr}{x left step:Int}{y:Option ml}{Q:Option Value→Shared→Prop}(H:yg A y s.heap)(hit:IsRangeIter s.heap it x left step)(Lh:left≤0)
  (hQ:∀h',Heap.ExtBut it s.heap h'→Q none { s with heap:=h' }):wpAny (model prog w) A (pyNext (.ref it)) Q E s:=by
 have hT:s.TypeIs (.ref it) "range_iterator":=⟨_,hit,rfl⟩;unfold pyNext;refine wpAny_bind (wpAny_attempt (wpAny_callSpecial?_slot (name:=Str.ofString "__next__") hT PySem.F.slot_range_iterator_next
  (wpAny_call_entry PySem.F.slot_range_iterator_next hT PySem.F.entry_range_iterator_next ?_ (PySem.F.args_range_iterator_next_1 _))))
 show wpAny _ _ (field (.ref it) 0>>=_) _ _ s;refine wpAny_bind (wpAny_field hit rfl (x:=rawInt x) rfl ?_);show wpAny _ _ (field (.ref it) 1>>=_) _ _ s;refine wpAny_bind (wpAny_field hit rfl (x:=rawInt left) rfl ?_);show wpAny _ _ (field (.ref it) 2>>=_) _ _ s;refine wpAny_bind (wpAny_field hit rfl (x:=rawInt step) rfl ?_);show wpAny _ _ (if left≤0 then _ else _) _ _ s;rw[if_pos Lh];refine wpAny_bind (wpAny_rule ?_);refine wpAny_bind ?_;show wpAny _ _ (newExc (.type "StopIteration") []>>=_) _ _ _;refine iX (A:=A.in1) H fun e h' k1 ⟨o',he,ht⟩=>?_
 refine wpAny_bind (wpAny_isInstance (T:="StopIteration") (b:=true) ⟨_,he,ht⟩ isSubtype_stop ?_);exact wpAny_pure (hQ _ (fun b o hb e=>k1 b o e))
theorem Ec(H:yg A y s.heap)(hit:s.heap.IsRevIter it l (-1))
(hQ:∀h',Heap.ExtBut it s.heap h'→Q none { s with heap:=h' }):wpAny (model prog w) A (pyNext (.ref it)) Q E s:=by
 obtain⟨o,ho,hc,hd⟩:=id hit;unfold pyNext;refine wpAny_bind (wpAny_attempt (wpAny_callSpecial?_slot (name:=Str.ofString "__next__") hit.typeIs PySem.F.slot_lri_next
  (wpAny_call_entry PySem.F.slot_lri_next hit.typeIs PySem.F.entry_lri_next ?_ (PySem.F.args_lri_next_1 _))))
 unfold Builtin.«list_reverseiterator.__next__»;refine wpAny_bind (wpAny_of_eq (a:=(Value.ref it,[])) rfl ?_)
 try dsimp only
 refine wpAny_bind (wpAny_field ho hd (x:=rawInt (-1)) rfl ?_);show wpAny _ _ (if (-1:Int)<0 then _ else _) _ _ s;rw[if_pos (by decide)];refine wpAny_bind (wpAny_rule ?_)
 first
 |show wpAny _ _ (newExc (.type "StopIteration") []>>=_) _ _ _
 |(refine wpAny_bind ?_;show wpAny _ _ (newExc (.type "StopIteration") []>>=_) _ _ _)
 refine iX (A:=A.in1) H fun e h' k1 ⟨o',he,ht⟩=>?_
 refine wpAny_bind (wpAny_isInstance (T:="StopIteration") (b:=true) ⟨_,he,ht⟩ isSubtype_stop ?_);exact wpAny_pure (hQ _ (fun b o hb e=>k1 b o e))
end
theorem cH{h:Heap}{a:Addr}{o:Obj}{vs:Array Value}(ho:h.get? a=some o)(hd:o.data=.fields vs):∃o,h.get? a=some o∧¬jQ o:=by
 obtain⟨c,d,dt,sl⟩:=o;simp only at hd;subst hd;exact⟨_,ho,fun q=>q⟩
section
variable {A:Around}
theorem Ar{I a:Addr}{l:List AV}{items:List Value}:jf G A Option.none I l (fun N k ρ st h=>I∉ρ∧a≠I∧h.IsListIter I a k∧a∉ρ∧a∉N∧h.IsList a (List.toArray items)∧ae h ρ N l items) where
 bar:=fun {N N' k ρ st h} ⟨h1,h0,h2,h3,h4,h5,h6⟩ hN=>⟨h1,h0,h2,h3,fun m=>by
  obtain⟨oa,vU,_⟩:=id h5;exact(hN _ m).elim h4 (fun q=>by rw[vU] at q;cases (q)),h5,h6.bar hN⟩
 frame:=fun {N k ρ aF st st' h h'} ⟨h1,h0,h2,h3,h4,h5,h6⟩ hp hf hs hk Bx=>by
  obtain⟨oI,jP,Fu,wm⟩:=id h2;obtain⟨oa,vU,El,na,Ii⟩:=id h5;haveI PY:jQ oa:=by obtain⟨c,d,dt,sl⟩:=oa;simp only at Ii;subst Ii;trivial
  refine⟨fun m=>(hf _ m).elim h1 (fun q=>by rw[jP] at q;cases (q)),h0,h2.at fun o e=>hk I o e h1 Bx (.inl rfl),fun m=>(hf _ m).elim h3 (fun q=>by rw[vU] at q;cases (q)),h4,⟨oa,hk a oa vU h3 h4 (.inr PY),El,na,Ii⟩,h6.mono ⟨hp,hf,fun b o e n1 n2 jN=>hk b o e n1 n2 (.inr jN)⟩⟩
 ex:=fun⟨h1,h0,⟨oI,jP,Fu,wm⟩,_⟩=>cH jP wm
 self:=fun⟨h1,h0,h2,_⟩ hq=>wpAny_pyIter_listiter h2 hq
 item:=fun {N k ρ st s x Q E} hx oX hI ⟨h1,h0,h2,h3,h4,h5,h6⟩ hq=>by
  obtain⟨v,hv,V⟩:=h6.get k x hx;obtain⟨oI,jP,Fu,wm⟩:=id h2;refine wpAny_pyNext_list_item h2 h5 (x:=v) (by simpa using hv) fun h' qG sL=>?_
  have kp:∀b o,b≠I→s.heap.get? b=some o→h'.get? b=some o:=fun b o ne e=>(sL.2 b ne).trans e
  have X:Ext N s.heap ρ h' ρ:=⟨List.prefix_refl _,fun j m=>.inl m,fun b o e n1 n2 jN=>kp b o (fun q=>by rw[q,jP] at e;cases (e);obtain⟨o',e',r⟩:=cH jP wm;rw[jP] at e';cases (e');exact r jN) e⟩;exact hq v h' s.toks (V.mono X) ⟨h1,h0,qG,h3,h4,h5.at fun o e=>kp a o h0 e,h6.mono X⟩ kp
 done:=fun {N ρ st s Q E} oX hI H hx ⟨h1,h0,h2,h3,h4,h5,h6⟩ hq=>by
  haveI hlen:=h6.length;exact t8 H hx h2 h5 (by simp[hlen]) fun h' he=>hq h' fun b o ne e=>he b o ne e
theorem zB{I a:Addr}{l:List AV}{j:Nat}:jf G A (some j) I l (fun N k ρ st h=>I∉ρ∧h.IsListIter I a k∧ρ[j]?=some a∧st[j]?=some (.list l)) where
 bar:=fun h z=>h
 frame:=fun {N k ρ aF st st' h h'} ⟨h1,h2,h3,h4⟩ hp hf hs hk Bx=>by
  obtain⟨oI,jP,Fu,wm⟩:=id h2;exact⟨fun m=>(hf _ m).elim h1 (fun q=>by rw[jP] at q;cases (q)),h2.at fun o e=>hk I o e h1 Bx (.inl rfl),eU hp h3,(show st'[j]?=st[j]? from hs).trans h4⟩
 ex:=fun⟨h1,⟨oI,jP,Fu,wm⟩,_⟩=>cH jP wm
 self:=fun⟨h1,h2,_⟩ hq=>wpAny_pyIter_listiter h2 hq
 item:=fun {N k ρ st s x Q E} hx oX hI ⟨h1,h2,h3,h4⟩ hq=>by
  obtain⟨o,ho,items,m,d,sl,rfl,r⟩:=oX.objs j a _ h3 h4;obtain⟨v,hv,V⟩:=r.get k x hx;obtain⟨oI,jP,Fu,wm⟩:=id h2;refine wpAny_pyNext_list_item h2 (items:=items.toArray) ⟨_,ho,rfl,m,rfl⟩ (x:=v) (by simpa using hv) fun h' qG sL=>?_
  have kp:∀b o,b≠I→s.heap.get? b=some o→h'.get? b=some o:=fun b o ne e=>(sL.2 b ne).trans e
  haveI X:Ext N s.heap ρ h' ρ:=⟨List.prefix_refl _,fun z m=>.inl m,fun b o e n1 n2 jN=>kp b o (fun q=>by rw[q,jP] at e;cases (e);obtain⟨o',e',r⟩:=cH jP wm;rw[jP] at e';cases (e');exact r jN) e⟩;exact hq v h' s.toks (V.mono X) ⟨h1,qG,h3,h4⟩ kp
 done:=fun {N ρ st s Q E} oX hI H hx ⟨h1,h2,h3,h4⟩ hq=>by
  obtain⟨o,ho,items,m,d,sl,rfl,r⟩:=oX.objs j a _ h3 h4;haveI hlen:=r.length;exact t8 H hx h2 (items:=items.toArray) ⟨_,ho,rfl,m,rfl⟩ (by simp[hlen]) fun h' he=>hq h' fun b o ne e=>he b o ne e
theorem Aq{I a:Addr}{l:List AV}{j:Nat}:jf G A (some j) I l.reverse (fun N k ρ st h=>I∉ρ∧k≤l.length∧h.IsRevIter I a ((l.length:Int)-1-k)∧ρ[j]?=some a∧st[j]?=some (.list l)) where
 bar:=fun h z=>h
 frame:=fun {N k ρ aF st st' h h'} ⟨h1,h0,h2,h3,h4⟩ hp hf hs hk Bx=>by
  obtain⟨oI,jP,Fu,wm⟩:=id h2;exact⟨fun m=>(hf _ m).elim h1 (fun q=>by rw[jP] at q;cases (q)),h0,h2.at fun o e=>hk I o e h1 Bx (.inl rfl),eU hp h3,(show st'[j]?=st[j]? from hs).trans h4⟩
 ex:=fun⟨h1,h0,⟨oI,jP,Fu,wm⟩,_⟩=>cH jP wm
 self:=fun⟨h1,h0,h2,_⟩ hq=>wpAny_pyIter_revIter h2 hq
 item:=fun {N k ρ st s x Q E} hx oX hI ⟨h1,h0,h2,h3,h4⟩ hq=>by
  obtain⟨o,ho,items,m,d,sl,rfl,r⟩:=oX.objs j a _ h3 h4;have hk:k<l.length:=by haveI:=(List.getElem?_eq_some_iff.mp hx).1;simpa using this
  haveI CY:l[l.length-1-k]?=some x:=by rw[List.getElem?_reverse hk] at hx;exact hx
  obtain⟨v,hv,V⟩:=r.get _ x CY;obtain⟨oI,jP,Fu,wm⟩:=id h2;have e1:(l.length:Int)-1-k=((l.length-1-k:Nat):Int):=(aZ 0x101011005581081012008555001019) hk;rw[e1] at h2;refine wpAny_pyNext_rev_item h2 (items:=items.toArray) ⟨_,ho,rfl,m,rfl⟩ (x:=v) (by simpa using hv) fun h' qG sL=>?_
  have kp:∀b o,b≠I→s.heap.get? b=some o→h'.get? b=some o:=fun b o ne e=>(sL.2 b ne).trans e
  haveI X:Ext N s.heap ρ h' ρ:=⟨List.prefix_refl _,fun z m=>.inl m,fun b o e n1 n2 jN=>kp b o (fun q=>by rw[q,jP] at e;cases (e);obtain⟨o',e',r⟩:=cH jP wm;rw[jP] at e';cases (e');exact r jN) e⟩;refine hq v h' s.toks (V.mono X) ⟨h1,hk,?_,h3,h4⟩ kp;haveI e2:(l.length:Int)-1-((k+1:Nat):Int)=((l.length-1-k:Nat):Int)-1:=(aZ 0x10121010110055851011104810120085551010110055810810120085559) e1;rw[e2];exact qG
 done:=fun {N ρ st s Q E} oX hI H hx ⟨h1,h0,h2,h3,h4⟩ hq=>by
  haveI e:(l.length:Int)-1-(l.reverse.length:Int)=-1:=by simp;exact aO 0x10130081012008555
  rw[e] at h2;exact Ec H h2 fun h' he=>hq h' fun b o ne e=>he b o ne e
theorem vx{I:Addr}{c:Nat}:jf G A Option.none I (dD 0 c true) (fun N k ρ st h=>I∉ρ∧k≤c∧IsRangeIter h I (k:Int) ((c:Int)-k) 1) where
 bar:=fun h j=>h
 frame:=fun {N k ρ aF st st' h h'} ⟨h1,h0,h2⟩ hp hf hs hk Bx=>⟨fun m=>(hf _ m).elim h1 (fun q=>by rw[show h.get? I=_ from h2] at q;cases q),h0,hk I _ h2 h1 Bx (.inl rfl)⟩
 ex:=fun⟨h1,h0,h2⟩=>⟨_,h2,fun q=>q⟩
 self:=fun⟨h1,h0,h2⟩ hq=>wpAny_pyIter_rangeiter h2 hq
 item:=fun {N k ρ st s x Q E} hx oX hI ⟨h1,h0,h2⟩ hq=>by
  have hk:k<c:=by haveI:=(List.getElem?_eq_some_iff.mp hx).1;simpa[dD] using this
  haveI CY:x=.int k:=by
   unfold dD at hx;simp only[if_true,List.getElem?_map] at hx;rw[List.getElem?_range (by exact(aZ 0x21085a001100019) hk)] at hx;simp at hx;exact hx.symm
  subst CY;refine wpAny_pyNext_range_item h2 (by exact(aZ 0x10800850024001019) hk) fun h' qG sL=>?_
  haveI kp:∀b o,b≠I→s.heap.get? b=some o→h'.get? b=some o:=fun b o ne e=>(sL.2 b ne).trans e
  refine hq _ h' _ ⟨_,rfl⟩ ⟨h1,hk,?_⟩ kp;haveI e1:((k+1:Nat):Int)=k+1:=aO 0x10120084101100485;haveI e2:(c:Int)-((k+1:Nat):Int)=(c:Int)-k-1:=aZ 0x1012108008551011104800855;rw[e2,e1];exact qG
 done:=fun {N ρ st s Q E} oX hI H hx ⟨h1,h0,h2⟩ hq=>by
  haveI e:(dD 0 c true).length=c:=by simp[dD]
  rw[e] at h2;exact yE H h2 (by exact aO 0x200800853) fun h' he=>hq h' fun b o ne e=>he b o ne e
end
end
theorem fa{ρ N:List Addr}{st:St}{s:Shared}{o:Obj}(I:Inv G ρ N st s.heap):s.heap.objs.size∉ρ∧s.heap.objs.size∉N:=by
 refine⟨fun m=>?_,fun m=>?_⟩
 ·obtain⟨i,e⟩:=List.getElem?_of_mem m
  obtain⟨o,ho,_⟩:=I.objs i _ _ e (List.getElem?_eq_getElem (I.lt e));rw[aW] at ho;cases ho
 ·obtain⟨o,ho⟩:=I.lO _ m
  rw[aW] at ho;cases ho
theorem dY(X:bG s ρ aa ρ₁)(IB:∀a∈ρ,∃o,s.heap.get? a=some o)(h:aa.heap.get? a=Option.none)(hn:a∉ρ₁):s.heap.get? a=Option.none:=by
 cases q:s.heap.get? a with
 |none=>rfl
 |some o=>rw[X.keep a o q fun m=>hn (X.pre.subset m)] at h;cases h
theorem Inv.there{ρ N:List Addr}{st:St}{h:Heap}(I:Inv G ρ N st h):∀a∈ρ,∃o,h.get? a=some o:=fun a m=>by
 obtain⟨i,e⟩:=List.getElem?_of_mem m;obtain⟨o,ho,_⟩:=I.objs i _ _ e (List.getElem?_eq_getElem (I.lt e));exact⟨o,ho⟩
set_option tactic.hygienic true in
theorem fL.yV{p:Expr}{e:Sv.E}(h:SE G rc nm sc n p e):fL G rc nm sc n p (.yV e):=fun {env A ρ N s lc st st' o l} E F I hA he=>by
 refine R.bE he R.ay fun v af h1 he=>?_
 refine K.ends (h E F I hA h1) fun xv aa ρ₁ bS aw aS=>?_
 have pf:=fa (o:=⟨.none,Option.none,.plain,#[]⟩) aw;split at he
 ·cases (he)
  obtain⟨a,items,rfl,n1,n2,hl,r⟩:=aS;refine wpAny_pyIter_list hl ?_;haveI hf:=aW aa.heap;haveI cS:a≠aa.heap.objs.size:=fun q=>by obtain⟨oa,vU,_⟩:=hl;rw[q,hf] at vU;cases (vU)
  have X2:bG aa ρ₁ { aa with heap:=aa.heap.push { cls:=.type "list_iterator",data:=.fields #[.ref a,.int 0 0] } } ρ₁:=bG.push (s:=aa) _ aa.toks;exact⟨ρ₁,_,_,rfl,dY bS I.there hf pf.1,pf.1,bS.trans X2,aw.push _,Ar (a:=a) (items:=items),pf.1,cS,⟨_,Heap.get?_push_size _ rfl,rfl,rfl⟩,n1,n2,hl.push _,r.mono X2.ext⟩
 ·rename_i j
  split at he
  ·rename_i ll iU
   cases (he);obtain⟨a,oo,h2,rfl,ho,items,m,d,sl,rfl,r⟩:=aw.obj iU aS;refine wpAny_pyIter_list (items:=items.toArray) ⟨_,ho,rfl,m,rfl⟩ ?_;haveI hf:=aW aa.heap;have X2:bG aa ρ₁ { aa with heap:=aa.heap.push { cls:=.type "list_iterator",data:=.fields #[.ref a,.int 0 0] } } ρ₁:=bG.push (s:=aa) _ aa.toks;exact⟨ρ₁,_,_,rfl,dY bS I.there hf pf.1,pf.1,bS.trans X2,aw.push _,zB (a:=a),pf.1,⟨_,Heap.get?_push_size _ rfl,rfl,rfl⟩,h2,iU⟩
  ·cases (he)
 ·cases (he)
set_option tactic.hygienic true in
theorem fL.rev{c p:Expr}{pos:Pos}{e:Sv.E}(hc:SE G rc nm sc n c (.lit (.ba (.type "reversed"))))(fP:∀env,eval (.Call c [p] [] pos) env=(do callWith pos (←eval c env) [] (backTo pos (starEach [p] env)) []))(hp:bq [p])
  (h:lr G rc nm sc n [p] (.cons e .nil)):fL G rc nm sc n (.Call c [p] [] pos) (.rev e):=fun {env A ρ N s lc st st' o l} E F I hA he=>by
 refine R.bE he R.ay fun v af h1 he=>?_
 rw[fP];refine K.bind (K.ends (hc E F I hA rfl) fun fv aa ρ₁ bS aw aS=>?_);obtain rfl:fv=.type "reversed":=aS;refine wi hp (K.fQ (h pos E (F.bX bS) aw hA (vs:=[v]) (st':=af) (by show R.bind _ _=_;rw[h1];rfl)) fun vals ag ρ₂ bT aM br=>?_);obtain⟨xv,rfl,Vx⟩:=ib br;clear br;have pf:=fa (o:=⟨.none,Option.none,.plain,#[]⟩) aM;split at he
 ·rename_i j
  split at he
  ·rename_i ll iU
   cases (he);obtain⟨a,oo,h2,rfl,ho,items,m,d,sl,rfl,r⟩:=aM.obj iU Vx;haveI hlen:=r.length;refine K.of (call_reversed_list (items:=items.toArray) ⟨_,ho,rfl,m,rfl⟩ ?_);haveI hf:=aW ag.heap;haveI X3:bG ag ρ₂ { ag with heap:=ag.heap.push (revObj a ((items.toArray.size:Int)-1)) } ρ₂:=bG.push (s:=ag) _ ag.toks;have hit:(ag.heap.push (revObj a ((items.toArray.size:Int)-1))).IsRevIter ag.heap.objs.size a ((ll.length:Int)-1-(0:Nat)):=⟨_,Heap.get?_push_size _ rfl,rfl,by simp[revObj,hlen]⟩;refine wpAny_pyIter_revIter (s:={ ag with heap:=ag.heap.push (revObj a ((items.toArray.size:Int)-1)) }) hit ?_;exact⟨ρ₂,_,_,rfl,dY (bS.trans bT) I.there hf pf.1,pf.1,(bS.trans bT).trans X3,aM.push _,Aq (a:=a),pf.1,Nat.zero_le _,hit,h2,iU⟩
  ·cases (he)
 ·cases (he)
set_option tactic.hygienic true in
theorem fL.dM{c p:Expr}{pos:Pos}{e:Sv.E}(hc:SE G rc nm sc n c (.lit (.ba (.type "range"))))(fP:∀env,eval (.Call c [p] [] pos) env=(do callWith pos (←eval c env) [] (backTo pos (starEach [p] env)) []))(hp:bq [p])
  (h:lr G rc nm sc n [p] (.cons e .nil)):fL G rc nm sc n (.Call c [p] [] pos) (.dM e):=fun {env A ρ N s lc st st' o l} E F I hA he=>by
 refine R.bE he R.ay fun v af h1 he=>?_
 rw[fP];refine K.bind (K.ends (hc E F I hA rfl) fun fv aa ρ₁ bS aw aS=>?_);obtain rfl:fv=.type "range":=aS;refine wi hp (K.fQ (h pos E (F.bX bS) aw hA (vs:=[v]) (st':=af) (by show R.bind _ _=_;rw[h1];rfl)) fun vals ag ρ₂ bT aM br=>?_);obtain⟨xv,rfl,Vx⟩:=ib br;clear br;split at he
 ·rename_i k
  split at he
  ·rename_i hk
   cases (he);obtain⟨t,rfl⟩:=Vx;refine K.of (call_range_1 ?_);haveI hr:=IsRange.new ag.heap 0 k 1 ag.toks t (ag.toks+1);refine wpAny_pyIter_range (s:={ ag with heap:=_,toks:=ag.toks+1+1 }) hr (small_one (by decide) (by decide) (by exact(fz 0x400000000000000010332710042003002710043379) hk) (by exact(fz 0x40000000000000001020042710042003002710043379) hk)) ?_;have X3:bG ag ρ₂ { ag with heap:=ag.heap.push { cls:=.type "range",data:=.fields #[.int 0 ag.toks,.int k t,.int 1 (ag.toks+1)] },toks:=ag.toks+1+1 } ρ₂:=bG.push (s:=ag) _ _;have I3:=aM.push { cls:=.type "range",data:=.fields #[.int 0 ag.toks,.int k t,.int 1 (ag.toks+1)] };have pf:=fa (o:=⟨.none,Option.none,.plain,#[]⟩) (s:={ ag with heap:=ag.heap.push { cls:=.type "range",data:=.fields #[.int 0 ag.toks,.int k t,.int 1 (ag.toks+1)] } }) I3;haveI hf:=aW (ag.heap.push { cls:=.type "range",data:=.fields #[.int 0 ag.toks,.int k t,.int 1 (ag.toks+1)] });haveI X4:bG { ag with heap:=ag.heap.push { cls:=.type "range",data:=.fields #[.int 0 ag.toks,.int k t,.int 1 (ag.toks+1)] },toks:=ag.toks+1+1 } ρ₂ { ag with heap:=(ag.heap.push { cls:=.type "range",data:=.fields #[.int 0 ag.toks,.int k t,.int 1 (ag.toks+1)] }).push { cls:=.type "range_iterator",data:=.fields #[rawInt 0,rawInt (Builtin.Range.rangeSize 0 k 1),rawInt 1] },toks:=ag.toks+1+1 } ρ₂:=bG.push (s:={ ag with heap:=ag.heap.push { cls:=.type "range",data:=.fields #[.int 0 ag.toks,.int k t,.int 1 (ag.toks+1)] },toks:=ag.toks+1+1 }) { cls:=.type "range_iterator",data:=.fields #[rawInt 0,rawInt (Builtin.Range.rangeSize 0 k 1),rawInt 1] } (ag.toks+1+1);haveI e1:dD 0 k true=dD 0 (k.toNat:Int) true:=by
    haveI q:(k-0).toNat=((k.toNat:Int)-0).toNat:=fz 0x200a85a002005a2;unfold dD;simp only[if_true];rw[q]
   rw[e1];refine⟨ρ₂,_,_,rfl,dY ((bS.trans bT).trans X3) I.there hf pf.1,pf.1,((bS.trans bT).trans X3).trans X4,I3.push _,vx (c:=k.toNat),pf.1,Nat.zero_le _,?_⟩;haveI e2:Builtin.Range.rangeSize 0 k 1=(k.toNat:Int)-((0:Nat):Int):=by rw[rangeSize_one];split<;>omega
   rw[e2];exact Heap.get?_push_size _ rfl
  ·cases (he)
 ·cases (he)
section
section
variable {prog:Program}{w:World}{A:Around}{E:Value→Shared→Prop}{R:Result→Shared→Prop}{s:Shared}{env:Env}
theorem K.compLoop{elt iter:Expr}{x:Str}{px:Pos}{scope:Scope}{pos:Pos}{it acc:Value}(I:Nat→Shared→Prop)
  (ou:∀n s,I n s→au (model prog w) A (pyNext it) (fun r aa=>match r with
   |Option.none=>R (.ok .next) aa
   |some v=>au (model prog w) A (assign (.Name x px) env v) (fun j ag=>au (model prog w) A (eval elt env) (fun y bh=>
     au (model prog w) A (PySem.call (.builtin "list.append") [acc,y]) (fun j jD=>∃m,m<n∧I m jD) (fun j j=>False) bh) (fun j j=>False) ag) (fun j j=>False) aa) (fun j j=>False) s)
  (n:Nat) (h:I n s):bz (model prog w) A (.compLoop (.ListComp elt [⟨.Name x px,iter,[],0⟩] scope pos) 0 it acc env) R s:=by
 refine K.loop rfl rfl I (fun n s hI=>?_) n h;show au _ A ((compTurn (.ListComp elt [⟨.Name x px,iter,[],0⟩] scope pos) 0 it acc env).onRaise (fun x=>do noteFrame x env;theTreesLotGoes x)) _ _ s;refine K.c7 ?_ _;rw[compTurn_list1];refine K.bind (K.standAt (K.bind (K.mono (ou n s hI) (fun r aa az=>?_) fun j j h'=>h')));cases r with
 |none=>exact K.pure az
 |some v=>
  refine K.bind (K.of (wpAny_of_eq (a:=()) rfl ?_));refine K.bind (K.mono az (fun j ag bw=>?_) fun j j h'=>h');exact K.bind (K.bind (K.mono bw (fun y bh c9=>K.bind (K.mono c9 (fun j jD yi=>K.pure (K.pure (.inl ⟨rfl,yi⟩))) fun j j h'=>h')) fun j j h'=>h'))
theorem K.compStart{elt iter:Expr}{x:Str}{px:Pos}{scope:Scope}{pos:Pos}{it acc:Value}
  (h0:bz (model prog w) A (.compLoop (.ListComp elt [⟨.Name x px,iter,[],0⟩] scope pos) 0 it acc env) R s)
  (h:wpAny (model prog w) A (pyIter it) (fun MS s'=>bz (model prog w) A (.compLoop (.ListComp elt [⟨.Name x px,iter,[],0⟩] scope pos) 0 MS acc env) R s') (fun j j=>False) s) :
  bz (model prog w) A (.compStart (.ListComp elt [⟨.Name x px,iter,[],0⟩] scope pos) 0 it acc env) R s:=by
 refine K.ofTree rfl ?_;show au _ A ((PySem.compStart (.ListComp elt [⟨.Name x px,iter,[],0⟩] scope pos) 0 it acc env).onRaise (fun x=>do noteFrame x env;PySem.standAt theWindowsPlace)) _ _ s;refine K.c7 (K.of ?_) _;unfold PySem.compStart;show wpAny _ _ (ask>>=_) _ _ s;refine wpAny_bind (wpAny_askSetting (wpAny_ite ?_));split
 ·first
   |exact wpAny_bind (wpAny_pure (wpAny_pure (And.intro rfl h0)))
   |exact wpAny_pure (And.intro rfl h0)
 ·first
   |exact wpAny_bind (wpAny_rule (wpAny_bind (wpAny_standAt (wpAny_bind (wpAny_mono h (fun MS s' h'=>wpAny_pure (And.intro rfl h')) fun j j x=>x)))))
   |(refine wpAny_bind (wpAny_rule ?_);show wpAny _ _ (PySem.standAt iter.pos>>=_) _ _ s;exact wpAny_bind (wpAny_standAt (wpAny_bind (wpAny_mono h (fun MS s' h'=>wpAny_pure (And.intro rfl h')) fun j j x=>x))))
end
theorem K.attempt{α:Type}{M:Model}{A:Around}{m:Sem α}{s:Shared}{Q:Except Value α→Shared→Prop}{E:Value→Shared→Prop}(h:au M A m (fun v s'=>Q (.ok v) s') (fun e s'=>Q (.error e) s') s):au M A m.attempt Q E s:=fun Γ p kL h1 h2=>by
 haveI:=h Γ p kL h1 h2
 rw[Sem.wp_attempt];exact this
theorem K.comprehension{M:Model}{A:Around}{E:Value→Shared→Prop}{s:Shared}{env:Env}{e:Expr}{scope:Scope}{pos:Pos}{first:Sem Value}{g:Comprehension}{gs:List Comprehension}{cl:List (Str×Addr)}{Q:Value→Shared→Prop}
  (lR:clausesOf e=g::gs) (hs:∀x,foldedSetIterable g.iter env x=Pure.pure x) (JC:closureFor scope env=Pure.pure cl)
  (wV:scope.kind=.function) (GK:∀x∈scope.names,x.2=.local→scope.names.lookup x.1=some .local)
  (h:au M A first (fun x aa=>wpAny M A (pyIter x) (fun it ag=>wpAny M A (newList []) (fun acc bh=>
   wpAny M A (newFunctionEnv scope env.globals cl [] env.qual Option.none .none (some env)) (fun cenv jD=>
    bz M A (.compStart e 0 it acc { cenv with scope:=relabel scope env }) (fun r s'=>match r with
     |.ok _=>∃m,s'.heap.Ns cenv.locals m∧∀h',Heap.SameBut cenv.locals s'.heap h'→Q acc { s' with heap:=h' }
     |.error _=>False) jD) E bh) E ag) E aa) E s) :
  au M A (PySem.comprehension e scope env pos (newList []) false first Option.none) Q E s:=by
 unfold PySem.comprehension;rw[JC,lR];refine K.bind (K.mono h (fun x aa az=>K.bind (K.standAt (K.bind (K.of (wpAny_of_eq (hs x) (K.bind (K.holding (K.of (wpAny_mono az (fun it ag bw=>?_) fun j j h'=>h'))))))))) fun j j h'=>h');refine K.sq rfl ?_;refine K.bind (K.of (wpAny_mono bw (fun acc bh c9=>K.bind (K.pure (K.bind (K.of (wpAny_mono c9 (fun cenv jD yi=>?_) fun j j h'=>h'))))) fun j j h'=>h'));dsimp only;haveI hv:∀x∈(scope.names.filter fun x=>(x.2==.local||x.2==.cell)&&x.1 != (".0":Str)).reverse,x.2=.local →
   Env.kindOf { cenv with scope:=relabel scope env } x.1=some .local:=fun x hx hl=>lookup_relabel_local (GK x (List.mem_filter.mp (List.mem_reverse.mp hx)).1 hl)
 refine K.holding (K.bind (K.attempt (K.holding (K.run (K.gu yi fun r s' hr=>?_)))));cases r with
 |ok f=>
  obtain⟨m,hn,hr⟩:=hr;exact K.bind (K.holding (K.of (wpAny_comp_letGo (cenv:={ cenv with scope:=relabel scope env }) wV _ s' m hv hn fun h' m' j sL=>K.pure (hr h' sL))))
 |error x=>exact hr.elim
end
structure jH(nm:List Str)(sc:List (Str×NameKind))(scope:Scope)(i:Nat)(x:Str):Prop where
 kind:scope.kind=.function
 at_:nm[i]?=some x
 nodup:nm.Nodup
 xk:scope.names.lookup x=some .local
 names:∀y∈scope.names,y.2=.local→scope.names.lookup y.1=some .local
 vK:∀y∈scope.names,y.2≠.cell
 only:∀y∈nm,scope.names.lookup y=some .local→y=x
 free:∀y∈scope.names,y.2=.free→sc.lookup y.1=some .cell∨sc.lookup y.1=some .free
theorem iI{env:Env}:∀{names:List (Str×NameKind)}{x:Str}{k:NameKind},names.lookup x=some k →
  (names.map fun(n,k)=>if (k==NameKind.free&&env.scope.kind==.function&&env.kindOf n==some .cell) then (n,NameKind.cell) else (n,k)).lookup x=some k ∨
  (k=.free∧(names.map fun(n,k)=>if (k==NameKind.free&&env.scope.kind==.function&&env.kindOf n==some .cell) then (n,NameKind.cell) else (n,k)).lookup x=some .cell)
 |[],_,_,h=>by simp at h
 |(n,k')::r,x,k,h=>by
  haveI ih:=@iI env r x k;simp only[List.map_cons];cases hx:x==n with
  |true=>
   simp only[List.lookup_cons,hx] at h;cases h
   by_cases hc:(k'==NameKind.free&&env.scope.kind==.function&&env.kindOf n==some .cell)=true
   ·right
    rw[if_pos hc];simp only[List.lookup_cons,hx];simp only[Bool.and_eq_true,beq_iff_eq] at hc;exact⟨hc.1.1,trivial⟩
   ·left
    rw[if_neg hc];simp only[List.lookup_cons,hx]
  |false=>
   simp only[List.lookup_cons,hx] at h
   have:=ih h
   by_cases hc:(k'==NameKind.free&&env.scope.kind==.function&&env.kindOf n==some .cell)=true
   ·rw[if_pos hc];simp only[List.lookup_cons,hx];exact this
   ·rw[if_neg hc];simp only[List.lookup_cons,hx];exact this
theorem jE:∀(names:List (Str×NameKind)) (acc:List (Str×Addr)),(∀y∈names,y.2=.free→∃c,env.cells.lookup y.1=some c)→(∀y c,acc.lookup y=some c→env.cells.lookup y=some c) →
 ∃cl,(forIn names acc (fun(name,kind) cs=>if kind==.free then (do let c ←cellOf env name;Pure.pure (ForInStep.yield ((name,c)::cs))) else Pure.pure (ForInStep.yield cs)):Sem (List (Str×Addr)))=Pure.pure cl ∧
 (∀y c,cl.lookup y=some c→env.cells.lookup y=some c)∧(∀y c,acc.lookup y=some c→cl.lookup y=some c)∧∀y∈names,y.2=.free→∃c,cl.lookup y.1=some c
 |[],acc,_,ha=>⟨acc,rfl,ha,fun j j h=>h,fun j m=>by cases m⟩
 |(name,kind)::r,acc,h,ha=>by
  by_cases hk:kind=.free
  ·subst hk
   obtain⟨c,hc⟩:=h _ List.mem_cons_self rfl;have Pq:∀y c',((name,c)::acc).lookup y=some c'→env.cells.lookup y=some c':=fun y c' e=>by
    rw[List.lookup_cons] at e;cases q:y==name with
    |true=>rw[q] at e;cases e;rw[cj q];exact hc
    |false=>rw[q] at e;exact ha y c' e
   obtain⟨cl,e1,e2,e3,e4⟩:=jE r ((name,c)::acc) (fun y m=>h y (List.mem_cons_of_mem _ m)) Pq;refine⟨cl,?_,e2,fun y c' e=>?_,fun y m hy=>?_⟩
   ·rw[List.forIn_cons]
    simp only[beq_self_eq_true,if_true]
    haveI:cellOf env name=Pure.pure c:=by unfold cellOf;rw[hc]
    rw[this];exact e1
   ·haveI h1:=ha y c' e
    by_cases q:y=name
    ·subst q
     haveI:=e3 y c (by simp)
     rw[hc] at h1;cases h1;exact this
    ·exact e3 y c' (by rw[List.lookup_cons,show(y==name)=false by simpa using q];exact e)
   ·rcases List.mem_cons.mp m with rfl|m
    ·exact⟨c,e3 _ c (by simp)⟩
    ·exact e4 y m hy
  ·obtain⟨cl,e1,e2,e3,e4⟩:=jE r acc (fun y m=>h y (List.mem_cons_of_mem _ m)) ha
   refine⟨cl,?_,e2,e3,fun y m hy=>?_⟩
   ·rw[List.forIn_cons]
    haveI:(kind==NameKind.free)=false:=by simpa using hk
    simp only[this,Bool.false_eq_true,if_false];exact e1
   ·rcases List.mem_cons.mp m with rfl|m
    ·exact absurd hy hk
    ·exact e4 y m hy
theorem bG.cL(X:bG s ρ aa ρ₁)(hf:s.heap.get? a=Option.none)(k:∀b o,b≠a→aa.heap.get? b=some o→h'.get? b=some o):bG s ρ { aa with heap:=h',toks:=tk } ρ₁:=
 ⟨X.pre,X.fresh,fun b o e n1=>k b o (fun q=>by rw[q,hf] at e;cases e) (X.keep b o e n1),X.os,X.gens⟩
structure rU(G:Ctx)(sc:List (Str×NameKind))(env:Env)(cl:List (Str×Addr))(scope:Scope):Prop where
 eq:closureFor scope env=Pure.pure cl
 sub:∀y c,cl.lookup y=some c→env.cells.lookup y=some c
 has:∀y∈scope.names,y.2=.free→∃c,cl.lookup y.1=some c
theorem jH.around(hC:jH nm sc scope i x)(F:Fm nm sc env ρ N h lc):∃cl,rU G sc env cl scope:=by
 obtain⟨cl,e1,e2,e3,e4⟩:=jE (env:=env) scope.names [] (fun y m hy=>F.has _ (hC.free y m hy)) (fun y c e=>by simp at e);refine⟨cl,?_,e2,e4⟩;unfold closureFor
 show(forIn scope.names ([]:List (Str×Addr)) (fun(name,kind) cs=>if kind==.free then (do let c ←cellOf env name;Pure.pure (ForInStep.yield ((name,c)::cs))) else Pure.pure (ForInStep.yield cs))>>=fun cs=>(Pure.pure cs:Sem (List (Str×Addr))))=_
 rw[e1];rfl
theorem jH.fm{scope:Scope}{i:Nat}{x:Str}(hC:jH nm sc scope i x){env:Env}{cl:List (Str×Addr)}(lR:rU G sc env cl scope){C:Addr}{ρ N:List Addr}{h:Heap}{lc:Lc}{v:AV}{val:Value}{m:Str→Option Value}
  (F:Fm nm sc env ρ N h lc) (hn:h.Ns C m) (hm:m x=some val) (hv:av h ρ N v val) (uX:C∉ρ):Fm nm scope.names (compEnvC scope cl C env) ρ N h (lc.set i (some v)):=by
 have xM:∀j z,(lc.set i (some v))[j]?=some (some z)→(j=i∧z=v)∨(j≠i∧lc[j]?=some (some z)):=fun j z hj=>by
  by_cases q:i=j
  ·subst q
   by_cases hl:i<lc.length
   ·rw[List.getElem?_set_self hl] at hj;cases (hj);exact .inl ⟨rfl,rfl⟩
   ·rw[List.getElem?_eq_none (by simpa using hl)] at hj;cases (hj)
  ·rw[List.getElem?_set_ne q] at hj;exact .inr ⟨fun e=>q e.symm,hj⟩
 have ES:∀y,scope.names.lookup y=some .free→∃c,cl.lookup y=some c:=fun y hy=>lR.has _ (mem_of_lookup hy) rfl
 refine⟨hC.kind,fun y k hy=>iI hy,F.glob,F.blt,fun y hy=>?_,⟨m,hn,fun j y z hj hz hy=>?_⟩,fun j y z hj hz hy=>?_,⟨uX,fun y c hc=>?_⟩⟩
 ·rcases hy with hy|hy
  ·exact absurd rfl (hC.vK _ (mem_of_lookup hy))
  ·exact ES y hy
 ·obtain rfl:y=x:=hC.only y (List.mem_of_getElem? hj) hy
  haveI:j=i:=by
   obtain⟨q1,_⟩:=List.getElem?_eq_some_iff.mp hj;exact(List.getElem?_inj q1 hC.nodup).mp (by rw[hj,hC.at_])
  subst this;rcases xM j z hz with ⟨_,rfl⟩|⟨cS,_⟩
  ·exact⟨val,hm,hv⟩
  ·exact absurd rfl cS
 ·rcases hy with hy|hy
  ·exact absurd rfl (hC.vK _ (mem_of_lookup hy))
  ·rcases xM j z hz with ⟨rfl,rfl⟩|⟨cS,hz⟩
   ·rw[hC.at_] at hj;cases (hj)
    rw[hC.xk] at hy;cases (hy)
   ·obtain⟨c,hc⟩:=ES y hy
    have B8:=lR.sub y c hc;obtain⟨c2,w,e1,e2,e3⟩:=F.B6 j y z hj hz (hC.free _ (mem_of_lookup hy) rfl);rw[B8] at e1;cases (e1);exact⟨c,w,hc,e2,e3⟩
 ·exact F.bC.2 y c (lR.sub y c hc)
theorem Fm.bar(F:Fm nm sc env ρ N h lc)(hN:∀a∈N',a∈N∨h.get? a=Option.none):Fm nm sc env ρ N' h lc:=by
 obtain⟨m,hn,hm⟩:=F.loc;exact⟨F.kind,F.names,F.glob,F.blt,F.has,⟨m,hn,fun i x v h1 h2 h3=>let ⟨w,e1,e2⟩:=hm i x v h1 h2 h3;⟨w,e1,e2.bar hN⟩⟩,fun i x v h1 h2 h3=>let ⟨c,w,e1,e2,e3⟩:=F.B6 i x v h1 h2 h3;⟨c,w,e1,e2,e3.bar hN⟩,F.bC⟩
theorem Inv.GS{ρ N:List Addr}{st:St}{h h':Heap}{a:Addr}{o':Obj}(I:Inv G ρ N st h)(hn:G.h₀.get? a=Option.none)(hN:a∈N)(hx:∀y,G.exc=some y→y.a≠a)(ho:h'.get? a=some o')
  (k:∀b o,b≠a→h.get? b=some o→h'.get? b=some o):Inv G ρ N st h' where
 base:=fun b o e=>k b o (fun q=>by rw[q,hn] at e;cases e) (I.base b o e)
 len:=I.len
 nodup:=I.nodup
 new:=I.new
 apart:=I.apart
 lO:=fun b m=>by
  obtain⟨o,e⟩:=I.lO b m
  by_cases q:b=a
  ·exact⟨o',q▸ho⟩
  ·exact⟨o,k b o q e⟩
 exc:=fun x e=>⟨(I.exc x e).1,k _ _ (hx x e) (I.exc x e).2⟩
 objs:=fun i b x e1 e2=>by
  obtain⟨o,he,r⟩:=I.objs i b x e1 e2;exact⟨o,k b o (fun q=>I.apart b (List.mem_of_getElem? e1) (q▸hN)) he,r.mono ⟨List.prefix_refl _,fun j m=>.inl m,fun c o e j n2 j=>k c o (fun q=>n2 (q▸hN)) e⟩⟩
section
def nR(G:Ctx)(ρ N:List Addr)(s:Shared)(af:St)(vs:List AV)(C D:Addr)(r:Result)(s':Shared):Prop:=match r with
 |.ok _=>∃m,s'.heap.Ns C m∧∀h',Heap.SameBut C s'.heap h'→Ends G ρ N s af (.lst vs) (.ref D) { s' with heap:=h' }
 |.error _=>False
section
variable {ρ N:List Addr}{s:Shared}{st:St}{A:Around}{o:Option Nat}{l:List AV}{T:List Addr→Nat→List Addr→St→Heap→Prop}{I' C D:Addr}
structure CF(G:Ctx)(ρ N:List Addr)(s:Shared)(I' C D:Addr):Prop where
 K9:∀{a},s.heap.get? a=Option.none→G.h₀.get? a=Option.none
 KZ:∀{a},s.heap.get? a=Option.none→a∉N
 IE:∀{a},s.heap.get? a=Option.none→∀y,G.exc=some y→y.a≠a
 fI:s.heap.get? I'=Option.none
 fC:s.heap.get? C=Option.none
 fD:s.heap.get? D=Option.none
 IC:I'≠C
 ID:I'≠D
 CD:C≠D
theorem CF.mk'(I:Inv G ρ N st s.heap)(fI:s.heap.get? I'=Option.none)(fC:s.heap.get? C=Option.none)(fD:s.heap.get? D=Option.none)(IC:I'≠C)(ID:I'≠D)(CD:C≠D):CF G ρ N s I' C D:=
 ⟨fun {a} h=>(by
  cases q:G.h₀.get? a with
  |none=>rfl
  |some o=>have:=I.base _ _ q;rw[h] at this;cases this),fun {a} h m=>(by obtain⟨o,q⟩:=I.lO _ m;rw[h] at q;cases q),fun {a} h y q r=>(by have:=(I.exc y q).2;rw[r,h] at this;cases this),fI,fC,fD,IC,ID,CD⟩
theorem CF.nI(Z:CF G ρ N s I' C D):I'∉D::N:=fun m=>(List.mem_cons.mp m).elim Z.ID (Z.KZ Z.fI)
theorem CF.nC(Z:CF G ρ N s I' C D):C∉D::N:=fun m=>(List.mem_cons.mp m).elim Z.CD (Z.KZ Z.fC)
structure CS(G:Ctx)(ρ N:List Addr)(s:Shared)(T:List Addr→Nat→List Addr→St→Heap→Prop)(I' C D:Addr)(k:Nat)(ρ₁:List Addr)(cb:St)(done:List AV)(items:List Value)(nn:Nat)(m:Str→Option Value)(s':Shared):Prop where
 X:bG s ρ s' ρ₁
 hI:I'∉ρ₁
 hC:C∉ρ₁
 hD:D∉ρ₁
 inv:Inv G ρ₁ (D::N) cb s'.heap
 t:T (D::N) k ρ₁ cb s'.heap
 d:s'.heap.get? D=some ⟨.type "list",Option.none,.seq (List.toArray items) nn,#[]⟩
 v:ae s'.heap ρ₁ (D::N) done items
 c:s'.heap.Ns C m
variable {k:Nat}{ρ₁:List Addr}{cb:St}{done:List AV}{items:List Value}{nn:Nat}{m:Str→Option Value}{aa:Shared}
theorem iY{h:Heap}(hn:h.Ns C m):∀o,h.get? C=some o→¬jQ o:=fun o q=>by obtain⟨o',e',r,_⟩:=ni hn;rw[e'] at q;cases q;exact r
theorem CS.Ei(S:CS G ρ N s T I' C D k ρ₁ cb done items nn m aa)(IT:jf G A o I' l T):∀o,aa.heap.get? I'=some o→¬jQ o:=fun o q=>by obtain⟨o',e,r⟩:=IT.ex S.t;rw[e] at q;cases q;exact r
theorem kG{h h':Heap}{a:Addr}(kp:∀b o,b≠a→h.get? b=some o→h'.get? b=some o)(hn:∀o,h.get? a=some o→¬jQ o):Ext (D::N) h ρ₁ h' ρ₁:=
 ⟨List.prefix_refl _,fun j m=>.inl m,fun b o e j j jN=>kp b o (fun q=>hn o (q▸e) jN) e⟩
theorem CS.item(Z:CF G ρ N s I' C D)(S:CS G ρ N s T I' C D k ρ₁ cb done items nn m aa)(IT:jf G A o I' l T){h':Heap}{tk k':Nat}(kp:∀b o,b≠I'→aa.heap.get? b=some o→h'.get? b=some o)(t:T (D::N) k' ρ₁ cb h'):CS G ρ N s T I' C D k' ρ₁ cb done items nn m { aa with heap:=h',toks:=tk }:=
 ⟨S.X.cL Z.fI kp,S.hI,S.hC,S.hD,S.inv.cL (Z.K9 Z.fI) S.hI Z.nI (Z.IE Z.fI) (S.Ei IT) kp,t,kp D _ (Ne.symm Z.ID) S.d,S.v.mono (kG kp (S.Ei IT)),S.c.at' fun o e=>kp C o (Ne.symm Z.IC) e⟩
theorem CS.store(Z:CF G ρ N s I' C D)(S:CS G ρ N s T I' C D k ρ₁ cb done items nn m aa)(IT:jf G A o I' l T){h':Heap}{tk:Nat}{m':Str→Option Value}(kp:∀b o,b≠C→aa.heap.get? b=some o→h'.get? b=some o)(c:h'.Ns C m'):CS G ρ N s T I' C D k ρ₁ cb done items nn m' { aa with heap:=h',toks:=tk }:=
 ⟨S.X.cL Z.fC kp,S.hI,S.hC,S.hD,S.inv.cL (Z.K9 Z.fC) S.hC Z.nC (Z.IE Z.fC) (iY S.c) kp,
  IT.frame S.t (List.prefix_refl _) (fun j m=>.inl m) (by unfold same;split<;>trivial) (fun b o e n1 n2 q=>kp b o (fun r=>q.elim (fun q=>Z.IC (q.symm.trans r)) fun q=>iY S.c o (r▸e) q) e) Z.nI,
  kp D _ (Ne.symm Z.CD) S.d,S.v.mono (kG kp (iY S.c)),c⟩
theorem CS.eval(Z:CF G ρ N s I' C D)(S:CS G ρ N s T I' C D k ρ₁ cb done items nn m aa)(IT:jf G A o I' l T){ag:Shared}{ρ₂:List Addr}{st₂:St}(X:bG aa ρ₁ ag ρ₂)(I:Inv G ρ₂ (D::N) st₂ ag.heap)(hs:same o cb st₂):CS G ρ N s T I' C D k ρ₂ st₂ done items nn m ag:=by
 have Mn:∀{a:Addr}{o:Obj},aa.heap.get? a=some o→a∉ρ₁→a∉ρ₂:=fun e n m=>(X.fresh _ m).elim n (fun q=>by rw[e] at q;cases q)
 obtain⟨oI,jP,_⟩:=IT.ex S.t;obtain⟨oC,Qa,_⟩:=ni S.c;exact⟨S.X.trans X,Mn jP S.hI,Mn Qa S.hC,Mn S.d S.hD,I,IT.frame S.t X.pre X.fresh hs (fun b o e n1 n2 q=>X.keep b o e n1) Z.nI,X.keep D _ S.d S.hD,S.v.mono X.ext,S.c.at' fun o e=>X.keep C o e S.hC⟩
theorem CS.append(Z:CF G ρ N s I' C D)(S:CS G ρ N s T I' C D k ρ₁ cb done items nn m aa)(IT:jf G A o I' l T){w:AV}{y:Value}(V:av aa.heap ρ₁ (D::N) w y):∃NF,CS G ρ N s T I' C D k ρ₁ cb (done++[w]) (items++[y]) NF m { aa with heap:=aa.heap.update D (Obj.mapSeq fun dR=>dR.push y) }:=by
 have kp:∀b o,b≠D→aa.heap.get? b=some o→(aa.heap.update D (Obj.mapSeq fun dR=>dR.push y)).get? b=some o:=fun b o ne e=>(Heap.get?_update_other _ _ (Ne.symm ne)).trans e
 have hD:=Heap.get?_update_self (Obj.mapSeq fun dR=>dR.push y) S.d rfl;have E:Ext (D::N) aa.heap ρ₁ (aa.heap.update D (Obj.mapSeq fun dR=>dR.push y)) ρ₁:=⟨List.prefix_refl _,fun j m=>.inl m,fun b o e n1 n2 jN=>kp b o (fun q=>n2 (q▸List.mem_cons_self)) e⟩;exact⟨_,S.X.cL (tk:=aa.toks) Z.fD kp,S.hI,S.hC,S.hD,S.inv.GS (Z.K9 Z.fD) List.mem_cons_self (Z.IE Z.fD) hD kp,IT.frame S.t (List.prefix_refl _) (fun j m=>.inl m) (by unfold same;split<;>trivial) (fun b o e n1 n2 q=>kp b o (fun q=>n2 (q▸List.mem_cons_self)) e) Z.nI,
  by rw[hD];unfold Obj.mapSeq;simp;rfl,(S.v.mono E).append (ae.single (V.mono E)),S.c.at' fun o e=>kp C o Z.CD e⟩
theorem CS.fin(Z:CF G ρ N s I' C D)(S:CS G ρ N s T I' C D k ρ₁ cb done items nn m aa)(IT:jf G A o I' l T){h' yY:Heap}(kp:∀b o,b≠I'→aa.heap.get? b=some o→h'.get? b=some o)(hs:Heap.SameBut C h' yY):Ends G ρ N s cb (.lst done) (.ref D) { aa with heap:=yY }:=by
 have hn:=S.c.at' fun o e=>kp C o (Ne.symm Z.IC) e
 have LG:∀b o,b≠C→h'.get? b=some o→yY.get? b=some o:=fun b o n e=>(hs.2 b n).trans e
 haveI E:=kG (N:=N) (D:=D) (ρ₁:=ρ₁) kp (S.Ei IT);exact⟨ρ₁,(S.X.cL (tk:=aa.toks) Z.fI kp).cL (tk:=aa.toks) Z.fC LG,((S.inv.cL (Z.K9 Z.fI) S.hI Z.nI (Z.IE Z.fI) (S.Ei IT) kp).cL (Z.K9 Z.fC) S.hC Z.nC (Z.IE Z.fC) (iY hn) LG).bar fun a m=>List.mem_cons_of_mem _ m,
  D,items,rfl,S.hD,Z.KZ Z.fD,⟨_,LG D _ (Ne.symm Z.CD) (kp D _ (Ne.symm Z.ID) S.d),rfl,nn,rfl⟩,((S.v.mono E).mono (kG LG (iY hn))).bar fun a m=>.inl (List.mem_cons_of_mem _ m)⟩
end
noncomputable def wJ(tb:Tab)(rc:RC)(lc:Lc)(i:Nat)(ee:Sv.E)(x:AV)(st:St):R (List AV):=(aC tb rc (lc.set i (some x)) ee st).bind fun v st=>.ok [v] st
open Classical in
theorem turns_inv{tb:Tab}{rc:RC}{lc:Lc}{i:Nat}{ee:Sv.E}{o:Option Nat}{x:AV}{l vs:List AV}{st af:St}{P:Prop}(h:jw o (wJ tb rc lc i ee) (x::l) st=.ok vs af)
  (k:∀w aU rest,aC tb rc (lc.set i (some x)) ee st=.ok w aU→same o st aU→jw o (wJ tb rc lc i ee) l aU=.ok rest af→vs=w::rest→P):P:=
 R.bE h R.ay fun ws aU h1 h=>R.bE h1 R.ay fun w bf h2 h1=>by
  cases (h1)
  by_cases q:same o st aU
  ·have h:=(if_pos q).symm.trans h
   exact R.bE h R.ay fun rest cI h3 h=>by
    cases (h);exact k w aU rest h2 q h3 rfl
  ·have h:=(if_neg q).symm.trans h
   cases (h)
inductive CI(G:Ctx)(ρ N:List Addr)(s:Shared)(T:List Addr→Nat→List Addr→St→Heap→Prop)(I' C D:Addr)(o:Option Nat)(f:AV→St→R (List AV))(l vs:List AV)(af:St)(n:Nat)(s':Shared):Prop
 |mk (k:Nat) (ρ₁:List Addr) (cb:St) (done:List AV) (items:List Value) (nn:Nat) (m:Str→Option Value) (rest:List AV) (hn:n=(l.drop k).length) (hk:k≤l.length) (S:CS G ρ N s T I' C D k ρ₁ cb done items nn m s') (hd:done.length=k) (ht:jw o f (l.drop k) cb=.ok rest af) (hv:vs=done++rest)
theorem yK{elt iter:Expr}{x:Str}{px pos:Pos}{i:Nat}{scope:Scope}{ee:Sv.E}(hC:jH nm sc scope i x)(L6:SE G rc nm scope.names n elt ee){env:Env}{A:Around}{ρ b4 N:List Addr}{s bh:Shared}{lc:Lc}{st ua af:St}{cl:List (Str×Addr)}(lR:rU G sc env cl scope)
  {o:Option Nat} {I' C D:Addr} {l:List AV} {T:List Addr→Nat→List Addr→St→Heap→Prop} {vs:List AV} {Kr:Str→Option Value} (F:Fm nm sc env ρ (D::N) s.heap lc) (I:Inv G ρ N st s.heap) (hA:iZ G n A) (IT:jf G A o I' l T)
  (Pf:s.heap.get? I'=Option.none) (OE:s.heap.get? C=Option.none) (H6:s.heap.get? D=Option.none) (Lp:I'≠C) (KH:I'≠D) (Od:C≠D) (hlen:¬100000<l.length)
  (d8:bG s ρ bh b4) (hI:I'∉b4) (uX:C∉b4) (IP:D∉b4) (dN:Inv G b4 (D::N) ua bh.heap) (yB:T (D::N) 0 b4 ua bh.heap) (hD:bh.heap.get? D=some ⟨.type "list",Option.none,.seq #[] 0,#[]⟩) (yX:bh.heap.Ns C Kr)
  (ht:jw o (wJ G.tb rc lc i ee) l ua=.ok vs af) :
  bz (model G.prog G.w) A (.compLoop (.ListComp elt [⟨.Name x px,iter,[],0⟩] scope pos) 0 (.ref I') (.ref D) (compEnvC scope cl C env)) (nR G ρ N s af vs C D) bh:=by
 have Z:=CF.mk' I Pf OE H6 Lp KH Od;refine K.compLoop (CI G ρ N s T I' C D o (wJ G.tb rc lc i ee) l vs af) (fun m jD hm=>?_) _ (.mk 0 b4 ua [] [] 0 Kr vs rfl (Nat.zero_le _) ⟨d8,hI,uX,IP,dN,yB,hD,ae.nil,yX⟩ rfl ht rfl);clear d8 hI uX IP dN yB hD yX ht Pf OE H6 Lp KH Od;obtain⟨k,ρ₁,cb,done,items,nn,m₁,rest,hm,hk,S,uN,ht,hv⟩:=hm
 by_cases dh:k<l.length
 ·rw[List.drop_eq_getElem_cons dh] at ht
  refine turns_inv ht fun w aU JD h6 CP h7 hr=>K.of (IT.item (x:=l[k]) (List.getElem?_eq_getElem dh) S.inv S.hI S.t fun v h' tk V T5 kp=>?_)
  have S5:=S.item Z IT (tk:=tk) kp T5;refine K.of (wpAny_assign_Name (wpAny_storeName_local (env:=compEnvC scope cl C env) (lookup_relabel_local hC.xk) S5.c (fun yY O0 Pu=>?_) (by show(scope.kind==.class||(scope.kind==.module&&_))=false;rw[hC.kind];rfl)));have Ou:∀b o,b≠C→h'.get? b=some o→yY.get? b=some o:=fun b o ne e=>(Pu.2 b ne).trans e
  have S6:=S5.store Z IT (tk:=tk+1) Ou O0;haveI F6:Fm nm scope.names (compEnvC scope cl C env) ρ₁ (D::N) yY (lc.set i (some l[k])):=hC.fm lR (F.bX S6.X) O0 (val:=v) (by simp) (V.mono (kG Ou (iY S5.c))) S.hC;refine K.ends (L6 (s:={ jD with heap:=yY,toks:=tk+1 }) _ F6 S6.inv hA h6) fun y Qy Kp Nf NU ML=>?_
  have S7:=S6.eval Z IT Nf NU CP;refine(S7.append Z IT ML).elim fun NF S8=>?_
  haveI QF:=S.v.length;refine K.of (call_meets PySem.F.slot_list_append ⟨_,S7.d,rfl⟩ PySem.F.entry_list_append (PySem.F.args_list_append_2 _ _) (list_append D (List.toArray items) nn y (by rw[List.size_toArray,sizeLine_eq];exact(gk 0x100000007100020002910301930202910186a0051169) hlen uN dh QF)) ⟨S7.d,?_⟩);exact⟨(l.drop (k+1)).length,by rw[hm,List.length_drop,List.length_drop];exact(aZ 0x1000510111040051001019) dh,.mk (k+1) Kp aU (done++[w]) (items++[y]) NF _ JD rfl dh S8 (by rw[List.length_append,uN];rfl) h7 (by rw[hv,hr,List.append_assoc];rfl)⟩
 ·rw[List.drop_eq_nil_of_le (Nat.le_of_not_lt dh)] at ht
  haveI EZ:k=l.length:=Nat.le_antisymm hk (Nat.le_of_not_lt dh);refine K.of (IT.done S.inv S.hI (S.inv.Ca hA) (Z.IE Z.fI) (EZ▸S.t) fun h' kp=>⟨m₁,S.c.at' fun o e=>kp C o (Ne.symm Z.IC) e,fun yY NJ=>?_⟩);cases (ht);rw[hv,List.append_nil];exact S.fin Z IT kp NJ
end
section
open Classical in
set_option tactic.hygienic true in
theorem SE.comp{elt iter:Expr}{x:Str}{px pos:Pos}{i:Nat}{scope:Scope}{src:Src}{ee:Sv.E}(hC:jH nm sc scope i x)(hs:fL G rc nm sc n iter src)(L6:SE G rc nm scope.names n elt ee)(jl:∀env v,foldedSetIterable iter env v=Pure.pure v) :
  SE G rc nm sc n (.ListComp elt [⟨.Name x px,iter,[],0⟩] scope pos) (.comp (.gen (.name i) src .nil (.elt ee))):=fun {env A ρ N s lc st st' v} E F I hA he=>by
 refine R.bE he R.ay fun vs af h1 he=>?_
 cases (he);obtain⟨⟨o,l⟩,aU,h2,h1⟩:=R.mH h1;dsimp only at h1;split at h1
 ·cases (h1)
 ·rename_i hlen
  obtain⟨cl,lR⟩:=hC.around (G:=G) F;show au _ _ (comprehension (.ListComp elt [⟨.Name x px,iter,[],0⟩] scope pos) scope env (firstIterPos [⟨.Name x px,iter,[],0⟩] pos) (newList []) false (eval iter env) Option.none) _ _ _;refine K.comprehension rfl (jl env) lR.eq hC.kind hC.names (K.mono (hs E F I hA h2) (fun xv aa az=>wpAny_mono az (fun it ag bw=>?_) fun j j x=>x) fun j j x=>x);obtain⟨ρ₂,I',T,rfl,hf,hI,bT,aM,IT,T0⟩:=bw;refine wpAny_newObj_type (wpAny_newFunctionEnv hC.vK (by intro y hy;simp at hy) (fun az zV vA=>?_) hC.kind);dsimp only at zV vA;haveI H6:=aW ag.heap;have pf:=fa (o:=⟨.none,Option.none,.plain,#[]⟩) aM;have Pk:=dY bT I.there H6 pf.1;generalize OD:ag.heap.objs.size=D at *;have hH:ag.heap.get? (ag.heap.push { cls:=.type "list",data:=.seq ([]:List Value).toArray }).objs.size=Option.none:=Heap.get?_none_of_le (by rw[Heap.size_push];exact aO 0x1011004000);have cS:(ag.heap.push { cls:=.type "list",data:=.seq ([]:List Value).toArray }).objs.size≠D:=by rw[Heap.size_push];exact(aZ 0x10101100426100029) OD
  generalize R4:(ag.heap.push { cls:=.type "list",data:=.seq ([]:List Value).toArray }).objs.size=C at *;have uX:C∉ρ₂:=fun m=>by obtain⟨o,q⟩:=aM.there _ m;rw[hH] at q;cases (q)
  haveI QK:=dY bT I.there hH uX;have old:∀b o,ag.heap.get? b=some o→az.get? b=some o:=fun b o e=>(vA.2 b (fun q=>by rw[q,hH] at e;cases (e))).trans (Heap.get?_push_of_some _ (Heap.get?_push_of_some _ e))
  have OX:az.get? D=some ⟨.type "list",Option.none,.seq #[] 0,#[]⟩:=(vA.2 D (Ne.symm cS)).trans (Heap.get?_push_of_some _ (OD▸Heap.get?_push_size _ rfl));obtain⟨oI,jP,_⟩:=IT.ex T0;haveI Lp:I'≠C:=fun q=>by rw[q,hH] at jP;cases (jP)
  have KH:I'≠D:=fun q=>by rw[q,H6] at jP;cases (jP)
  haveI KZ:I'∉N:=fun m=>by obtain⟨o,q⟩:=I.lO _ m;rw[hf] at q;cases (q)
  have T1:T (D::N) 0 ρ₂ aU az:=IT.frame (IT.bar T0 fun a m=>(List.mem_cons.mp m).elim (fun q=>.inr (q▸H6)) .inl) (List.prefix_refl _) (fun j m=>.inl m) (by unfold same;split<;>trivial) (fun b o e j j j=>old b o e) (fun m=>(List.mem_cons.mp m).elim KH KZ);haveI X3:bG s ρ { ag with heap:=az,toks:=ag.toks+([]:List (Str×Value)).length } ρ₂:=⟨bT.pre,bT.fresh,fun b o e n=>old b o (bT.keep b o e n),bT.os,bT.gens⟩;have loop:=yK (elt:=elt) (iter:=iter) (px:=px) (pos:=pos) hC L6 lR (F.bar (N':=D::N) fun a m=>(List.mem_cons.mp m).elim (fun q=>.inr (q▸Pk)) .inl) I hA IT hf QK Pk Lp KH cS hlen X3 hI uX pf.1 (aM.lay H6 old OX) T1 OX zV h1;haveI goal:bz (model G.prog G.w) A (.compStart (.ListComp elt [⟨.Name x px,iter,[],0⟩] scope pos) 0 (.ref I') (.ref D) (compEnvC scope cl C env)) (nR G ρ N s st' vs C D) { ag with heap:=az,toks:=ag.toks+([]:List (Str×Value)).length }:=
   K.compStart loop (IT.self T1 loop)
  refine K.gu goal fun r s' hr=>?_
  unfold nR at hr;cases r with
  |ok f=>exact hr
  |error e=>exact hr.elim
end
section
set_option backward.match.sparseCases true
section
variable {prog:Program}{w:World}{A:Around}{R:Result→Shared→Prop}{s:Shared}
noncomputable def Ha:Flow→Value
 |.ret v=>v
 |_=>.none
theorem K.func
(h:au (model prog w) (A.deeper env) (execs body env) (fun f s'=>R (.ok (.ret (Ha f))) s')
 (fun e s'=>au (model prog w) (A.deeper env) (leaving env e) (fun j zE=>R (.error e) zE) (fun e' zE=>R (.error e') zE) s') s) :
 bz (model prog w) A (.func body env) R s:=by
 refine K.ofTree rfl ?_;show au _ (A.deeper env) (do PySem.point;match ←(execs body env).onRaise (leaving env) with|.ret v=>ret v|_=>ret .none) _ _ s;refine K.bind (K.point (K.bind (K.onRaise (K.mono h (fun f s' h'=>?_) fun j j h'=>h'))));cases f<;>exact K.pure h'
theorem K.Al{a:Addr}{args:Args}{o:Obj}{fd:FuncData}{body:List Stmt}(J8:A.depth<recursionLimit)
  (ho:s.heap.get? a=some o)
  (CL:o.data=.func fd) (Ny:fd.scope.isCoroutine=false) (Gl:fd.scope.isGenerator=false) (y6:fd.body=.stmts body) (LQ:s.heap.CodeRec fd.code fd.qualname)
  (h:wpAny (model prog w) A.in1 (bindArgs fd args) (fun eG aa=>
   wpAny (model prog w) A.in1 (newFunctionEnv fd.scope fd.globals fd.closure eG (fd.qualname++".<locals>.") (some a) fd.code Option.none fd.builtins)
    (fun env ag=>ag.heap.NoLimit∧bz (model prog w) A (.func body env) R ag) (fun e s'=>R (.error e) s') aa) (fun e s'=>R (.error e) s') s) :
  bz (model prog w) A (.call (.ref a) args) R s:=by
 refine K.ofTree rfl (K.of ?_);show wpAny _ A.in1 (load a>>=_) _ _ s;refine wpAny_bind (wpAny_load ho ?_);obtain⟨c,oc,vs,tq,hc,Rf,Rx,hq⟩:=LQ;rw[CL];show wpAny _ _ (callFunction a fd args) _ _ _;unfold callFunction;rw[hc] at h ⊢;refine wpAny_bind (wpAny_field Rf Rx hq (wpAny_bind (wpAny_pure ?_)));exact wpAny_bind (wpAny_mono h (fun eG aa az=>wpAny_bind (wpAny_mono az (fun env ag bw=>wpAny_bind (wpAny_enterFrame bw.1 J8
  (by rw[Gl,Ny,y6];exact wpAny_pure (And.intro rfl bw.2)))) fun j j h'=>h')) fun j j h'=>h')
end
end
section
noncomputable def lb(fr:List Env):List Addr:=fr.filterMap (·.frame)
noncomputable def dg(h₀ h:Heap)(ρ:List Addr):List Env→Prop
 |[]=>True
 |env::rest=>env.scope.kind≠.module∧(∃L o,env.frame=some L∧L∉ρ∧h₀.get? L=none∧h.get? L=some o∧¬jQ o∧∀vs,o.data≠.fields vs)∧dg h₀ h ρ rest
structure z4(fr:List Env)(cls fl:Value)(az:Heap)(e:Addr)(h:Heap):Prop where
 keep:∀b o,az.get? b=some o→b∉lb fr→h.get? b=some o
 slot:∀b o,az.get? b=some o→∃sl,h.get? b=some { o with slots:=sl }
 new:az.get? e=none
 exc:∃oe vs,h.get? e=some oe∧oe.cls=cls∧oe.data=.fields vs∧vs[2]?=some .none ∧
  (vs[1]?=some .none∨∃T oT ts,vs[1]?=some (.ref T)∧T≠e∧az.get? T=none∧h.get? T=some oT∧oT.data=.fields ts∧ts[3]?=some fl)
theorem i5:jQ { o with slots:=sl }↔jQ o:=by
 obtain⟨c,d,dt,s0⟩:=o;cases dt<;>exact Iff.rfl
theorem dg.keep(k:∀b o,h.get? b=some o→b∉ρ→∃sl,h'.get? b=some { o with slots:=sl })(f:∀a∈aF,a∈ρ∨h.get? a=none):∀{l:List Env},dg h₀ h ρ l→dg h₀ h' aF l
 |[],_=>trivial
 |env::l,r=>by
  obtain⟨h1,⟨L,o,h2,h3,h6,h4,h5,h7⟩,hr⟩:=r;obtain⟨sl,e⟩:=k L o h4 h3;exact⟨h1,⟨L,_,h2,fun m=>(f L m).elim h3 (fun q=>by rw[h4] at q;cases q),h6,e,fun q=>h5 (i5.mp q),h7⟩,dg.keep k f hr⟩
theorem dg.mem:∀{l:List Env},dg h₀ h ρ l→∀b∈lb l,b∉ρ∧h₀.get? b=none∧∃o,h.get? b=some o∧¬jQ o∧∀vs,o.data≠.fields vs
 |[],_,b,m=>by simp[lb] at m
 |env::l,r,b,m=>by
  obtain⟨h1,⟨L,o,h2,h3,h6,h4,h5,h7⟩,hr⟩:=r;unfold lb at m;rw[List.filterMap_cons,h2] at m;rcases List.mem_cons.mp m with rfl|m
  ·exact⟨h3,h6,o,h4,h5,h7⟩
  ·exact dg.mem hr b m
theorem dg.fun:∀{l:List Env},dg h₀ h ρ l→h.FunFrames ⟨#[],default⟩ l
 |[],_=>trivial
 |env::l,r=>by
  obtain⟨h1,⟨L,o,h2,h3,h6,h4,h5,h7⟩,hr⟩:=r;exact⟨h1,⟨L,o,h2,Heap.get?_none_of_le (by show(#[]:Array Obj).size≤L;simp),h4,h7⟩,dg.fun hr⟩
section
variable {M:Model}{A:Around}{E:Value→Shared→Prop}{s:Shared}{az:Heap}{e:Addr}{cls fl:Value}{fr:List Env}
theorem z4.frames(F:z4 fr cls fl az e h)(I:dg h₀ az ρ fr):dg h₀ h ρ fr:=I.keep (fun b o q j=>F.slot b o q) fun j m=>.inl m
theorem pI(rp:A.frames=some (env::outer))(hf:env.frame=some L)(hI:dg h₀ s.heap ρ (env::outer))
(k1:∀b o,az.get? b=some o→b∉lb (env::outer)→s.heap.get? b=some o)(k2:∀b o,az.get? b=some o→∃sl,s.heap.get? b=some { o with slots:=sl })(k3:az.get? e=none)
(he:s.heap.get? e=some oe)(hc:oe.cls=cls)(hd:oe.data=.fields vs)(IJ:vs[2]?=some .none)
(h:∀h',z4 (env::outer) cls (rawInt L) az e h'→Q () { s with heap:=h' }) :
 wpAny M A (do let a ←frameOf env;let pl ←entryPlaceOf L R9;let b ←EntryCells.newEntry head a .none (rawInt L) .none pl;setField (.ref e) 1 b) Q E s:=by
 have js:1<vs.size:=Nat.lt_of_succ_lt (Array.getElem?_eq_some_iff.mp IJ).1;haveI Nt:e∉lb (env::outer):=fun hm=>by
  obtain⟨_,_,o,ho,_,Rr⟩:=hI.mem e hm;rw[he] at ho;cases (ho);exact Rr vs hd
 refine wpAny_bind (wpAny_frameOf_fun rp hI.fun hf fun h2 B5=>?_);refine wpAny_bind (wpAny_entryPlaceOf fun pl Oz=>?_);unfold EntryCells.newEntry newFields;refine wpAny_bind (wpAny_newObj_type ?_ (Oz.sizeOk5 _ _ _ _ _));have Ow:h2.get? e=some oe:=(B5.2.1 e Nt).trans he;have OI:=Heap.get?_push_of_some (h:=h2) { cls:=.type "traceback",dict:=none,data:=.fields ([head,.ref L,.none,rawInt L,.none]++(if pl.isEmpty then List.replicate 6 Value.none else pl)).toArray } Ow;refine wpAny_setField OI hd js (h _ ?_);have GI:h2.objs.size≠e:=Nat.ne_of_gt (Heap.lt_size Ow);have Oh:=Obj.data_mapFields hd (·.setIfInBounds 1 (Value.ref h2.objs.size));haveI Rj:=Heap.get?_update_self (Obj.mapFields (·.setIfInBounds 1 (Value.ref h2.objs.size))) OI (Obj.isFreed_of_fields Oh);haveI QH:=(Heap.get?_update_other (h2.push { cls:=.type "traceback",dict:=none,data:=.fields ([head,.ref L,.none,rawInt L,.none]++(if pl.isEmpty then List.replicate 6 Value.none else pl)).toArray })
  (Obj.mapFields (·.setIfInBounds 1 (Value.ref h2.objs.size))) (Ne.symm GI)).trans (Heap.get?_push_size h2 rfl)
 have keep:∀b o,b≠e→h2.get? b=some o →
   ((h2.push { cls:=.type "traceback",dict:=none,data:=.fields ([head,.ref L,.none,rawInt L,.none]++(if pl.isEmpty then List.replicate 6 Value.none else pl)).toArray }).update e (Obj.mapFields (·.setIfInBounds 1 (Value.ref h2.objs.size)))).get? b=some o:=
  fun b o QI hb=>by
   rw[Heap.get?_update_other _ _ (Ne.symm QI)];exact Heap.get?_push_of_some _ hb
 have ne:∀b o,az.get? b=some o→b≠e:=fun b o q r=>by rw[r,k3] at q;cases (q)
 refine⟨fun b o q n=>keep b o (ne b o q) ((B5.2.1 b n).trans (k1 b o q n)),fun b o q=>?_,k3,_,_,Rj,(Obj.cls_mapFields _ _).trans hc,Oh,by rw[Array.getElem?_setIfInBounds_ne (by decide)];exact IJ,.inr ⟨h2.objs.size,_,_,by simp[js],GI,?_,QH,rfl,?_⟩⟩
 ·obtain⟨sl,q2⟩:=k2 b o q
  obtain⟨K8,q3⟩:=B5.2.2 b _ q2;exact⟨K8,keep b _ (ne b o q) q3⟩
 ·cases q:az.get? h2.objs.size with
  |none=>rfl
  |some o=>
   obtain⟨sl,q2⟩:=k2 _ o q;obtain⟨K8,q3⟩:=B5.2.2 _ _ q2;exact absurd (Heap.lt_size q3) (Nat.lt_irrefl _)
 ·first
   |(simp;done)
   |(rcases Oz with rfl|⟨_,_,_,_,_,_,_,rfl⟩<;>simp)
theorem ti(rp:A.frames=some (env::outer))(hf:env.frame=some L)(hI:dg h₀ az ρ (env::outer))
(F:z4 (env::outer) cls .none az e s.heap)(h:∀h',z4 (env::outer) cls (rawInt L) az e h'→Q () { s with heap:=h' }):wpAny M A (noteFrame (.ref e) env) Q E s:=by
 haveI QU:=F.frames hI;obtain⟨oe,vs,he,hc,hd,h2,ht⟩:=F.exc;unfold noteFrame;rw[hf];dsimp only;rcases ht with h1|⟨T,oT,ts,h1,GI,Lq,hT,Ir,h3⟩
 ·refine wpAny_bind (wpAny_field he hd h1 ?_)
  rw[if_neg (by decide)];exact pI rp hf QU F.keep F.slot F.new he hc hd h2 h
 ·refine wpAny_bind (wpAny_field he hd h1 ?_)
  rw[if_pos (show(Value.ref T != Value.none)=true from by simp)];refine wpAny_bind (wpAny_field hT Ir h3 ?_);rw[if_neg (show ¬((Value.none==rawInt L)=true) from by simp[rawInt])];refine wpAny_bind (wpAny_setField hT Ir (Array.getElem?_eq_some_iff.mp h3).1 ?_);have other:∀b,b≠T→(s.heap.update T (Obj.mapFields (·.setIfInBounds 3 Value.none))).get? b=s.heap.get? b:=fun b hb=>Heap.get?_update_other _ _ (Ne.symm hb)
  have ne:∀b o,az.get? b=some o→b≠T:=fun b o q r=>by rw[r,Lq] at q;cases q
  refine pI (s:={ s with heap:=s.heap.update T (Obj.mapFields (·.setIfInBounds 3 Value.none)) }) rp hf (hI.keep (fun b o q j=>?_) fun j m=>.inl m) (fun b o q n=>(other b (ne b o q)).trans (F.keep b o q n)) (fun b o q=>?_) F.new ((other e (Ne.symm GI)).trans he) hc hd h2 h
  ·obtain⟨sl,r⟩:=F.slot b o q
   exact⟨sl,(other b (ne b o q)).trans r⟩
  ·obtain⟨sl,r⟩:=F.slot b o q
   exact⟨sl,(other b (ne b o q)).trans r⟩
theorem nf(F:z4 fr cls fl az e s.heap)(h:∀h',z4 fr cls .none az e h'→Q () { s with heap:=h' }):wpAny M A (setFlight (.ref e) none) Q E s:=by
 obtain⟨oe,vs,he,hc,hd,h2,ht⟩:=F.exc;unfold setFlight;rcases ht with h1|⟨T,oT,ts,h1,GI,Lq,hT,Ir,h3⟩
 ·refine wpAny_bind (wpAny_field he hd h1 ?_)
  rw[if_neg (by decide)];exact wpAny_pure (h s.heap ⟨F.keep,F.slot,F.new,oe,vs,he,hc,hd,h2,.inl h1⟩)
 ·refine wpAny_bind (wpAny_field he hd h1 ?_)
  rw[if_pos (show(Value.ref T != Value.none)=true from by simp)];have KI:3<ts.size:=(Array.getElem?_eq_some_iff.mp h3).1;have other:∀b,b≠T→(s.heap.update T (Obj.mapFields (·.setIfInBounds 3 ((none:Option Addr).elim Value.none fun f=>rawInt f)))).get? b=s.heap.get? b:=fun b hb=>Heap.get?_update_other _ _ (Ne.symm hb)
  have ne:∀b o,az.get? b=some o→b≠T:=fun b o q r=>by rw[r,Lq] at q;cases q
  refine wpAny_setField hT Ir KI (h _ ⟨fun b o q n=>(other b (ne b o q)).trans (F.keep b o q n),fun b o q=>?_,F.new,oe,vs,(other e (Ne.symm GI)).trans he,hc,hd,h2,.inr ⟨T,_,_,h1,GI,Lq,Heap.get?_update_self _ hT (Obj.isFreed_of_fields (Obj.data_mapFields Ir _)),Obj.data_mapFields Ir _,by simp[KI]⟩⟩);obtain⟨sl,r⟩:=F.slot b o q;exact⟨sl,(other b (ne b o q)).trans r⟩
theorem xH(rp:A.frames=some (env::outer))(hf:env.frame=some L)(hI:dg h₀ az ρ (env::outer))
(F:z4 (env::outer) cls .none az e s.heap)(h:∀h',z4 (env::outer) cls .none az e h'→Q () { s with heap:=h' }):wpAny M A (leaving env (.ref e)) Q E s:=by
 unfold leaving;exact wpAny_bind (ti rp hf hI F fun h' F'=>nf (s:={ s with heap:=h' }) F' h)
end
end
noncomputable def z5(G:Ctx):Value:=(G.mg (Str.ofString "IsNestedError")).getD .none
structure wB(G:Ctx):Prop where
 own:∃C,OwnCls (Str.ofString "IsNestedError") C [.type "RuntimeError",.type "Exception",.type "BaseException",.type "object"] "RuntimeError.__new__" G.mg G.h₀
inductive XE(G:Ctx)(ρ N:List Addr)(fr:List Env)(s:Shared)(st':St)(e:Value)(s':Shared):Prop where
 |mk (a:Addr) (aF:List Addr) (aa:Shared) (q:e=.ref a) (X:bG s ρ aa aF) (I:Inv G aF N st' aa.heap) (F:z4 fr (z5 G) .none aa.heap a s'.heap) (o:s'.os=aa.os) (g:s'.gens=aa.gens)
theorem XE.after(A:bG s ρ aa ρ₁)(h:XE G ρ₁ N fr aa st' e s'):XE G ρ N fr s st' e s':=
 h.rec fun a aF ag q X i f o g=>⟨a,aF,ag,q,A.trans X,i,f,o,g⟩
theorem R.wb{α:Type}{lc aK:Lc}{r:R α}{f:α→St→X}{k:Nat}{st':St}(h:r.Fs lc f=.exc k aK st'):(r=.exc k st'∧aK=lc)∨∃x af,r=.ok x af∧f x af=.exc k aK st':=by
 cases r with
 |ok a st=>exact .inr ⟨a,st,rfl,h⟩
 |exc j st=>cases h;exact .inl ⟨rfl,rfl⟩
 |stuck=>cases h
def B9(G:Ctx)(rc:RC)(n:Nat):Prop:=
 ∀{A:Around}{fr:List Env}{ρ N:List Addr}{s:Shared}{st st':St}{f:Addr}{args:List AV}{kw:Option (Nat×AV)}{k:Nat}{vals:List Value}{kws:List (Str×Value)}{R:Result→Shared→Prop},G.tb.jZ f=false→Inv G ρ N st s.heap→eB G n A→A.frames=some fr→dg G.h₀ s.heap ρ fr →
  ae s.heap ρ N args vals→pU G s.heap ρ N f kw kws→rc f args kw st=.exc k st'→(∀e s',XE G ρ N fr s st' e s'→R (.error e) s')→bz (model G.prog G.w) A (.call (.ref f) ⟨vals,kws⟩) R s
def GB(G:Ctx)(rc:RC)(nm:List Str)(sc:List (Str×NameKind))(n:Nat)(p:Expr)(e:Sv.E):Prop:=
 ∀{env:Env}{A:Around}{fr:List Env}{ρ N:List Addr}{s:Shared}{lc:Lc}{st st':St}{k:Nat}(Q:Value→Shared→Prop)(E:Value→Shared→Prop),Fm nm sc env ρ N s.heap lc→Inv G ρ N st s.heap→iZ G n A→A.frames=some fr→dg G.h₀ s.heap ρ fr →
  aC G.tb rc lc e st=.exc k st'→(∀v s',XE G ρ N fr s st' v s'→E v s')→au (model G.prog G.w) A (eval p env) Q E s
theorem dg.bX(F:dg h₀ s.heap ρ fr)(X:bG s ρ s' aF):dg h₀ s'.heap aF fr:=
 F.keep (fun b o q n=>⟨o.slots,X.keep b o q n⟩) X.fresh
theorem GB.aA(hS:cg G)(dQ:B9 G rc n)(hc:G.tb.jZ f=false)(hm:lz G name f)(hb:∀env aH,attributeBase o name env aH=aH)(hl:(cF.endLine==pos.line)=true)(hlen:ps.length<30)
(ha:SE G rc nm sc n o a)(hp:bq ps)(hs:lr G rc nm sc n ps es) :
 GB G rc nm sc n (.Call (.Attribute o name cF) ps [] pos) (.aA a f es Option.none Option.none):=fun {env A fr ρ N s lc st st' k} Q E F I hA rp hF he hE=>
 nW he R.b8 fun j sl eo vs af h0 q1 q2 h1 he=>qf hS hm hb hl hlen ha hp hs F I hA h0 q1 q2 h1 fun vals ag ρ₂ bk aM br=>
  K.call (dQ (kw:=Option.none) (kws:=[]) hc aM hA.call rp (hF.bX bk) br rfl he fun e s' h=>hE e s' (h.after bk))
structure vh(G:Ctx)(A:Around)(env:Env)(outer:List Env)(ρ:List Addr)(h:Heap):Prop where
 fr:A.frames=some (env::outer)
 frame:env.frame=some env.locals
 out:dg G.h₀ h ρ outer
 apart:∀b∈lb outer,b∉own env
theorem vh.all{A:Around}{env:Env}{outer:List Env}{ρ N:List Addr}{s:Shared}{lc:Lc}{st:St}(S:vh G A env outer ρ s.heap)(B:Bd G nm sc env ρ N st lc s):dg G.h₀ s.heap ρ (env::outer):=
 let ⟨o,h1,h2,h3⟩:=B.fr.kind _ aI
 ⟨by rw[B.fm.kind];decide,⟨env.locals,o,S.frame,B.fr.bC _ aI,B.fr.new _ aI,h1,h2,h3⟩,S.out⟩
theorem dg.Fb:∀{l:List Env},dg h₀ h ρ l→(∀b∈lb l,∀o,h.get? b=some o→b∉ρ→h'.get? b=some o)→(∀a∈aF,a∈ρ∨h.get? a=none)→dg h₀ h' aF l
 |[],_,_,_=>trivial
 |env::l,r,k,f=>by
  obtain⟨h1,⟨L,o,h2,h3,h6,h4,h5,h7⟩,hr⟩:=r;haveI m:L∈lb (env::l):=by unfold lb;rw[List.filterMap_cons,h2];exact List.mem_cons_self
  refine⟨h1,⟨L,o,h2,fun m=>(f L m).elim h3 (fun q=>by rw[h4] at q;cases q),h6,k L m o h4 h3,h5,h7⟩,dg.Fb hr (fun b mb=>k b ?_) f⟩;unfold lb at mb ⊢;rw[List.filterMap_cons,h2];exact List.mem_cons_of_mem _ mb
theorem vh.bX(S:vh G A env outer ρ s.heap)(X:cR env s ρ s' aF):vh G A env outer aF s'.heap:=
 ⟨S.fr,S.frame,S.out.Fb (fun b m o q n=>X.keep b o q n (S.apart b m)) X.fresh,S.apart⟩
inductive XS(G:Ctx)(nm:List Str)(sc:List (Str×NameKind))(env:Env)(outer:List Env)(ρ N:List Addr)(s:Shared)(aK:Lc)(st':St)(e:Value)(s':Shared):Prop where
 |mk (a:Addr) (aF:List Addr) (aa:Shared) (q:e=.ref a) (X:cR env s ρ aa aF) (B:Bd G nm sc env aF N st' aK aa) (F:z4 (env::outer) (z5 G) .none aa.heap a s'.heap) (o:s'.os=aa.os) (g:s'.gens=aa.gens)
theorem XS.after(A:cR env s ρ aa ρ₁)(h:XS G nm sc env outer ρ₁ N aa aK st' e s'):XS G nm sc env outer ρ N s aK st' e s':=
 h.rec fun a aF ag q X i f o g=>⟨a,aF,ag,q,A.trans X,i,f,o,g⟩
theorem XE.stmt{env:Env}{outer:List Env}{ρ N:List Addr}{s s':Shared}{lc:Lc}{st st':St}{e:Value}(B:Bd G nm sc env ρ N st lc s)(h:XE G ρ N (env::outer) s st' e s'):XS G nm sc env outer ρ N s lc st' e s':=
 h.rec fun a aF aa q X I F o g=>⟨a,aF,aa,q,B.loc X,B.bX X I,F,o,g⟩
def pY(G:Ctx)(rc:RC)(nm:List Str)(sc:List (Str×NameKind))(n:Nat)(p:Stmt)(e:S):Prop:=
 ∀{env:Env}{A:Around}{outer:List Env}{ρ N:List Addr}{s:Shared}{lc aK:Lc}{st st':St}{k:Nat}(Q:Flow→Shared→Prop)(E:Value→Shared→Prop),Bd G nm sc env ρ N st lc s→iZ G n A→vh G A env outer ρ s.heap→eK G.tb rc e lc st=.exc k aK st' →
  (∀v s',XS G nm sc env outer ρ N s aK st' v s'→E v s')→au (model G.prog G.w) A (exec p env) Q E s
def gv(G:Ctx)(rc:RC)(nm:List Str)(sc:List (Str×NameKind))(n:Nat)(p:List Stmt)(e:Ss):Prop:=
 ∀{env:Env}{A:Around}{outer:List Env}{ρ N:List Addr}{s:Shared}{lc aK:Lc}{st st':St}{k:Nat}(Q:Flow→Shared→Prop)(E:Value→Shared→Prop),Bd G nm sc env ρ N st lc s→iZ G n A→vh G A env outer ρ s.heap→aT G.tb rc e lc st=.exc k aK st' →
  (∀v s',XS G nm sc env outer ρ N s aK st' v s'→E v s')→au (model G.prog G.w) A (execs p env) Q E s
theorem pY.never(h:∀{lc aK st k st'},eK G.tb rc e lc st≠.exc k aK st'):pY G rc nm sc n p e:=fun {env A outer ρ N s lc aK st st' k} Q E B hA hF he hE=>absurd he h
theorem gv.never(h:∀{lc aK st k st'},aT G.tb rc e lc st≠.exc k aK st'):gv G rc nm sc n p e:=fun {env A outer ρ N s lc aK st st' k} Q E B hA hF he hE=>absurd he h
theorem gv.nil:gv G rc nm sc n [] .nil:=gv.never fun h=>by cases h
theorem gv.cons(h:SS G rc nm sc n p e)(hx:pY G rc nm sc n p e)(hs:gv G rc nm sc n ps es):gv G rc nm sc n (p::ps) (.cons e es):=fun {env A outer ρ N s lc aK st st' k} Q E B hA hF he hE=>by
 rw[execs_cons];haveI he:(eK G.tb rc e lc st).next (fun lc st=>aT G.tb rc es lc st)=.exc k aK st':=he;cases q:eK G.tb rc e lc st with
 |ok f1 lc1 af=>
  rw[q] at he;cases f1 with
  |next=>
   refine K.bind (K.pO (h E B hA q) fun f aa ρ₁ X bW F=>?_);obtain rfl:f=.next:=F;exact hs Q E bW hA (hF.bX X) he fun v s' h=>hE v s' (h.after X)
  |cont=>cases he
  |ret v=>cases he
 |exc j lc1 af=>
  rw[q] at he;cases he;exact K.bind (hx _ E B hA hF q hE)
 |stuck=>rw[q] at he;cases he
theorem pY.ite(hc:H2 G rc nm sc n p e)(ha:gv G rc nm sc n ps es)(hb:gv G rc nm sc n qs fs):pY G rc nm sc n (.If p ps qs pos) (.ite e es fs):=fun {env A outer ρ N s lc aK st st' k} Q E B hA hF he hE=>by
 refine R.xE (lc:=lc) he Sv.X.b8 fun v af h1 he=>?_
 rw[exec_If];cases q:truthy af v with
 |none=>rw[q] at he;cases he
 |some b=>
  rw[q] at he;refine K.bind (K.standAt (K.bind (K.eF (hc E B.fm B.inv hA h1 q) fun c aa yt ρ₁ X aw=>?_)));subst yt;cases c with
  |true=>exact ha Q E (B.bX X aw) hA (hF.bX (B.loc X)) he fun v s' h=>hE v s' (h.after (B.loc X))
  |false=>exact hb Q E (B.bX X aw) hA (hF.bX (B.loc X)) he fun v s' h=>hE v s' (h.after (B.loc X))
theorem xm{e:Expr}{pos:Pos}{env:Env}{A:Around}{E:Value→Shared→Prop}{s:Shared}{Q:Flow→Shared→Prop}(h:au (model G.prog G.w) A (eval e env) (fun j j=>False) E s)
  (hi:interactive env=false) (hs:swapsWith e Option.none pos.line env=pure false):au (model G.prog G.w) A (exec (.Expr e pos) env) Q E s:=by
 rw[exec_Expr env e pos hi hs];exact K.bind (K.standAt (K.bind (K.mono h (fun v s' h'=>h'.elim) fun j j x=>x)))
theorem pY.fp{p:Expr}{e:Sv.E}{pos:Pos}(h:GB G rc nm sc n p e)(hs:∀env l,swapsWith p Option.none l env=pure false):pY G rc nm sc n (.Expr p pos) (.fp e):=fun {env A outer ρ N s lc aK st st' k} Q E B hA hF he hE=>by
 rcases R.wb (lc:=lc) he with ⟨h1,rfl⟩|⟨x,af,h1,he⟩
 ·exact xm (h _ E B.fm B.inv hA hF.fr (hF.all B) h1 fun v s' q=>hE v s' (q.stmt B)) (eD B.fm.kind) (hs _ _)
 ·cases he
theorem pY.cy{i:Nat}{x:Str}{jM pos:Pos}{p:Expr}{e:Sv.E}(h:GB G rc nm sc n p e)(hs:∀env,swapsWith p (some (.Name x jM)) pos.line env=pure false) :
  pY G rc nm sc n (.Assign [.Name x jM] p pos) (.cy i e):=fun {env A outer ρ N s lc aK st st' k} Q E B hA hF he hE=>by
 rcases R.wb (lc:=lc) he with ⟨h1,rfl⟩|⟨x,af,h1,he⟩
 ·exact ie (hs _) (h _ E B.fm B.inv hA hF.fr (hF.all B) h1 fun v s' q=>hE v s' (q.stmt B))
 ·cases he
theorem pY.raise(hS:cg G)(hX:wB G)(hx:G.exc=Option.none)(hk:sc.lookup (Str.ofString "IsNestedError")=some .globalImplicit) :
 pY G rc nm sc n (.Raise (some (.Call (.Name (Str.ofString "IsNestedError") np) [] [] RE)) Option.none pos) (.raise k):=fun {env A outer ρ N s lc aK st st' k'} Q E B hA hF he hE=>by
 cases he;obtain⟨C,O⟩:=hX.own;haveI hq:env.kindOf (Str.ofString "IsNestedError")=some .globalImplicit:=by
  rcases B.fm.names _ _ hk with q|⟨q,_⟩
  ·exact q
  ·cases q
 haveI hg:s.heap.Ns env.globals G.mg:=by rw[B.fm.glob];exact hS.g.keeps B.inv.base
 obtain⟨tl,N',OS,q,bs,hdct,sn,sub,ab,col,dd,k0,k1,k2,k3,k5,mN,hC,hN,gZ,T⟩:=O.obj;refine K.of (wpAny_Raise_call_subT (C:=C) (nm:=OS) (q:=q) (N:=N') (bs:=bs) (bm:=tl) (hdct:=hdct) (sn:=sn) (sub:=sub) (ab:=ab) (col:=col) (dd:=dd) (k0:=k0) (k1:=k1) (k2:=k2) (k3:=k3) (k5:=k5)
  PySem.F.excBase_RuntimeError (mN:=mN) (T.hasType PySem.F.excBase_RuntimeError.hasBase) (hA.none hx) rfl gZ (Name_function_global B.fm.kind hq (loadGlobal_global hg O.bound ⟨rfl,?_⟩) (by decide)))
 refine evalArgs_empty ⟨rfl,Nat.zero_le _,B.inv.base _ _ hC,hN.keeps B.inv.base,T.keeps B.inv.base,fun h' e hm=>hE _ _ ⟨e,ρ,s,rfl,cR.refl,B,⟨fun b o q j=>hm.keeps b o q,fun b o q=>⟨o.slots,hm.keeps b o q⟩,hm.new,?_⟩,rfl,rfl⟩⟩;obtain⟨t,he,RU,ht⟩:=hm.there;exact⟨_,_,he,by unfold z5;rw[O.bound];rfl,rfl,rfl,.inl rfl⟩
structure u9(ex:List Addr)(s:Shared)(ρ:List Addr)(s':Shared)(aF:List Addr):Prop where
 pre:ρ <+: aF
 fresh:∀a∈aF,a∈ρ∨s.heap.get? a=Option.none
 keep:∀b o,s.heap.get? b=some o→b∉ρ→b∉ex→s'.heap.get? b=some o
 slot:∀b o,s.heap.get? b=some o→b∉ρ→∃sl,s'.heap.get? b=some { o with slots:=sl }
 os:s'.os=s.os
 gens:s'.gens=s.gens
theorem bG.f(X:bG s ρ s' aF):u9 ex s ρ s' aF:=⟨X.pre,X.fresh,fun b o e n j=>X.keep b o e n,fun b o e n=>⟨o.slots,X.keep b o e n⟩,X.os,X.gens⟩
structure eh(env:Env)(outer:List Env)(s:Shared)(ρ:List Addr)(s':Shared)(aF:List Addr):Prop where
 pre:ρ <+: aF
 fresh:∀a∈aF,a∈ρ∨s.heap.get? a=Option.none
 keep:∀b o,s.heap.get? b=some o→b∉ρ→b∉own env→b∉lb outer→s'.heap.get? b=some o
 slot:∀b o,s.heap.get? b=some o→b∉ρ→b∉own env→∃sl,s'.heap.get? b=some { o with slots:=sl }
 live:∀b∈own env,∀o,s.heap.get? b=some o→∃o',s'.heap.get? b=some o'
 os:s'.os=s.os
 gens:s'.gens=s.gens
theorem cR.c(X:cR env s ρ s' aF):eh env outer s ρ s' aF:=⟨X.pre,X.fresh,fun b o e n n2 j=>X.keep b o e n n2,fun b o e n n2=>⟨o.slots,X.keep b o e n n2⟩,X.live,X.os,X.gens⟩
theorem eh.trans{env:Env}{outer:List Env}{s aa ag:Shared}{ρ ρ₁ ρ₂:List Addr}(X:eh env outer s ρ aa ρ₁)(Y:eh env outer aa ρ₁ ag ρ₂):eh env outer s ρ ag ρ₂ where
 pre:=X.pre.trans Y.pre
 live:=fun b m o e=>let ⟨o',e'⟩:=X.live b m o e;Y.live b m o' e'
 fresh:=fun a m=>by
  rcases Y.fresh a m with h|h
  ·exact X.fresh a h
  ·by_cases hm:a∈ρ
   ·exact .inl hm
   ·right
    cases e:s.heap.get? a with
    |none=>rfl
    |some o=>
     by_cases ho:a∈own env
     ·obtain⟨o',e'⟩:=X.live a ho o e
      rw[e'] at h;cases h
     ·obtain⟨sl,q⟩:=X.slot a o e hm ho;rw[q] at h;cases h
 keep:=fun b o e n n2 n3=>Y.keep b o (X.keep b o e n n2 n3) (fun m=>by
  rcases X.fresh b m with h|h
  ·exact n h
  ·rw[e] at h;cases h) n2 n3
 slot:=fun b o e n n2=>by
  obtain⟨sl,q⟩:=X.slot b o e n n2;obtain⟨K8,q'⟩:=Y.slot b _ q (fun m=>by
   rcases X.fresh b m with h|h
   ·exact n h
   ·rw[e] at h;cases h) n2
  exact⟨K8,q'⟩
 os:=Y.os.trans X.os
 gens:=Y.gens.trans X.gens
theorem vh.yo(S:vh G A env outer ρ s.heap)(X:eh env outer s ρ s' aF):vh G A env outer aF s'.heap:=by
 refine⟨S.fr,S.frame,?_,S.apart⟩
 haveI:∀l:List Env,(∀b∈lb l,b∉own env)→dg G.h₀ s.heap ρ l→dg G.h₀ s'.heap aF l:=by
  intro l
  induction l with
  |nil=>intros;trivial
  |cons e l ih=>
   rintro IK ⟨h1,⟨L,o,h2,h3,h6,h4,h5,h7⟩,hr⟩
   haveI m:L∈lb (e::l):=by unfold lb;rw[List.filterMap_cons,h2];exact List.mem_cons_self
   obtain⟨sl,q⟩:=X.slot L o h4 h3 (IK L m);refine⟨h1,⟨L,_,h2,fun m=>(X.fresh L m).elim h3 (fun q=>by rw[h4] at q;cases q),h6,q,fun z=>h5 (i5.mp z),h7⟩,ih (fun b mb=>IK b ?_) hr⟩;unfold lb at mb ⊢;rw[List.filterMap_cons,h2];exact List.mem_cons_of_mem _ mb
 exact this outer S.apart S.out
theorem Inv.slots{ρ N:List Addr}{st:St}{h h':Heap}{ex:List Addr}{x':Option ml}(I:Inv G ρ N st h)(hex:∀b∈ex,b∉ρ∧G.h₀.get? b=Option.none∧∃o,h.get? b=some o∧¬jQ o∧∀vs,o.data≠.fields vs)
  (k1:∀b o,h.get? b=some o→b∉ex→h'.get? b=some o) (k2:∀b o,h.get? b=some o→∃sl,h'.get? b=some { o with slots:=sl }) (hx:∀y,x'=some y→y.a∉ρ∧h'.get? y.a=some y.o):Inv { G with exc:=x' } ρ N st h' where
 base:=fun b o e=>k1 b o (I.base b o e) fun m=>by rw[(hex b m).2.1] at e;cases (e)
 len:=I.len
 nodup:=I.nodup
 new:=I.new
 apart:=I.apart
 lO:=fun b m=>by
  obtain⟨o,e⟩:=I.lO b m;obtain⟨sl,q⟩:=k2 b o e;exact⟨_,q⟩
 exc:=hx
 objs:=fun i b x e1 e2=>by
  obtain⟨o,he,r⟩:=I.objs i b x e1 e2;refine⟨o,k1 b o he fun m=>(hex b m).1 (List.mem_of_getElem? e1),?_⟩
  have:=r.mono (N:=N) (h':=h') ⟨List.prefix_refl _,fun j m=>.inl m,fun c o e j j jN=>k1 c o e fun m=>by
   obtain⟨_,_,o',e',q,_⟩:=hex c m;rw[e] at e';cases (e');exact q jN⟩
  cases x<;>exact this
theorem td{h h':Heap}{a:Addr}{m:Str→Option Value}(x:h.Ns a m)(k:∀o,h.get? a=some o→∃sl,h'.get? a=some { o with slots:=sl }):h'.Ns a m:=by
 obtain⟨o,es,ep,ho,hd,r⟩:=x;obtain⟨sl,q⟩:=k o ho;exact⟨_,es,ep,q,hd,r⟩
theorem gH{h h':Heap}{a:Addr}{v:Option Value}(x:h.IsCell a v)(k:∀o,h.get? a=some o→∃sl,h'.get? a=some { o with slots:=sl }):h'.IsCell a v:=by
 obtain⟨o,ho,hd⟩:=x;obtain⟨sl,q⟩:=k o ho;exact⟨_,q,hd⟩
theorem Bd.slots{env:Env}{ρ N:List Addr}{st:St}{lc:Lc}{s:Shared}{h':Heap}{tk:Nat}{ex:List Addr}{x':Option ml}(B:Bd G nm sc env ρ N st lc s)(hex:∀b∈ex,b∉ρ∧G.h₀.get? b=Option.none∧∃o,s.heap.get? b=some o∧¬jQ o∧∀vs,o.data≠.fields vs)
  (k1:∀b o,s.heap.get? b=some o→b∉ex→h'.get? b=some o) (k2:∀b o,s.heap.get? b=some o→∃sl,h'.get? b=some { o with slots:=sl }) (hx:∀y,x'=some y→y.a∉ρ∧h'.get? y.a=some y.o) {g d os} :
  Bd { G with exc:=x' } nm sc env ρ N st lc ⟨h',g,d,tk,os⟩:=by
 have X:Ext N s.heap ρ h' ρ:=⟨List.prefix_refl _,fun u m=>.inl m,fun c o e u u jN=>k1 c o e fun m=>by
  obtain⟨_,_,o',e',q,_⟩:=hex c m;rw[e] at e';cases (e');exact q jN⟩
 refine⟨⟨B.fm.kind,B.fm.names,B.fm.glob,B.fm.blt,B.fm.has,?_,fun j y z hj hz hy=>?_,⟨B.fm.bC.1,fun y c hc=>⟨(B.fm.bC.2 y c hc).1,?_⟩⟩⟩,⟨B.fr.new,B.fr.bC,fun b mb=>?_,fun y c e=>⟨(B.fr.cell y c e).1,?_⟩,B.fr.apart,B.fr.has⟩,B.inv.slots hex k1 k2 hx⟩
 ·obtain⟨m,hm,hv⟩:=B.fm.loc
  exact⟨m,td hm fun o e=>k2 _ o e,fun i x v h1 h2 h3=>let ⟨w,e1,e2⟩:=hv i x v h1 h2 h3;⟨w,e1,e2.mono X⟩⟩
 ·obtain⟨c,w,e1,e2,e3⟩:=B.fm.B6 j y z hj hz hy
  exact⟨c,w,e1,gH e2 fun o e=>k2 _ o e,e3.mono X⟩
 ·obtain⟨o,e⟩:=(B.fm.bC.2 y c hc).2
  obtain⟨sl,q⟩:=k2 c o e;exact⟨_,q⟩
 ·obtain⟨o,e,r1,r2⟩:=B.fr.kind b mb
  obtain⟨sl,q⟩:=k2 b o e;exact⟨_,q,fun z=>r1 (i5.mp z),r2⟩
 ·obtain⟨v,hc⟩:=(B.fr.cell y c e).2
  exact⟨v,gH hc fun o e=>k2 _ o e⟩
inductive lY(G:Ctx)(nm:List Str)(sc:List (Str×NameKind))(env:Env)(outer:List Env)(ρ N:List Addr)(s:Shared)(fl:Fl)(aK:Lc)(st':St)(f:Flow)(s':Shared):Prop where
 |mk (aF:List Addr) (a:eh env outer s ρ s' aF) (i:Bd G nm sc env aF N st' aK s') (r:jA s'.heap aF N fl f)
theorem K.v8{M:Model}{A:Around}{m:Sem Flow}{E:Value→Shared→Prop}{G:Ctx}{nm:List Str}{sc:List (Str×NameKind)}{env:Env}{outer:List Env}{ρ N:List Addr}{s bD:Shared}{fl:Fl}{aK:Lc}{st':St}{Q:Flow→Shared→Prop}(h:au M A m (lY G nm sc env outer ρ N bD fl aK st') E s)(k:∀f s' aF,eh env outer bD ρ s' aF→Bd G nm sc env aF N st' aK s'→jA s'.heap aF N fl f→Q f s'):au M A m Q E s:=
 K.mono h (fun f s' h=>h.rec (k f s')) fun j j x=>x
def xf(G:Ctx)(rc:RC)(nm:List Str)(sc:List (Str×NameKind))(n:Nat)(p:Stmt)(e:S):Prop:=
 ∀{env:Env}{A:Around}{outer:List Env}{ρ N:List Addr}{s:Shared}{lc aK:Lc}{st st':St}{fl:Fl}(E:Value→Shared→Prop),Bd G nm sc env ρ N st lc s→iZ G n A→vh G A env outer ρ s.heap→eK G.tb rc e lc st=.ok fl aK st' →
  au (model G.prog G.w) A (exec p env) (lY G nm sc env outer ρ N s fl aK st') E s
def gY(G:Ctx)(rc:RC)(nm:List Str)(sc:List (Str×NameKind))(n:Nat)(p:List Stmt)(e:Ss):Prop:=
 ∀{env:Env}{A:Around}{outer:List Env}{ρ N:List Addr}{s:Shared}{lc aK:Lc}{st st':St}{fl:Fl}(E:Value→Shared→Prop),Bd G nm sc env ρ N st lc s→iZ G n A→vh G A env outer ρ s.heap→aT G.tb rc e lc st=.ok fl aK st' →
  au (model G.prog G.w) A (execs p env) (lY G nm sc env outer ρ N s fl aK st') E s
theorem lY.after(A:eh env outer s ρ aa ρ₁)(h:lY G nm sc env outer ρ₁ N aa fl aK st' f s'):lY G nm sc env outer ρ N s fl aK st' f s':=
 h.rec fun aF a b c=>⟨aF,A.trans a,b,c⟩
theorem xf.of(h:SS G rc nm sc n p e):xf G rc nm sc n p e:=fun {env A outer ρ N s lc aK st st' fl} E B hA hF he=>
 K.mono (h E B hA he) (fun _ _ ⟨aF,a,b,c⟩=>⟨aF,a.c,b,c⟩) fun j j x=>x
theorem gY.of(h:mL G rc nm sc n p e):gY G rc nm sc n p e:=fun {env A outer ρ N s lc aK st st' fl} E B hA hF he=>
 K.mono (h E B hA he) (fun _ _ ⟨aF,a,b,c⟩=>⟨aF,a.c,b,c⟩) fun j j x=>x
theorem gY.nil:gY G rc nm sc n [] .nil:=gY.of mL.nil
theorem gY.cons(h:xf G rc nm sc n p e)(hs:gY G rc nm sc n ps es):gY G rc nm sc n (p::ps) (.cons e es):=fun {env A outer ρ N s lc aK st st' fl} E B hA hF he=>by
 rw[execs_cons];haveI he:(eK G.tb rc e lc st).next (fun lc st=>aT G.tb rc es lc st)=.ok fl aK st':=he;cases q:eK G.tb rc e lc st with
 |ok f1 lc1 af=>
  rw[q] at he;refine K.bind (K.v8 (h E B hA hF q) fun f aa ρ₁ X bW F=>?_);cases f1 with
  |next=>
   obtain rfl:f=.next:=F;exact K.mono (hs E bW hA (hF.yo X) he) (fun j j h=>h.after X) fun j j x=>x
  |cont=>
   cases he;obtain rfl:f=.cont:=F;exact K.pure ⟨ρ₁,X,bW,rfl⟩
  |ret v=>
   cases he;obtain⟨y,rfl,hy⟩:=F;exact K.pure ⟨ρ₁,X,bW,y,rfl,hy⟩
 |exc k lc1 af=>rw[q] at he;cases he
 |stuck=>rw[q] at he;cases he
section
section
variable {prog:Program}{w:World}{A:Around}{E:Value→Shared→Prop}{R:Result→Shared→Prop}{s:Shared}{env:Env}
theorem K.wZ(hc:bz M (A.mark (some (.ref e))) c (fun r s'=>match r with|.ok f=>Q f s'|.error e=>False) s):au M A (PySem.runOwn c env (some (.ref e))) Q E s:=by
 unfold PySem.runOwn;refine K.onRaise (fun Γ p kL h1 h2=>?_);rw[Sem.wp_run];refine wpCode_mono (fun r s' h=>?_) (hc _ p rfl (kL.enter c (some (.ref e)) p (by intro x;cases (x))) (gT.cons h1 h2));cases r with
 |ok f=>exact h
 |error e=>exact h.elim
theorem K.sd
(h:au (model prog w) A (eval t env) (fun c aa=>au (model prog w) A (excMatches e c) (fun b ag=>R (.ok (if b then .brk else .next)) ag) (fun j j=>False) aa) (fun j j=>False) s) :
 bz (model prog w) A (.handlers e [.ExceptHandler (some t) Option.none [] pos] env) R s:=by
 refine K.ofTree rfl ?_;show au _ A (do return Fin.done (←(handleWith e env [.ExceptHandler (some t) Option.none [] pos]).onRaise (fun x=>do noteFrame x env;theTreesLotGoes x))) _ _ s;refine K.bind (K.c7 ?_ _);unfold handleWith;exact K.bind (K.standAt (K.bind (K.mono h (fun c aa az=>K.bind (K.standAt (K.bind (K.mono az (fun b ag bw=>K.pure (K.pure bw)) fun j j x=>x)))) fun j j x=>x)))
theorem K.oZ
(h:au (model prog w) A (setFlight e Option.none) (fun j aa=>au (model prog w) A (execs (nY::body) env) (fun f ag=>R (.ok f) ag) (fun j j=>False) aa) (fun j j=>False) s) :
 bz (model prog w) A (.handlers e [.ExceptHandler Option.none Option.none (nY::body) pos] env) R s:=by
 refine K.ofTree rfl ?_;show au _ A (do return Fin.done (←(handleWith e env [.ExceptHandler Option.none Option.none (nY::body) pos]).onRaise (fun x=>do noteFrame x env;theTreesLotGoes x))) _ _ s;refine K.bind (K.c7 ?_ _);unfold handleWith;exact K.bind (K.standAt (K.bind (K.mono h (fun j aa az=>K.mono az (fun f ag bw=>K.pure bw) fun j j x=>x) fun j j x=>x)))
theorem K.handleBy
(h:bz (model prog w) (A.mark (some (.ref e))) (.handlers (.ref e) [.ExceptHandler (some t) Option.none [] pos] env) (fun r aa=>match r with
 |.ok .brk=>bz (model prog w) (A.mark (some (.ref e))) (.handlers (.ref e) [.ExceptHandler Option.none Option.none body pos] env) (fun r ag=>match r with
 |.ok f=>Q f ag
 |.error x=>False) aa
 |_=>False) s) :
 au (model prog w) A (PySem.handleBy (.ref e) env (.ExceptHandler (some t) Option.none body pos::rest)) Q E s:=by
 rw[PySem.handleBy];refine K.bind (K.holding (K.wZ (K.gu h fun r aa az=>?_)));cases r with
 |error x=>exact az
 |ok f=>
  cases f with
  |brk=>
   refine K.bind (K.pure ?_);refine K.sq rfl ?_;refine K.bind (K.holding (K.wZ (K.gu az fun r ag bw=>?_)));cases r with
   |error x=>exact bw
   |ok f=>exact K.pure bw
  |_=>exact az.elim
theorem K.yA
(h:au (model prog w) A (execs body env) Q (fun e aa=>au (model prog w) A (noteFrame e env) (fun j ag=>au (model prog w) A (setFlight e Option.none) (fun j bh=>au (model prog w) A (PySem.handleBy e env (h₀::hs)) Q E bh) E ag) E aa) s) :
 au (model prog w) A (exec (.Try body (h₀::hs) [] [] pos) env) Q E s:=by
 rw[arm_exec_Try];refine K.bind (K.standAt ?_);unfold tryStmt
 repeat (first|refine K.LJ rfl ?_|refine K.sq rfl ?_)
 refine K.bind (K.attempt (K.mono h (fun f aa az=>?_) fun e aa az=>?_))
 ·cases f<;>exact K.pure az
 ·exact K.bind (K.mono az (fun j j bw=>K.bind bw) fun j j x=>x)
end
theorem mY(h:env.frame=some L)(outer:List Env):lb (env::outer)=L::lb outer:=by unfold lb;rw[List.filterMap_cons,h]
theorem tX(hx:G.exc=Option.none):({ G with exc:=Option.none }:Ctx)=G:=by
 obtain⟨a1,a2,a3,a4,a5,a6,a7,a8,a9,Rd,RS⟩:=G;simp only at hx;subst hx;rfl
theorem Bd.Ky{y:Option ml}{env:Env}{ρ N:List Addr}{st:St}{lc:Lc}{s:Shared}(hx:G.exc=Option.none)(B:Bd { G with exc:=y } nm sc env ρ N st lc s):Bd G nm sc env ρ N st lc s:=by
 haveI:=B.slots (ex:=[]) (x':=Option.none) (h':=s.heap) (tk:=s.toks) (g:=s.gens) (d:=s.drawn) (os:=s.os) (fun j m=>by cases m) (fun j j e j=>e) (fun j o e=>⟨o.slots,e⟩) (fun j e=>by cases e)
 rw[tX (G:=G) hx] at this;exact this
theorem xf.n8(hS:cg G)(hX:wB G)(hx:G.exc=Option.none)(hk:sc.lookup (Str.ofString "IsNestedError")=some .globalImplicit)
(hb:mL G rc nm sc n ps es)(PZ:gv G rc nm sc n ps es)(hh:∀y,mL { G with exc:=some y } (jc G.tb rc) nm sc n (nY::K3) hs) :
 xf G rc nm sc n (.Try ps [.ExceptHandler (some (.Name (Str.ofString "IsNestedError") np)) Option.none (nY::K3) P8] [] [] pos) (.n8 es k hs):=fun {env A outer ρ N s lc aK st st' fl} E B hA hF he=>by
 haveI he:(match aT G.tb rc es lc st with
  |.exc j lc st=>if j=k then aT G.tb (jc G.tb rc) hs lc st else .stuck
  |x=>x)=X.ok fl aK st':=he
 refine K.yA ?_;cases q:aT G.tb rc es lc st with
 |ok f1 lc1 af=>
  rw[q] at he;cases he;exact K.mono (hb _ B hA q) (fun _ _ ⟨aF,a,b,c⟩=>⟨aF,a.c,b,c⟩) fun z z x=>x
 |stuck=>rw[q] at he;cases he
 |exc j lc1 af=>
  rw[q] at he;dsimp only at he;split at he
  ·refine PZ _ _ B hA hF q fun v s' h=>?_
   obtain⟨a,ρ₁,aa,rfl,bS,bW,M3,ho,hg⟩:=h;haveI Jk:=hF.bX bS;have zK:=Jk.all bW;refine K.of (ti hF.fr hF.frame zK M3 fun bw rQ=>K.of (nf (s:={ s' with heap:=bw }) rQ fun c9 uE=>?_));haveI hq:env.kindOf (Str.ofString "IsNestedError")=some .globalImplicit:=by
    rcases B.fm.names _ _ hk with q|⟨q,_⟩
    ·exact q
    ·cases q
   obtain⟨C,O⟩:=hX.own;obtain⟨tl,N',OS,qn,bs,hdct,sn,sub,ab,col,dd,k0,k1,k2,k3,k5,mN,hC,hN,gZ,T⟩:=O.obj;haveI Qf:z5 G=.ref C:=by unfold z5;rw[O.bound];rfl
   have up:∀{b o},G.h₀.get? b=some o→c9.get? b=some o:=fun {b o} e=>uE.keep b o (bW.inv.base b o e) fun m=>by
    rw[(zK.mem b m).2.1] at e;cases e
   haveI Q0:c9.Ns env.globals G.mg:=by rw[B.fm.glob];exact hS.g.keeps fun b o e=>up e
   obtain⟨oe,vs,AP,Hp,_⟩:=uE.exc;rw[Qf] at Hp;refine K.handleBy (K.sd (K.of (Name_function_global B.fm.kind hq (loadGlobal_global (s:={ s' with heap:=c9 }) Q0 O.bound ?_) (by decide))));refine K.of (wpAny_excMatches_sub_self (up hC) AP Hp (T.hasType PySem.F.excBase_RuntimeError.hasBase) (K.oZ ?_));refine K.of (nf (s:={ s' with heap:=c9 }) uE fun yi uY=>?_);obtain⟨oe,vs,AP,Hp,hd,IJ,_⟩:=uY.exc;haveI cS:a∉ρ₁:=fun m=>by
    obtain⟨o,e⟩:=bW.inv.there a m;rw[uY.new] at e;cases e
   haveI xO:Bd { G with exc:=some ⟨a,oe,vs,hd,IJ⟩ } nm sc env ρ₁ N af lc1 { s' with heap:=yi }:=bW.slots (x':=some ⟨a,oe,vs,hd,IJ⟩) (fun b m=>zK.mem b m) (fun b o e n=>uY.keep b o e n) (fun b o e=>uY.slot b o e) fun y e=>by cases e;exact⟨cS,AP⟩
   haveI qX:eh env outer aa ρ₁ { s' with heap:=yi } ρ₁:=⟨List.prefix_refl _,fun z m=>.inl m,fun b o e n1 n2 n3=>uY.keep b o e fun m=>by
     rw[mY hF.frame] at m;exact(List.mem_cons.mp m).elim (fun q=>n2 (q▸aI)) n3,fun b o e z z=>uY.slot b o e,fun b z o e=>let ⟨sl,q⟩:=uY.slot b o e;⟨_,q⟩,ho,hg⟩
   refine K.pO (hh ⟨a,oe,vs,hd,IJ⟩ _ xO ⟨hA.depth,hA.units,hA.guards,rfl⟩ he) fun f Nv Kd Dq AS Av=>?_
   exact⟨Kd,(bS.c.trans qX).trans Dq.c,AS.Ky hx,Av⟩
  ·cases he
end
section
theorem eh.cL(X:eh env outer s ρ aa ρ₁)(hf:s.heap.get? a=Option.none)(k:∀b o,b≠a→aa.heap.get? b=some o→h'.get? b=some o):eh env outer s ρ { aa with heap:=h',toks:=tk } ρ₁:=by
 have ne:∀b o,s.heap.get? b=some o→b≠a:=fun b o e q=>by rw[q,hf] at e;cases e
 exact⟨X.pre,X.fresh,fun b o e n1 n2 n3=>k b o (ne b o e) (X.keep b o e n1 n2 n3),fun b o e n1 n2=>let ⟨sl,q⟩:=X.slot b o e n1 n2;⟨sl,k b _ (ne b o e) q⟩,fun b m o e=>let ⟨o',e'⟩:=X.live b m o e;⟨o',k b o' (ne b o e) e'⟩,X.os,X.gens⟩
theorem jf.yo{A:Around}{N:List Addr}{o:Option Nat}{I:Addr}{l:List AV}{T:List Addr→Nat→List Addr→St→Heap→Prop}(IT:jf G A o I l T){env:Env}{outer:List Env}{k:Nat}{ρ aF:List Addr}{st st':St}{s s':Shared}(hT:T N k ρ st s.heap)(Bx:I∉N)(X:eh env outer s ρ s' aF)(F:uU G sc env ρ s.heap)
  (NI:dg G.h₀ s.heap ρ outer) (lu:I∉own env) (NY:I∉lb outer) (hs:same o st st'):T N k aF st' s'.heap:=
 IT.frame hT X.pre X.fresh hs (fun b o e n j q=>X.keep b o e n (fun m=>by
  rcases q with rfl|q
  ·exact lu m
  ·obtain⟨o',e',r,_⟩:=F.kind b m
   rw[e] at e';cases (e');exact r q) fun m=>by
  rcases q with rfl|q
  ·exact NY m
  ·obtain⟨_,_,o',e',r,_⟩:=NI.mem b m
   rw[e] at e';cases (e');exact r q) Bx
theorem eh.ku(X:eh env outer s ρ s' aF)(ha:a∉ρ)(he:s.heap.get? a=some o):a∉aF:=fun m=>by
 rcases X.fresh a m with q|q
 ·exact ha q
 ·rw[he] at q;cases q
theorem K.conv{M:Model}{A:Around}{α:Type}{t t1:Sem α}{Q:α→Shared→Prop}{E:Value→Shared→Prop}{s:Shared}(h:t=t1)(k:au M A t1 Q E s):au M A t Q E s:=h▸k
open Classical in
set_option tactic.hygienic true in
theorem Aa{o:Option Nat}{i:Nat}{b:Lc→St→X}{x:AV}{r:List AV}{lc aK:Lc}{st st':St}{fl:Fl}{P:Prop}(h:loopF o (.name i) b (x::r) lc st=.ok fl aK st')
  (k1:∀f lc1 af,b (lc.set i (some x)) st=.ok f lc1 af→f=.next∨f=.cont→same o st af→loopF o (.name i) b r lc1 af=.ok fl aK st'→P) (k2:∀v,b (lc.set i (some x)) st=.ok (.ret v) aK st'→fl=.ret v→P):P:=by
 haveI h:(match b (lc.set i (some x)) st with
   |.ok .next aK st'=>if same o st st' then loopF o (.name i) b r aK st' else .stuck
   |.ok .cont aK st'=>if same o st st' then loopF o (.name i) b r aK st' else .stuck
   |x=>x)=X.ok fl aK st':=h
 cases q:b (lc.set i (some x)) st with
 |ok f lc1 af=>
  rw[q] at h k2;cases f with
  |next=>
   by_cases hs:same o st af
   ·exact k1 _ _ _ q (.inl rfl) hs ((if_pos hs).symm.trans h)
   ·cases (if_neg hs).symm.trans h
  |cont=>
   by_cases hs:same o st af
   ·exact k1 _ _ _ q (.inr rfl) hs ((if_pos hs).symm.trans h)
   ·cases (if_neg hs).symm.trans h
  |ret v=>cases (h);exact k2 v rfl rfl
 |exc k LP bf=>rw[q] at h;cases (h)
 |stuck=>rw[q] at h;cases (h)
inductive KN(G:Ctx)(nm:List Str)(sc:List (Str×NameKind))(env:Env)(outer:List Env)(N ρ:List Addr)(s:Shared)(I:Addr)(T:List Addr→Nat→List Addr→St→Heap→Prop)(l:List AV)(F:List AV→Lc→St→Prop)(m:Nat)(s':Shared):Prop where
 |mk (k:Nat) (ρ₁:List Addr) (pX:Lc) (cb:St) (hm:m=l.length-k) (hk:k≤l.length) (X:eh env outer s ρ s' ρ₁) (hI:I∉ρ₁) (B:Bd G nm sc env ρ₁ N cb pX s') (T:T N k ρ₁ cb s'.heap) (h:F (l.drop k) pX cb)
theorem w6{x:Str}{i:Nat}{px:Pos}{p:Expr}{e:Src}{ps:List Stmt}{es:Ss}{pos:Pos}(hx:cJ nm sc i x)(hs:fL G rc nm sc n p e)(jl:∀env v,foldedSetIterable p env v=Pure.pure v)
  {env:Env} {A:Around} {outer:List Env} {ρ N:List Addr} {s:Shared} {lc aK:Lc} {st st':St} {fl:Fl} (E:Value→Shared→Prop) (FX:List Addr→Heap→Prop) (Qk:∀{aF s'},eh env outer s ρ s' aF→FX aF s'.heap) (O7:∀{ρ h},FX ρ h→dg G.h₀ h ρ outer) (hF:FX ρ s.heap)
  (hb:∀{ρ s lc aK st st' fl},Bd G nm sc env ρ N st lc s→FX ρ s.heap→aT G.tb rc es lc st=.ok fl aK st'→au (model G.prog G.w) A (execs ps env) (lY G nm sc env outer ρ N s fl aK st') (fun j j=>False) s)
  (B:Bd G nm sc env ρ N st lc s) (hA:iZ G n A) (he:eK G.tb rc (.mi (.name i) e es) lc st=.ok fl aK st'):au (model G.prog G.w) A (exec (.For (.Name x px) p ps [] pos) env) (lY G nm sc env outer ρ N s fl aK st') E s:=by
 obtain⟨⟨o,l⟩,af,h1,he⟩:=R.Gj (lc:=lc) he;refine K.conv (exec_For ..) ?_;refine K.bind (K.standAt (K.bind (K.mono (hs E B.fm B.inv hA h1) (fun xv aa az=>?_) fun j j x=>x)));refine K.bind (K.of (wpAny_of_eq (jl env xv) (K.bind (K.standAt (K.bind (K.holding (K.of (wpAny_mono az (fun it ag bw=>?_) fun j j x=>x))))))));obtain⟨ρ₂,I,T,rfl,hf,hI,bT,aM,IT,T0⟩:=bw;have cS:∀{b o},s.heap.get? b=some o→b≠I:=fun e q=>by rw[q,hf] at e;cases e
 have JH:G.h₀.get? I=Option.none:=Option.eq_none_iff_forall_ne_some.mpr fun o q=>cS (B.inv.base _ _ q) rfl
 have hN:I∉N:=fun m=>(B.inv.lO _ m).elim fun o q=>cS q rfl
 have lu:I∉own env:=fun m=>(B.fr.kind _ m).elim fun o q=>cS q.1 rfl
 haveI NY:I∉lb outer:=fun m=>((O7 hF).mem _ m).2.2.elim fun o q=>cS q.1 rfl
 have Gn:∀y,G.exc=some y→y.a≠I:=fun y q=>cS (B.inv.exc y q).2
 refine K.runOwn (K.forLoop (KN G nm sc env outer N ρ s I T l fun r lc st=>loopF o (.name i) (fun lc st=>aT G.tb rc es lc st) r lc st=.ok fl aK st') (fun m bh hm=>?_) _ ⟨0,ρ₂,lc,af,rfl,Nat.zero_le _,(B.loc bT).c,hI,B.bX bT aM,T0,he⟩);obtain⟨k,b4,Ob,ua,rfl,hk,d8,sW,lC,yB,c9⟩:=hm;have gZ:∀o,bh.heap.get? I=some o→¬jQ o:=(IT.ex yB).elim fun o1 h o q=>cQ (h.1.symm.trans q)▸h.2
 by_cases dh:k<l.length
 ·rw[List.drop_eq_getElem_cons dh] at c9
  refine K.of (IT.item (x:=l[k]) (List.getElem?_eq_getElem dh) lC.inv sW yB fun v h' tk V T4 kp=>?_);have xO:=lC.cL (tk:=tk) JH sW hN lu Gn gZ kp;refine K.of (wpAny_assign_Name (hx.store xO V fun Nv Dq AS=>?_));have T5:=IT.bX T4 hN Dq xO.fr lu (by unfold same;split<;>trivial);have Nd:=(d8.cL (tk:=tk) hf kp).trans Dq.c;haveI Av:=Qk Nd;exact Aa c9 (fun f PX et q2 hg CP h=>K.v8 (hb AS Av q2) fun f' Ji BP Bm Hw FI=>by
    have z:∃m,m<l.length-k∧KN G nm sc env outer N ρ s I T l (fun r lc st=>loopF o (.name i) (fun lc st=>aT G.tb rc es lc st) r lc st=.ok fl aK st') m Ji:=
     ⟨_,Nat.sub_succ_lt_self _ _ dh,k+1,BP,PX,et,rfl,dh,Nd.trans Bm,(IT.ex T5).elim fun o5 h5=>Bm.ku sW h5.1,Hw,IT.yo T5 hN Bm AS.fr (O7 Av) lu NY CP,h⟩
    exact FI.JY hg z z)
   fun v q2 hv=>K.v8 (hb AS Av q2) fun f' Ji BP Bm Hw FI=>by
    obtain⟨x,rfl,hx⟩:=FI;exact⟨BP,Nd.trans Bm,Hw,hv▸⟨x,rfl,hx⟩⟩
 ·have tT:=Nat.le_antisymm hk (Nat.not_lt.mp dh)
  rw[tT,List.drop_length] at c9;refine X.Rg c9 ?_;exact K.of (IT.done lC.inv sW (lC.inv.Ca hA) Gn (tT▸yB) fun h' kp=>⟨b4,d8.cL (tk:=bh.toks) hf kp,lC.cL (tk:=bh.toks) JH sW hN lu Gn gZ kp,rfl⟩)
theorem xf.mi(hx:cJ nm sc i x)(hs:fL G rc nm sc n p e)(hb:gY G rc nm sc n ps es)(jl:∀env v,foldedSetIterable p env v=Pure.pure v) :
 xf G rc nm sc n (.For (.Name x px) p ps [] pos) (.mi (.name i) e es):=fun E B hA hF he=>
 w6 hx hs jl E _ (fun X=>hF.yo X) (fun F=>F.out) hF (fun B F h=>hb _ B hA F h) B hA he
theorem eh.l(X:eh env [] s ρ s' aF):cR env s ρ s' aF:=⟨X.pre,X.fresh,fun b o e n n2=>X.keep b o e n n2 (fun h=>nomatch h),X.live,X.os,X.gens⟩
theorem SS.mi(hx:cJ nm sc i x)(hs:fL G rc nm sc n p e)(hb:mL G rc nm sc n ps es)(jl:∀env v,foldedSetIterable p env v=Pure.pure v) :
 SS G rc nm sc n (.For (.Name x px) p ps [] pos) (.mi (.name i) e es):=fun E B hA he=>
 K.mono (w6 (outer:=[]) hx hs jl E (fun j j=>True) (fun j=>trivial) (fun j=>trivial) trivial (fun B j h=>K.mono (hb _ B hA h) (fun _ _ ⟨aF,a,b,c⟩=>⟨aF,a.c,b,c⟩) fun j j x=>x) B hA he) (fun _ _ ⟨aF,a,b,c⟩=>⟨aF,a.l,b,c⟩) fun j j x=>x
end
section
theorem kj{α β:Type}{f:α→β→Sem (ForInStep β)}{g:β→α→β}(hf:∀x b,f x b=pure (.yield (g b x))):∀(l:List α)(b:β),(forIn l b f:Sem β)=pure (l.foldl g b)
 |[],b=>by rw[List.forIn_nil];rfl
 |x::l,b=>by
  rw[List.forIn_cons,hf];exact kj hf l (g b x)
noncomputable def fM(sl:List (Str×Value))(p:Str×Value):List (Str×Value):=if (sl.lookup p.1).isNone then sl++[p] else sl
noncomputable def iR(pn:List Str)(vals:List Value)(kws:List (Str×Value))(dv:List Value):List (Str×Value):=
 pn.filterMap fun n=>((((pn.drop (pn.length-dv.length)).zip dv).foldl fM (pn.zip vals++kws)).lookup n).map (n,·)
theorem DM{M:Model}{A:Around}{E:Value→Shared→Prop}{s:Shared}{kws sl:List (Str×Value)}(LF:kws=[]∨∃x,kws=[x]){β:Type}{f:Str×Value→List (Str×Value)×List (Str×Value)→Sem (ForInStep (List (Str×Value)×List (Str×Value)))}{k:List (Str×Value)×List (Str×Value)→Sem β}{Q:β→Shared→Prop}(hf:∀x,kws=[x]→f x (sl,[])=pure (.yield (sl++[x],[])))
  (hk:wpAny M A (k (sl++kws,[])) Q E s):wpAny M A (forIn kws (sl,[]) f>>=k) Q E s:=by
 rcases LF with rfl|⟨x,rfl⟩
 ·rw[List.append_nil] at hk
  exact hk
 ·rw[List.forIn_cons,hf _ rfl]
  exact hk
theorem yC{M:Model}{A:Around}{E:Value→Shared→Prop}{s:Shared}{fd:FuncData}{as:List Arg}{va:Option Arg}{kd:List (Option Expr)}{ds:List Expr}{vals:List Value}{kws:List (Str×Value)}{pn:List Str}{r:Option (Array Value)}{dv:List Value}{Q:List (Str×Value)→Shared→Prop}
  (hp:fd.params={ posonlyargs:=[],args:=as,vararg:=va,kwonlyargs:=[],kw_defaults:=kd,kwarg:=none,defaults:=ds }) (ur:as.map (·.arg)=pn) (hr:Looks M s.heap (seqItems? fd.defaults) r) (M7:(r.getD #[]).toList=dv) (uN:dv.length≤pn.length)
  (LF:kws=[]∨∃k v,kws=[(k,v)]∧k∈pn∧(pn.zip vals).lookup k=none) (hle:vals.length≤pn.length∨va.isSome=true) (JO:∀x∈pn.take (pn.length-dv.length),((pn.zip vals++kws).lookup x).isSome=true) (js:vals.length≤16000000)
  (hn:va=none→Q (iR pn vals kws dv) s)
  (hs:∀a,va=some a→Q (iR pn vals kws dv++[(a.arg,.ref s.heap.objs.size)]) { s with heap:=s.heap.push { cls:=.type "tuple",data:=.seq (vals.drop pn.length).toArray } }):wpAny M A (bindArgs fd ⟨vals,kws⟩) Q E s:=by
 have LZ:∀x,kws=[x]→x.1∈pn∧(pn.zip vals).lookup x.1=none:=fun x e=>LF.elim (fun q=>by rw[q] at e;cases e) fun⟨k,v,q,h⟩=>by rw[q] at e;cases e;exact h
 have h1:(decide (vals.length>pn.length)&&va.isNone)=false:=hle.elim (fun h=>by rw[decide_eq_false (Nat.not_lt.mpr h)];rfl) fun h=>by rw[Option.isNone_eq_false_iff.mpr h,Bool.and_false]
 have h0:dv.drop (dv.length-pn.length)=dv:=by rw[Nat.sub_eq_zero_of_le uN];rfl
 unfold bindArgs;generalize fd.params=p at hp ⊢;subst hp;dsimp only[List.map,List.nil_append];generalize List.map (fun x:Arg=>x.arg) as=q at ur ⊢;replace ur:=ur.symm;subst ur;refine DM (LF.imp id fun⟨k,v,e,_⟩=>⟨_,e⟩) (fun x hx=>(if_pos (by rw[List.contains_iff_mem.mpr (LZ x hx).1];rfl)).trans (if_neg (by show ¬(List.lookup x.1 (pn.zip vals)).isSome=true;rw[(LZ x hx).2];exact Bool.false_ne_true))) ?_;refine wpAny_bind (hr.here ?_);dsimp only;rw[M7];refine PySem.bm_if_false h1 ?_;refine PySem.bm_if_false (by
  rw[h0,List.isEmpty_iff.mpr (List.filter_eq_nil_iff.mpr fun x hx=>?_)]
  ·rfl
  ·rw[Option.isNone_iff_eq_none];exact Option.isSome_iff_ne_none.mp (JO x hx)) ?_
 refine wpAny_bind (wpAny_of_eq (kj (g:=fM) (fun x b=>by unfold fM;split<;>rfl) _ _) (wpAny_bind (wpAny_pure (PySem.bm_if_false rfl ?_))));rw[h0];cases va with
 |none=>exact wpAny_pure (by rw[List.append_nil];exact hn rfl)
 |some a=>
  exact wpAny_bind (wpAny_newObj_type (wpAny_pure (by rw[List.append_nil];exact hs a rfl)) (by show((vals.drop pn.length).toArray).size≤sizeLine;rw[List.size_toArray,List.length_drop,sizeLine_eq];exact Nat.le_trans (Nat.sub_le ..) (Nat.le_trans js (by decide))))
theorem eQ(l1 l2:List (Str×Value))(x:Str):(l1++l2).lookup x=(l1.lookup x).or (l2.lookup x):=by
 induction l1 with
 |nil=>simp
 |cons p l ih=>
  obtain⟨k,v⟩:=p;rw[List.cons_append,List.lookup_cons,List.lookup_cons];cases x==k<;>simp[ih]
set_option tactic.hygienic true in
theorem nZ(sl:List (Str×Value))(p:Str×Value)(x:Str):(fM sl p).lookup x=(sl.lookup x).or ([p].lookup x):=by
 unfold fM;split
 ·rw[eQ]
 ·rename_i h
  obtain⟨k,v⟩:=p
  by_cases q:x=k
  ·subst q
   cases r:sl.lookup x with
   |none=>rw[r] at h;exact absurd rfl h
   |some y=>rfl
  ·haveI:(x==k)=false:=by simpa using q
   simp[List.lookup_cons,this]
theorem kD:∀(ps sl:List (Str×Value)) (x:Str),(ps.foldl fM sl).lookup x=(sl.lookup x).or (ps.lookup x)
 |[],sl,x=>by simp
 |p::ps,sl,x=>by
  rw[List.foldl_cons,kD ps,nZ,Option.or_assoc]
  congr 1
  obtain⟨k,v⟩:=p;rw[List.lookup_cons,List.lookup_cons];cases x==k<;>simp
theorem fe:∀{pn:List Str}{vals:List Value},pn.Nodup→∀{i:Nat}{x:Str},pn[i]?=some x→(pn.zip vals).lookup x=vals[i]?
 |[],_,_,i,x,h=>by simp at h
 |y::pn,[],_,i,x,h=>by simp
 |y::pn,v::vals,hn,i,x,h=>by
  rw[List.zip_cons_cons,List.lookup_cons];obtain⟨h1,h2⟩:=List.nodup_cons.mp hn;cases i with
  |zero=>simp at h;subst h;simp
  |succ i=>
   simp only[List.getElem?_cons_succ] at h ⊢
   haveI:(x==y)=false:=by
    haveI:=List.mem_of_getElem? h
    simpa using fun q:x=y=>h1 (q▸this)
   rw[this];exact fe h2 h
structure CJ(h:Heap)(ρ N:List Addr)(fn:Fn)(args:List AV)(pn:List Str)(vals:List Value)(kws:List (Str×Value))(dv:List Value)(lc:Lc):Prop where
 kw:kws=[]∨∃k v,kws=[(k,v)]∧k∈pn∧(pn.zip vals).lookup k=none
 le:vals.length≤pn.length∨fn.vararg=true
 miss:∀x∈pn.take (pn.length-dv.length),((pn.zip vals++kws).lookup x).isSome=true
 val:∀(i:Nat)(x:Str)(v:AV),pn[i]?=some x→lc[i]?=some (some v)→∃val,(x,val)∈iR pn vals kws dv∧av h ρ N v val
 va:fn.vararg=true→lc[fn.np]?=some (some (.tup (args.drop fn.np)))
 rest:∀(i:Nat)(v:AV),lc[i]?=some (some v)→i<fn.np∨(fn.vararg=true∧i=fn.np)
section
variable {h:Heap}{ρ N:List Addr}{fn:Fn}{args:List AV}{kw:Option (Nat×AV)}{lc:Lc}{pn:List Str}{vals dv:List Value}{kws:List (Str×Value)}
noncomputable def KwIn(h:Heap)(ρ N:List Addr)(pn:List Str):Option (Nat×AV)→List (Str×Value)→Prop
 |none,kws=>kws=[]
 |some p,kws=>∃x val,kws=[(x,val)]∧pn[p.1]?=some x∧av h ρ N p.2 val
theorem KwIn.at(jO:pn.Nodup)(hk:KwIn h ρ N pn kw kws)(hx:pn[i]?=some x):match kw.bind fun p=>gd (p.1==i) (some p.2) with
 |some v=>∃val,kws.lookup x=some val∧av h ρ N v val
 |none=>kws.lookup x=none:=by
 cases kw with
 |none=>rw[show kws=[] from hk];rfl
 |some p=>
  obtain⟨y,val,rfl,h2,h3⟩:=hk;show match gd (p.1==i) (some p.2) with|some v=>_|none=>_
  rw[List.lookup_cons];cases q:p.1==i with
  |true=>
   rw[cj q,hx] at h2;cases h2;rw[beq_self_eq_true];exact⟨val,rfl,h3⟩
  |false=>
   haveI:(x==y)=false:=beq_eq_false_iff_ne.mpr fun z=>beq_eq_false_iff_ne.mp q ((List.getElem?_inj (List.getElem?_eq_some_iff.mp h2).1 jO).mp (by rw[h2,hx,z]))
   rw[this];rfl
theorem Ef(jO:pn.Nodup)(vS:pn.length=fn.np)(hv:ae h ρ N args vals)(hd:ae h ρ N fn.dflt dv)(hk:KwIn h ρ N pn kw kws)(hx:pn[i]?=some x):match nz fn args kw i with
 |some v=>∃val,((vals[i]?).or (kws.lookup x)).or (((pn.drop (pn.length-dv.length)).zip dv).lookup x)=some val∧av h ρ N v val
 |none=>True:=by
 unfold nz;cases q:args[i]? with
 |some v=>obtain⟨val,e1,e2⟩:=hv.get i v q;rw[e1];exact⟨val,rfl,e2⟩
 |none=>
  haveI hl:=hv.length;haveI hn:vals[i]?=none:=List.getElem?_eq_none (by rw[hl];exact List.getElem?_eq_none_iff.mp q);rw[hn];have hk:=hk.at jO hx;cases q2:kw.bind fun p=>gd (p.1==i) (some p.2) with
  |some v=>rw[q2] at hk;obtain⟨val,e1,e2⟩:=hk;rw[e1];exact⟨val,rfl,e2⟩
  |none=>
   rw[q2] at hk;rw[hk];cases q3:decide (fn.np-fn.dflt.length≤i) with
   |false=>exact trivial
   |true=>
    cases q4:fn.dflt[i-(fn.np-fn.dflt.length)]? with
    |none=>exact trivial
    |some v=>
     obtain⟨val,e1,e2⟩:=hd.get _ v q4;refine⟨val,?_,e2⟩;haveI hle:=d6 q3;rw[hd.length,vS];refine Eq.trans (fe (jO.sublist (List.drop_sublist _ _)) (i:=i-(fn.np-fn.dflt.length)) ?_) e1;rw[List.getElem?_drop,Nat.add_sub_cancel' hle];exact hx
theorem tail_at(h:(uh fn args)[i]?=some (some v)):fn.vararg=true∧i=0:=by
 unfold uh at h;have hz:∀j:Nat,(List.replicate fn.nv (Option.none:Option AV))[j]?≠some (some v):=fun j h=>by
  have:=List.mem_of_getElem? h
  rw[List.mem_replicate] at this;cases this.2
 cases q:fn.vararg with
 |false=>rw[q] at h;exact absurd h (hz i)
 |true=>
  rw[q] at h;cases i with
  |zero=>exact⟨rfl,rfl⟩
  |succ i=>exact absurd h (hz i)
theorem mH(e:fS fn args kw=some lc)(jO:pn.Nodup)(vS:pn.length=fn.np)(uN:fn.dflt.length≤fn.np)
(hv:ae h ρ N args vals)(hd:ae h ρ N fn.dflt dv)(hk:KwIn h ρ N pn kw kws):CJ h ρ N fn args pn vals kws dv lc:=by
 refine gO e fun h1 e=>?_
 have Hc:=List.all_eq_true.mp (aR h1);have h2:=aL h1;clear h1;haveI look:∀{i x},pn[i]?=some x→(((pn.drop (pn.length-dv.length)).zip dv).foldl fM (pn.zip vals++kws)).lookup x=((vals[i]?).or (kws.lookup x)).or (((pn.drop (pn.length-dv.length)).zip dv).lookup x):=fun {i x} hi=>by
  rw[kD,eQ,fe jO hi]
 have dh:∀{i x},pn[i]?=some x→i<fn.np:=fun {i x} hi=>vS▸(List.getElem?_eq_some_iff.mp hi).1
 have hlen:((List.range fn.np).map (nz fn args kw)).length=fn.np:=by rw[List.length_map,List.length_range]
 have hb:∀{i},i<fn.np→lc[i]?=some (nz fn args kw i):=fun {i} hi=>by
  rw[←cQ e,List.getElem?_append_left (by rw[hlen];exact hi),List.getElem?_map,List.getElem?_range hi];rfl
 have hr:∀{i},fn.np≤i→lc[i]?=(uh fn args)[i-fn.np]?:=fun {i} hi=>by
  rw[←cQ e,List.getElem?_append_right (by rw[hlen];exact hi),hlen]
 clear e;refine⟨?_,?_,fun x hx=>?_,fun i x v hx hl=>?_,fun IL=>?_,fun i v hl=>?_⟩
 ·cases kw with
  |none=>exact .inl hk
  |some p=>
   obtain⟨x,val,q1,q2,q3⟩:=hk;exact .inr ⟨x,val,q1,List.mem_of_getElem? q2,(fe jO q2).trans (List.getElem?_eq_none (by rw[hv.length];exact d6 (aL (aL h2))))⟩
 ·exact(Bool.or_eq_true_iff.mp (aR h2)).elim (fun q=>.inl (by rw[hv.length,vS];exact d6 q)) fun q=>.inr (aL (aL q))
 ·obtain⟨i,hi⟩:=List.getElem?_of_mem hx
  have Ff:i<pn.length-dv.length:=by
   have:=(List.getElem?_eq_some_iff.mp hi).1
   rw[List.length_take] at this;exact Nat.lt_of_lt_of_le this (Nat.min_le_left _ _)
  rw[List.getElem?_take_of_lt Ff] at hi;have hs:=Hc _ (List.mem_map_of_mem (List.mem_range.mpr (dh hi)));rw[eQ,fe jO hi];unfold nz at hs;rw[hd.length,vS] at Ff;cases q:args[i]? with
  |some v=>obtain⟨val,e1,_⟩:=hv.get i v q;rw[e1];rfl
  |none=>
   rw[q] at hs;haveI hk:=hk.at jO hi;cases q2:kw.bind fun p=>gd (p.1==i) (some p.2) with
   |some v=>rw[q2] at hk;obtain⟨val,e1,_⟩:=hk;rw[e1];cases vals[i]?<;>rfl
   |none=>rw[q2,decide_eq_false (Nat.not_le.mpr Ff)] at hs;cases hs
 ·have:=Ef jO vS hv hd hk hx
  rw[hb (dh hx)] at hl;rw[cQ hl] at this;obtain⟨val,e1,e2⟩:=this;exact⟨val,List.mem_filterMap.mpr ⟨x,List.mem_of_getElem? hx,by rw[look hx,e1];rfl⟩,e2⟩
 ·rw[hr (Nat.le_refl _),Nat.sub_self];unfold uh;rw[if_pos IL];rfl
 ·by_cases hi:i<fn.np
  ·exact .inl hi
  ·rw[hr (Nat.le_of_not_lt hi)] at hl
   have:=tail_at hl
   exact .inr ⟨this.1,Nat.le_antisymm (Nat.le_of_sub_eq_zero this.2) (Nat.le_of_not_lt hi)⟩
end
end
theorem dU:∀{l:List (Str×α)},(l.map (·.1)).Nodup→∀{x:Str}{v:α},(x,v)∈l→l.lookup x=some v
 |[],_,x,v,h=>by cases h
 |(k,w)::l,hn,x,v,h=>by
  obtain⟨h1,h2⟩:=List.nodup_cons.mp hn;rw[List.lookup_cons];rcases List.mem_cons.mp h with h|h
  ·cases h;simp
  ·haveI:(x==k)=false:=by
    refine beq_eq_false_iff_ne.mpr fun q=>h1 ?_
    exact List.mem_map.mpr ⟨(x,v),h,q⟩
   rw[this];exact dU h2 h
theorem cellsFrom_names:∀(names:List (Str×NameKind)) (k:Nat) (acc:List (Str×Addr)),(cellsFrom k names acc).map (·.1)=((names.filter (·.2==.cell)).map (·.1)).reverse++acc.map (·.1)
 |[],_,_=>rfl
 |(x,kind)::r,k,acc=>by
  unfold cellsFrom;cases h:kind==NameKind.cell with
  |true=>rw[if_pos rfl,cellsFrom_names r];simp[List.filter_cons,h]
  |false=>rw[if_neg (by decide),cellsFrom_names r];simp[List.filter_cons,h]
theorem gQ(hn:(names.map (·.1)).Nodup)(k:Nat):((cellsFrom k names []).map (·.1)).Nodup:=by
 rw[cellsFrom_names,List.map_nil,List.append_nil,(List.reverse_perm _).nodup_iff];exact hn.sublist (List.Sublist.map _ List.filter_sublist)
theorem ec(hn:(names.map (·.1)).Nodup)(k:Nat)(h:names.lookup x=some .cell):∃c,(cellsFrom k names []).lookup x=some c:=by
 have m:x∈(cellsFrom k names []).map (·.1):=by
  rw[cellsFrom_names,List.map_nil,List.append_nil,List.mem_reverse];exact List.mem_map.mpr ⟨(x,.cell),List.mem_filter.mpr ⟨mem_of_lookup h,rfl⟩,rfl⟩
 obtain⟨⟨y,c⟩,hm,hy⟩:=List.mem_map.mp m;simp only at hy;subst hy;exact⟨c,dU (gQ hn k) hm⟩
theorem sZ{kindOf:Str→Option NameKind}:∀{eG:List (Str×Value)}{m:Str→Option Value}{x:Str}{v:Value},(eG.map (·.1)).Nodup→(x,v)∈eG→kindOf x=some .local→bindL kindOf eG m x=some v
 |[],_,_,_,_,h,_=>by cases h
 |(k,w)::r,m,x,v,hn,h,hk=>by
  obtain⟨h1,h2⟩:=List.nodup_cons.mp hn;unfold bindL;rcases List.mem_cons.mp h with h|h
  ·cases h
   haveI keep:∀{r:List (Str×Value)}{m:Str→Option Value},k∉r.map (·.1)→bindL kindOf r m k=m k:=by
    intro r
    induction r with
    |nil=>intro m _;rfl
    |cons p r ih=>
     intro m hm;obtain⟨k',w'⟩:=p;unfold bindL;simp only[List.map_cons,List.mem_cons,not_or] at hm;rw[ih hm.2];split
     ·simp[hm.1]
     ·rfl
   rw[keep h1,if_pos hk];simp
  ·exact sZ h2 h hk
theorem ug{kindOf:Str→Option NameKind}:∀{eG:List (Str×Value)}{m:Str→Option Value}{x:Str}{v:Value},(eG.map (·.1)).Nodup→(x,v)∈eG→kindOf x≠some .local→bindC kindOf eG m x=some v
 |[],_,_,_,_,h,_=>by cases h
 |(k,w)::r,m,x,v,hn,h,hk=>by
  obtain⟨h1,h2⟩:=List.nodup_cons.mp hn;unfold bindC;rcases List.mem_cons.mp h with h|h
  ·cases h
   haveI keep:∀{r:List (Str×Value)}{m:Str→Option Value},k∉r.map (·.1)→bindC kindOf r m k=m k:=by
    intro r
    induction r with
    |nil=>intro m _;rfl
    |cons p r ih=>
     intro m hm;obtain⟨k',w'⟩:=p;unfold bindC;simp only[List.map_cons,List.mem_cons,not_or] at hm;rw[ih hm.2];split
     ·rfl
     ·simp[hm.1]
   rw[keep h1,if_neg hk];simp
  ·exact ug h2 h hk
theorem oB(pn:List Str)(vals:List Value)(kws:List (Str×Value))(dv:List Value):((iR pn vals kws dv).map (·.1)).Sublist pn:=by
 unfold iR;generalize (((pn.drop (pn.length-dv.length)).zip dv).foldl fM (pn.zip vals++kws))=sl
 induction pn with
 |nil=>exact List.Sublist.refl _
 |cons x pn ih=>
  rw[List.filterMap_cons];cases h:sl.lookup x with
  |none=>exact ih.cons _
  |some v=>exact ih.cons_cons _
inductive Dj(h₀:Heap)(PN:Addr→Nat→Option Str)(f:Addr)(fn:Fn)(nm:List Str)(sc:List (Str×NameKind))(body:List Stmt):Prop where
 |mk (o:Obj) (fd:FuncData) (as:List Arg) (va:Option Arg) (kd:List (Option Expr)) (ds:List Expr) (r:Option (Array Value)) (dv:List Value) (pn rest:List Str) (ho:h₀.get? f=some o) (hd:o.data=.func fd) (h1:fd.scope.names=sc) (h2:fd.scope.kind=.function) (h3:fd.scope.isCoroutine=false) (h4:fd.scope.isGenerator=false)
  (h5:fd.body=.stmts body) (h6:fd.closure=[]) (h7:fd.globals=mainGlobals) (h8:fd.builtins=builtinsNs) (h9:h₀.CodeRec fd.code fd.qualname)
  (hp:fd.params={ posonlyargs:=[],args:=as,vararg:=va,kwonlyargs:=[],kw_defaults:=kd,kwarg:=none,defaults:=ds }) (ur:as.map (·.arg)=pn)
  (hl:∀M,Looks M h₀ (seqItems? fd.defaults) r) (hv:(r.getD #[]).toList=dv) (hr:∀h ρ N,ae h ρ N fn.dflt dv) (ha:fn.vararg=va.isSome) (hn:pn.length=fn.np) (hm:nm=pn++(va.map (·.arg)).toList++rest) (RW:∀i,PN f i=pn[i]?)
structure rM(G:Ctx)(f:Addr)(fn:Fn)(nm:List Str)(sc:List (Str×NameKind))(body:List Stmt):Prop where
 there:Dj G.h₀ G.pn f fn nm sc body
 dl:fn.dflt.length≤fn.np
 nodup:nm.Nodup
 kinds:∀x∈nm.take (fn.np+if fn.vararg then 1 else 0),sc.lookup x=some .local∨sc.lookup x=some .cell
 IH:(sc.map (·.1)).Nodup
 uP:∀y∈sc,y.2≠.free
theorem enter{f:Addr}{fn:Fn}{body:List Stmt}(hS:cg G)(hF:rM G f fn nm sc body){A:Around}{ρ N:List Addr}{s:Shared}{st:St}{args:List AV}{kw:Option (Nat×AV)}{vals:List Value}{kws:List (Str×Value)}{lc:Lc}{R:Result→Shared→Prop}
  (I:Inv G ρ N st s.heap) (hA:eB G (n+1) A) (hv:ae s.heap ρ N args vals) (hk:pU G s.heap ρ N f kw kws) (hb:fS fn args kw=some lc) (js:vals.length≤16000000)
  (k:∀env aa,bG s ρ aa ρ→Bd G nm sc env ρ N st lc aa→(∀b∈own env,s.heap.get? b=Option.none)→env.frame=some env.locals→iZ G n (A.deeper env) →
   au (model G.prog G.w) (A.deeper env) (execs body env) (fun fl s'=>R (.ok (.ret (Ha fl))) s')
    (fun e s'=>au (model G.prog G.w) (A.deeper env) (leaving env e) (fun j zE=>R (.error e) zE) (fun e' zE=>R (.error e') zE) s') aa):bz (model G.prog G.w) A (.call (.ref f) ⟨vals,kws⟩) R s:=by
 obtain⟨o,fd,as,va,kd,ds,r,dv,pn,rest,ho,hd,N1,wV,Ny,Gl,y6,Mi,Kv,NQ,LQ,hp,ur,Qo,M7,KW,GN,vS,Ln,L5⟩:=hF.there;haveI M1:=(KW s.heap ρ N).length;have uN:=hF.dl;have jO:pn.Nodup:=by have:=hF.nodup;rw[Ln,List.append_assoc] at this;exact(List.nodup_append.mp this).1
 have BO:=mH (dv:=dv) (kws:=kws) hb jO vS uN hv (KW _ _ _) (by
  cases kw with
  |none=>exact hk
  |some p=>obtain⟨x,val,h1,h2,h3⟩:=hk;exact⟨x,val,h1,(L5 _).symm.trans h2,h3⟩)
 haveI Rk:=hS.nolimit.keeps I.base;haveI OJ:∀{h':Heap},(∀b o,s.heap.get? b=some o→h'.get? b=some o)→∀b o,G.h₀.get? b=some o→h'.get? b=some o:=fun kp b o e=>kp b o (I.base b o e)
 have EM:∀x∈pn,sc.lookup x=some .local∨sc.lookup x=some .cell:=fun x m=>hF.kinds x (by rw[Ln,List.append_assoc,←vS,List.take_append];exact List.mem_append_left _ (by rw[List.take_of_length_le (by exact aZ 0x10004000)];exact m))
 have go:∀(eG:List (Str×Value)) (ag:Shared),bG s ρ ag ρ→Inv G ρ N st ag.heap→(eG.map (·.1)).Nodup→(∀x∈eG,sc.lookup x.1=some .local∨sc.lookup x.1=some .cell)→(∀(i:Nat)(x:Str)(v:AV),nm[i]?=some x→lc[i]?=some (some v)→∃val,(x,val)∈eG∧av ag.heap ρ N v val) →
   wpAny (model G.prog G.w) A.in1 (newFunctionEnv fd.scope fd.globals fd.closure eG (fd.qualname++".<locals>.") (some f) fd.code Option.none fd.builtins)
    (fun env bh=>bh.heap.NoLimit∧bz (model G.prog G.w) A (.func body env) R bh) (fun e s'=>R (.error e) s') ag:=by
  intro eG ag bT aM KA QW oD;rw[Mi];refine wpAny_newFunctionEnv_cells wV (fun x hx=>?_) fun env he bh C=>?_
  ·rw[N1]
   rcases QW x hx with q|q
   ·exact .inl q
   ·obtain⟨c,hc⟩:=ec hF.IH (ag.heap.objs.size+1) q
    exact .inr ⟨q,by rw[hc];rfl⟩
  haveI hL:env.locals=ag.heap.objs.size:=by rw[he];rfl
  have AZ:env.scope=fd.scope:=by rw[he];rfl
  have LV:∀x,env.kindOf x=sc.lookup x:=fun x=>by show env.scope.names.lookup x=_;rw[AZ,N1]
  have qL:env.cells=cellsFrom (ag.heap.objs.size+1) sc []:=by rw[he,←N1];rfl
  haveI NR:∀{x c},(x,c)∈env.cells→env.cells.lookup x=some c:=fun {x c} m=>by
   rw[qL] at m ⊢;exact dU (gQ hF.IH _) m
  obtain⟨c9,tk,Ex⟩:=C.toInCall.same;have kp:∀b o,ag.heap.get? b=some o→bh.heap.get? b=some o:=C.toInCall.keep;haveI d8:bG ag ρ bh ρ:=⟨List.prefix_refl _,fun j m=>.inl m,fun b o e j=>kp b o e,by rw[Ex],by rw[Ex]⟩;haveI Rq:=bT.trans d8;have dN:=aM.grow kp;have Kg:∀b,ag.heap.objs.size≤b→ag.heap.get? b=Option.none:=fun b h=>Heap.get?_none_of_le h
  have ER:∀b∈own env,ag.heap.objs.size≤b:=fun b m=>by
   rcases List.mem_cons.mp m with rfl|m
   ·rw[hL];exact Nat.le_refl _
   ·obtain⟨⟨x,c⟩,hm,rfl⟩:=List.mem_map.mp m
    exact Nat.le_of_lt (Nat.lt_of_le_of_lt C.toInCall.fresh (C.above x c hm))
  have vp:∀b∈own env,s.heap.get? b=Option.none:=fun b m=>by
   cases q:s.heap.get? b with
   |none=>rfl
   |some o=>
    haveI Mk:b∉ρ:=fun m'=>by
     obtain⟨o',e'⟩:=aM.there b m';rw[Kg b (ER b m)] at e';cases e'
    have:=bT.keep b o q Mk
    rw[Kg b (ER b m)] at this;cases this
  have BQ:∀b∈own env,b∉ρ:=fun b m m'=>by
   obtain⟨o',e'⟩:=I.there b m';rw[vp b m] at e';cases e'
  have OG:∀{v val},av ag.heap ρ N v val→av bh.heap ρ N v val:=fun r=>r.mono ⟨List.prefix_refl _,fun j m=>.inl m,fun b o e j j j=>kp b o e⟩
  haveI B:Bd G nm sc env ρ N st lc bh:=by
   refine⟨⟨by rw[AZ];exact wV,fun x k' q=>.inl ((LV x).trans q),by rw[he];exact Kv,by rw[he];exact NQ,fun x q=>?_,⟨_,C.toInCall.ns,fun i x v h1 h2 h3=>?_⟩,fun i x v h1 h2 h3=>?_,⟨BQ _ aI,fun x c q=>⟨BQ _ (cA q),?_⟩⟩⟩,
    ⟨fun b m=>?_,BQ,fun b m=>?_,fun x c q=>⟨fun e=>?_,_,C.cell x c q⟩,fun x y c q1 q2=>name_of_addr C.apart (mem_of_lookup q1) (mem_of_lookup q2),fun x q=>⟨(LV x).trans q,?_⟩⟩,dN⟩
   ·rcases q with q|q
    ·rw[qL];exact ec hF.IH _ q
    ·exact absurd rfl (hF.uP _ (mem_of_lookup q))
   ·obtain⟨val,hm,hr⟩:=oD i x v h1 h2
    exact⟨val,sZ KA hm ((LV x).trans h3),OG hr⟩
   ·obtain⟨val,hm,hr⟩:=oD i x v h1 h2
    have hc:sc.lookup x=some .cell:=by
     rcases h3 with q|q
     ·exact q
     ·exact absurd rfl (hF.uP _ (mem_of_lookup q))
    obtain⟨c,q⟩:∃c,env.cells.lookup x=some c:=by rw[qL];exact ec hF.IH _ hc
    refine⟨c,val,q,?_,OG hr⟩
    have:=C.cell x c q
    rw[ug KA hm (by rw[LV x,hc];decide)] at this;exact this
   ·obtain⟨o',mq,_⟩:=C.cell x c q
    exact⟨o',mq⟩
   ·cases q:G.h₀.get? b with
    |none=>rfl
    |some o=>have:=I.base b o q;rw[vp b m] at this;cases this
   ·rcases List.mem_cons.mp m with rfl|m
    ·exact ni C.toInCall.ns
    ·obtain⟨⟨x,c⟩,hm,rfl⟩:=List.mem_map.mp m
     exact nQ (C.cell x c (NR hm))
   ·have:=C.above x c (mem_of_lookup q)
    rw[e] at this;exact Nat.lt_irrefl _ this
   ·rw[qL];exact ec hF.IH _ q
  exact⟨hS.nolimit.keeps dN.base,K.func (k env bh Rq B vp (by rw[he];rfl) hA.body)⟩
 refine K.Al (by have:=hA.depth;unfold recursionLimit;exact(aZ 0x3e80310013840311011104301600409) this) (I.base _ _ ho) hd Ny Gl y6 (LQ.keeps I.base) ?_;have ub:=oB pn vals kws dv;have KA:((iR pn vals kws dv).map (·.1)).Nodup:=jO.sublist ub;have OB:∀{i x},nm[i]?=some x→i<fn.np→pn[i]?=some x:=fun {i x} h hi=>by
  rw[Ln,List.append_assoc,List.getElem?_append_left (by exact(cM 0x10001200019201029) vS hi)] at h;exact h
 refine yC hp ur ((Qo _).keeps I.base) M7 (by exact(gk 0x10000203009300029201029) vS M1 uN) BO.kw (BO.le.imp id fun q=>by rw[←GN];exact q) BO.miss js (fun IL=>?_) (fun a IL=>?_)
 ·have Qz:fn.vararg=false:=by rw[GN,IL];rfl
  refine go _ s (bG.refl) I KA (fun x hx=>EM _ (ub.subset (List.mem_map.mpr ⟨x,hx,rfl⟩))) fun i x v h1 h2=>?_
  rcases BO.rest i v h2 with q|⟨q,_⟩
  ·exact BO.val i x v (OB h1 q) h2
  ·rw[Qz] at q;cases q
 ·have OV:fn.vararg=true:=by rw[GN,IL];rfl
  have Gv:nm=pn++a.arg::rest:=by rw[Ln,IL];simp
  haveI rp:=aW s.heap;have Pj:=fa (o:=⟨.none,Option.none,.plain,#[]⟩) I;haveI RK:a.arg∉pn:=by
   have:=hF.nodup
   rw[Gv] at this;exact fun m=>(List.nodup_append.mp this).2.2 _ m _ List.mem_cons_self rfl
  have Xp:bG s ρ { s with heap:=s.heap.push { cls:=.type "tuple",data:=.seq (vals.drop pn.length).toArray } } ρ:=bG.push _ s.toks;refine go _ _ Xp (I.push _) ?_ (fun x hx=>?_) fun i x v h1 h2=>?_
  ·rw[List.map_append]
   refine List.nodup_append.mpr ⟨KA,by simp,fun x m y m'=>?_⟩;haveI m':y=a.arg:=by simpa using m'
   subst m';exact fun q=>RK (q▸ub.subset m)
  ·rcases List.mem_append.mp hx with m|m
   ·exact EM _ (ub.subset (List.mem_map.mpr ⟨x,m,rfl⟩))
   ·rw[List.mem_singleton.mp m]
    refine hF.kinds _ ?_;rw[OV,Gv,←vS];simp[List.take_append]
  ·rcases BO.rest i v h2 with q|⟨_,rfl⟩
   ·obtain⟨val,q1,q2⟩:=BO.val i x v (OB h1 q) h2
    exact⟨val,List.mem_append_left _ q1,q2.mono Xp.ext⟩
   ·rw[Gv,←vS,List.getElem?_append_right (Nat.le_refl _),Nat.sub_self] at h1
    obtain rfl:=cQ h1;obtain rfl:=cQ (cQ (h2.symm.trans (BO.va OV)));refine⟨_,List.mem_append_right _ List.mem_cons_self,_,vals.drop pn.length,rfl,Pj.1,Pj.2,⟨_,Heap.get?_push_size _ rfl,rfl,0,rfl⟩,?_⟩;haveI hh:ae s.heap ρ N (args.drop fn.np) (vals.drop pn.length):=by rw[vS];exact hv.drop fn.np
    exact hh.mono Xp.ext
noncomputable abbrev Ctx.x(G:Ctx)(y:Option ml):Ctx:={ G with exc:=y }
theorem cg.x(hS:cg G)(y:Option ml):cg (G.x y):=⟨hS.DB,hS.g,hS.b,hS.nolimit,hS.sG,hS.plain,hS.cls,hS.over,hS.sets⟩
theorem rM.x(h:rM G f fn nm sc body)(y:Option ml):rM (G.x y) f fn nm sc body:=⟨h.there,h.dl,h.nodup,h.kinds,h.IH,h.uP⟩
mutual
noncomputable def S.calm:S→Bool
 |.fp _=>false
 |.cy _ _=>false
 |.raise _=>false
 |.n8 _ _ _=>false
 |.ite _ a b=>a.calm&&b.calm
 |.gN _ b=>b.calm
 |.mi _ _ b=>b.calm
 |.expr _=>true
 |.assign _ _=>true
 |.bA _ _=>true
 |.setSlot _ _ _=>true
 |.eZ _ _ _=>true
 |.cE _ _ _ _=>true
 |.aug _ _ _=>true
 |.ret _=>true
 |.cont=>true
 |.pass=>true
noncomputable def Ss.calm:Ss→Bool
 |.nil=>true
 |.cons s r=>s.calm&&r.calm
end
theorem X.mQ:X.ei lc o≠.exc k aK st':=by
 cases o<;>(intro h;cases h)
theorem jL(hb:∀lc st k aK st',b lc st≠.exc k aK st'):∀(m:Nat)(lc:Lc)(st:St)(k:Nat)(aK:Lc)(st':St),bF c b m lc st≠.exc k aK st'
 |0,_,_,_,_,_=>fun h=>by cases h
 |m+1,lc,st,k,aK,st'=>fun h=>by
  refine R.xE (lc:=lc) h Sv.X.b8 fun v af j h=>?_
  split at h
  ·split at h
   ·exact jL hb m _ _ _ _ _ h
   ·exact jL hb m _ _ _ _ _ h
   ·exact hb _ _ _ _ _ h
  ·cases h
  ·cases h
theorem jK(hb:∀lc st k aK st',b lc st≠.exc k aK st'):∀(l:List AV)(lc:Lc)(st:St)(k:Nat)(aK:Lc)(st':St),loopF o t b l lc st≠.exc k aK st'
 |[],_,_,_,_,_=>fun h=>by cases h
 |x::l,lc,st,k,aK,st'=>fun h=>by
  unfold loopF at h;split at h
  ·split at h
   ·split at h
    ·exact jK hb l _ _ _ _ _ h
    ·cases h
   ·split at h
    ·exact jK hb l _ _ _ _ _ h
    ·cases h
   ·exact hb _ _ _ _ _ h
  ·cases h
mutual
theorem S.dk:∀(e:S),e.calm=true→∀(lc:Lc)(st:St)(k:Nat)(aK:Lc)(st':St),eK tb rc e lc st≠.exc k aK st'
 |.expr _,_,lc,_,_,_,_=>fun h=>by refine R.xE (lc:=lc) h Sv.X.b8 fun j j j h=>?_;cases h
 |.assign _ _,_,lc,_,_,_,_=>fun h=>by refine R.xE (lc:=lc) h Sv.X.b8 fun j j j h=>?_;cases h
 |.bA _ _,_,lc,_,_,_,_=>fun h=>by
  refine R.xE (lc:=lc) h Sv.X.b8 fun j j j h=>?_
  split at h<;>cases h
 |.setSlot _ _ _,_,lc,_,_,_,_=>fun h=>by
  refine R.xE (lc:=lc) h Sv.X.b8 fun j j j h=>?_
  refine R.xE (lc:=lc) h Sv.X.b8 fun j j j h=>?_
  exact X.mQ h
 |.eZ _ _ _,_,lc,_,_,_,_=>fun h=>by
  refine R.xE (lc:=lc) h Sv.X.b8 fun j j j h=>?_
  refine R.xE (lc:=lc) h Sv.X.b8 fun j j j h=>?_
  refine R.xE (lc:=lc) h Sv.X.b8 fun j j j h=>?_
  exact X.mQ h
 |.cE _ _ _ _,_,lc,_,_,_,_=>fun h=>by
  refine R.xE (lc:=lc) h Sv.X.b8 fun j j j h=>?_
  refine R.xE (lc:=lc) h Sv.X.b8 fun j j j h=>?_
  refine R.xE (lc:=lc) h Sv.X.b8 fun j j j h=>?_
  refine R.xE (lc:=lc) h Sv.X.b8 fun j j j h=>?_
  exact X.mQ h
 |.aug i op e,_,lc,st,k,aK,st'=>fun h=>by
  haveI h:(match (lc[i]?).join with
   |some x=>(aC tb rc lc e st).gy lc fun v st=>match fi op x v with
    |some w=>.ok .next (lc.set i (some w)) st
    |Option.none=>.stuck
   |Option.none=>.stuck)=X.exc k aK st':=h
  split at h
  ·refine R.xE (lc:=lc) h Sv.X.b8 fun j j j h=>?_
   split at h<;>cases h
  ·cases h
 |.ite c a b,hc,lc,_,_,_,_=>fun h=>by
  obtain⟨NN,um⟩:=Bool.and_eq_true_iff.mp (show(a.calm&&b.calm)=true from hc);refine R.xE (lc:=lc) h Sv.X.b8 fun j j j h=>?_
  split at h
  ·exact Ss.dk a NN _ _ _ _ _ h
  ·exact Ss.dk b um _ _ _ _ _ h
  ·cases h
 |.gN c b,hc,lc,_,_,_,_=>fun h=>jL (Ss.dk b hc) _ _ _ _ _ _ h
 |.mi t s b,hc,lc,_,_,_,_=>fun h=>by
  refine R.xE (lc:=lc) h Sv.X.b8 fun j j j h=>?_
  exact jK (Ss.dk b hc) _ _ _ _ _ _ h
 |.ret Option.none,_,lc,_,_,_,_=>fun h=>by cases h
 |.ret (some _),_,lc,_,_,_,_=>fun h=>by refine R.xE (lc:=lc) h Sv.X.b8 fun j j j h=>?_;cases h
 |.cont,_,_,_,_,_,_=>fun h=>by cases h
 |.pass,_,_,_,_,_,_=>fun h=>by cases h
theorem Ss.dk:∀(e:Ss),e.calm=true→∀(lc:Lc)(st:St)(k:Nat)(aK:Lc)(st':St),aT tb rc e lc st≠.exc k aK st'
 |.nil,_,_,_,_,_,_=>fun h=>by cases h
 |.cons e r,hc,lc,st,k,aK,st'=>fun h=>by
  obtain⟨NN,um⟩:=Bool.and_eq_true_iff.mp (show(e.calm&&r.calm)=true from hc);haveI h:(eK tb rc e lc st).next (fun lc st=>aT tb rc r lc st)=.exc k aK st':=h;cases q:eK tb rc e lc st with
  |ok f1 lc1 af=>
   rw[q] at h;cases f1 with
   |next=>exact Ss.dk r um _ _ _ _ _ h
   |cont=>cases h
   |ret v=>cases h
  |exc j lc1 af=>exact S.dk e NN _ _ _ _ _ q
  |stuck=>rw[q] at h;cases h
end
theorem gv.calm(h:e.calm=true):gv G rc nm sc n p e:=gv.never (Ss.dk e h _ _ _ _ _)
theorem pY.calm(h:e.calm=true):pY G rc nm sc n p e:=pY.never (S.dk e h _ _ _ _ _)
def Cc(G:Ctx)(rc:RC)(n:Nat):Prop:=
 ∀{A:Around}{fr:List Env}{ρ N:List Addr}{s:Shared}{st st':St}{f:Addr}{args:List AV}{v:AV}{vals:List Value}{R:Result→Shared→Prop},Inv G ρ N st s.heap→eB G n A→A.frames=some fr→dg G.h₀ s.heap ρ fr →
  ae s.heap ρ N args vals→rc f args Option.none st=.ok v st'→(∀val s' aF,u9 (lb fr) s ρ s' aF→Inv G aF N st' s'.heap→av s'.heap aF N v val→R (.ok (.ret val)) s')→bz (model G.prog G.w) A (.call (.ref f) ⟨vals,[]⟩) R s
theorem dH.jc(h:dH G rc n):dH G (jc G.tb rc) n:=fun {A ρ N s st st' f args kw v vals kws R} hc I hA hv hk he hR=>by
 unfold Sv.jc at he;split at he
 ·exact h hc I hA hv hk he hR
 ·cases he
structure BodyOk(G:Ctx)(f:Addr)(fn:Fn)(cZ:Ss)(nm:List Str)(sc:List (Str×NameKind))(body:List Stmt):Prop where
 y5:rM G f fn nm sc body
 small:fn.np≤1000
 c:G.tb.jZ f=true→G.tb.oz f=false∧∀rc n,dH G rc n→B9 G rc n→Cc G rc n→(∀y,dH (G.x (some y)) (Sv.jc G.tb rc) n)→gY G rc nm sc n body cZ
 h:G.tb.jZ f=false→G.tb.oz f=true→cZ.calm=true∧∀y rc n,dH (G.x y) rc n→mL (G.x y) rc nm sc n body cZ
 p:G.tb.jZ f=false→G.tb.oz f=false→∀rc n,dH G rc n→B9 G rc n→mL G rc nm sc n body cZ∧gv G rc nm sc n body cZ
theorem lA(e:fS fn args kw=some lc)(h:fn.np≤1000):args.length≤1000:=by
 exact gO e fun h1 j=>(Bool.or_eq_true_iff.mp (aR (aL h1))).elim (fun q=>Nat.le_trans (d6 q) h) fun q=>d6 (aR q)
set_option tactic.hygienic true in
theorem uA{tb:Tab}{fns:Addr→Option (Fn×Ss)}{f:Addr}{args:List AV}{kw:Option (Nat×AV)}{st st':St}{v:AV}(h:run tb fns (n+1) f args kw st=.ok v st') :
  ∃fn body lc fl aK,fns f=some (fn,body)∧fS fn args kw=some lc∧aT tb (if tb.oz f then jc tb (run tb fns n) else run tb fns n) body lc st=.ok fl aK st'∧v=fl.val:=by
 unfold run at h;split at h
 ·rename_i fn body q
  split at h
  ·rename_i lc q2
   refine⟨fn,body,lc,?_⟩;split at h
   ·rename_i w aK af q3;cases (h);exact⟨.ret v,aK,q,q2,q3,rfl⟩
   ·rename_i fl aK af hn q3
    cases (h);exact⟨fl,aK,q,q2,q3,by cases fl<;>first|rfl|(exfalso;exact hn _ rfl)|(exfalso;exact hn _ _ _ rfl)⟩
   ·cases (h)
   ·cases (h)
  ·cases (h)
 ·cases (h)
set_option tactic.hygienic true in
theorem CZ{tb:Tab}{fns:Addr→Option (Fn×Ss)}{f:Addr}{args:List AV}{kw:Option (Nat×AV)}{st st':St}{k:Nat}(h:run tb fns (n+1) f args kw st=.exc k st') :
  ∃fn body lc aK,fns f=some (fn,body)∧fS fn args kw=some lc∧aT tb (if tb.oz f then jc tb (run tb fns n) else run tb fns n) body lc st=.exc k aK st':=by
 unfold run at h;split at h
 ·rename_i fn body q
  split at h
  ·rename_i lc q2
   split at h
   ·cases h
   ·cases h
   ·rename_i k' aK af q3;cases h;exact⟨fn,body,lc,aK,q,q2,q3⟩
   ·cases h
  ·cases h
 ·cases h
theorem ue:jA h ρ N fl f→av h ρ N fl.val (Ha f):=fun F=>by
 cases fl with
 |next=>obtain rfl:f=.next:=F;rfl
 |cont=>obtain rfl:f=.cont:=F;rfl
 |ret v=>obtain⟨x,rfl,hx⟩:=F;exact hx
theorem cR.back{env:Env}{s aa s':Shared}{ρ ρ₁ aF:List Addr}(X:bG s ρ aa ρ₁)(Y:cR env aa ρ₁ s' aF)(hn:∀b∈own env,s.heap.get? b=Option.none):bG s ρ s' aF where
 pre:=X.pre.trans Y.pre
 fresh:=fun a m=>by
  rcases Y.fresh a m with h|h
  ·exact X.fresh a h
  ·by_cases hm:a∈ρ
   ·exact .inl hm
   ·right
    cases e:s.heap.get? a with
    |none=>rfl
    |some o=>rw[X.keep a o e hm] at h;cases h
 keep:=fun b o e n=>Y.keep b o (X.keep b o e n) (fun m=>by
  rcases X.fresh b m with h|h
  ·exact n h
  ·rw[e] at h;cases h) fun m=>by rw[hn b m] at e;cases e
 os:=Y.os.trans X.os
 gens:=Y.gens.trans X.gens
theorem eh.back{env:Env}{outer:List Env}{s aa s':Shared}{ρ ρ₁ aF:List Addr}(X:bG s ρ aa ρ₁)(Y:eh env outer aa ρ₁ s' aF)(hn:∀b∈own env,s.heap.get? b=Option.none):u9 (lb outer) s ρ s' aF where
 pre:=X.pre.trans Y.pre
 fresh:=fun a m=>by
  rcases Y.fresh a m with h|h
  ·exact X.fresh a h
  ·by_cases hm:a∈ρ
   ·exact .inl hm
   ·right
    cases e:s.heap.get? a with
    |none=>rfl
    |some o=>rw[X.keep a o e hm] at h;cases h
 keep:=fun b o e n=>Y.keep b o (X.keep b o e n) (fun m=>by
  rcases X.fresh b m with h|h
  ·exact n h
  ·rw[e] at h;cases h) fun m=>by rw[hn b m] at e;cases e
 slot:=fun b o e n=>Y.slot b o (X.keep b o e n) (fun m=>by
  rcases X.fresh b m with h|h
  ·exact n h
  ·rw[e] at h;cases h) fun m=>by rw[hn b m] at e;cases e
 os:=Y.os.trans X.os
 gens:=Y.gens.trans X.gens
theorem rm(hS:cg G){f:Addr}{fn:Fn}{body:List Stmt}{cZ:Ss}(hF:rM G f fn nm sc body)(CP:fn.np≤1000){rc:RC}(hb:mL G rc nm sc n body cZ){A:Around}{ρ N:List Addr}{s:Shared}{st st':St}{args:List AV}{kw:Option (Nat×AV)}{vals:List Value}{kws:List (Str×Value)}{lc aK:Lc}{fl:Fl}{R:Result→Shared→Prop}
  (I:Inv G ρ N st s.heap) (hA:eB G (n+1) A) (hv:ae s.heap ρ N args vals) (hk:pU G s.heap ρ N f kw kws) (Fi:fS fn args kw=some lc) (he:aT G.tb rc cZ lc st=.ok fl aK st')
  (hR:∀val s',Ends G ρ N s st' fl.val val s'→R (.ok (.ret val)) s'):bz (model G.prog G.w) A (.call (.ref f) ⟨vals,kws⟩) R s:=by
 refine enter hS hF I hA hv hk Fi (by haveI:=lA Fi CP;haveI:=hv.length;omega) fun env aa bS bW kK rp tC=>?_
 exact K.pO (hb _ bW tC he) fun f s' aF Y B' F=>hR _ _ ⟨aF,cR.back bS Y kK,B'.inv,ue F⟩
theorem HA(hS:cg G){f:Addr}{fn:Fn}{body:List Stmt}{cZ:Ss}(hF:rM G f fn nm sc body)(CP:fn.np≤1000){rc:RC}(hb:gY G rc nm sc n body cZ){A:Around}{fr:List Env}{ρ N:List Addr}{s:Shared}{st st':St}{args:List AV}{vals:List Value}{lc aK:Lc}{fl:Fl}{R:Result→Shared→Prop}
  (I:Inv G ρ N st s.heap) (hA:eB G (n+1) A) (rp:A.frames=some fr) (hI:dg G.h₀ s.heap ρ fr) (hv:ae s.heap ρ N args vals) (Fi:fS fn args Option.none=some lc) (he:aT G.tb rc cZ lc st=.ok fl aK st')
  (hR:∀val s' aF,u9 (lb fr) s ρ s' aF→Inv G aF N st' s'.heap→av s'.heap aF N fl.val val→R (.ok (.ret val)) s'):bz (model G.prog G.w) A (.call (.ref f) ⟨vals,[]⟩) R s:=by
 refine enter (kw:=Option.none) (kws:=[]) hS hF I hA hv rfl Fi (by haveI:=lA Fi CP;haveI:=hv.length;omega) fun env aa bS bW kK hf tC=>?_
 haveI FS:vh G (A.deeper env) env fr ρ aa.heap:=⟨Around.frames_deeper rp,hf,hI.bX bS,fun b m m'=>by
  obtain⟨_,_,o,e,_⟩:=hI.mem b m;rw[kK b m'] at e;cases e⟩
 exact K.v8 (hb _ bW tC FS he) fun f s' aF Y B' F=>hR _ _ _ (eh.back bS Y kK) B'.inv (ue F)
theorem GP(hS:cg G){f:Addr}{fn:Fn}{body:List Stmt}{cZ:Ss}(hF:rM G f fn nm sc body)(CP:fn.np≤1000){rc:RC}(hb:gv G rc nm sc n body cZ){A:Around}{fr:List Env}{ρ N:List Addr}{s:Shared}{st st':St}{args:List AV}{kw:Option (Nat×AV)}{vals:List Value}{kws:List (Str×Value)}{lc aK:Lc}{k:Nat}{R:Result→Shared→Prop}
  (I:Inv G ρ N st s.heap) (hA:eB G (n+1) A) (rp:A.frames=some fr) (hI:dg G.h₀ s.heap ρ fr) (hv:ae s.heap ρ N args vals) (hk:pU G s.heap ρ N f kw kws) (Fi:fS fn args kw=some lc) (he:aT G.tb rc cZ lc st=.exc k aK st')
  (hR:∀e s',XE G ρ N fr s st' e s'→R (.error e) s'):bz (model G.prog G.w) A (.call (.ref f) ⟨vals,kws⟩) R s:=by
 refine enter hS hF I hA hv hk Fi (by have:=lA Fi CP;have:=hv.length;omega) fun env aa bS bW kK hf tC=>?_
 have FS:vh G (A.deeper env) env fr ρ aa.heap:=⟨Around.frames_deeper rp,hf,hI.bX bS,fun b m m'=>by
  obtain⟨_,_,o,e,_⟩:=hI.mem b m;rw[kK b m'] at e;cases e⟩
 refine hb _ _ bW tC FS he fun v s' h=>?_
 obtain⟨a,aF,ag,rfl,Y,fY,rQ,ho,hg⟩:=h;haveI JQ:=FS.bX Y;refine K.of (xH FS.fr FS.frame (JQ.all fY) rQ fun h' F'=>hR _ _ ?_);have Z:=cR.back bS Y kK;haveI hL:env.locals∉lb fr:=fun m=>FS.apart _ m aI
 refine⟨a,aF,{ ag with heap:=hideAll ag.heap [env.locals] },rfl,⟨Z.pre,Z.fresh,fun b o e n1=>hideAll_get _ (Z.keep b o e n1) fun m=>?_,Z.os,Z.gens⟩,?_,⟨fun b o q n1=>F'.keep b o (of_hideAll _ q) fun m=>?_,fun b o q=>F'.slot b o (of_hideAll _ q),?_,?_⟩,ho,hg⟩
 ·rw[List.mem_singleton.mp m,kK _ aI] at e;cases e
 ·obtain⟨oL,eL,iL,dL⟩:=fY.fr.kind _ aI
  haveI nN:env.locals∉N:=fun m=>by obtain⟨o,e⟩:=I.lO _ m;rw[kK _ aI] at e;cases e
  refine fY.inv.cL (a:=env.locals) (fY.fr.new _ aI) (fY.fr.bC _ aI) nN (fun y hy e=>?_) (fun o e=>by rw[eL] at e;cases e;exact iL) fun b o hb e=>hideAll_get _ e fun m=>hb (List.mem_singleton.mp m)
  have:=(I.exc y hy).2
  rw[e,kK _ aI] at this;cases this
 ·rw[mY FS.frame] at m
  rcases List.mem_cons.mp m with rfl|m
  ·have:=hideAll_none (h:=ag.heap) (l:=[env.locals]) List.mem_cons_self
   rw[show(hideAll ag.heap [env.locals]).get? env.locals=some o from q] at this;cases this
  ·exact n1 m
 ·cases q:(hideAll ag.heap [env.locals]).get? a with
  |none=>rfl
  |some o=>have:=of_hideAll _ q;rw[F'.new] at this;cases this
 ·obtain⟨oe,vs,h1,h2,h3,h4,h5⟩:=F'.exc
  refine⟨oe,vs,h1,h2,h3,h4,h5.imp id fun⟨T,oT,ts,q1,q2,q3,q4⟩=>⟨T,oT,ts,q1,q2,?_,q4⟩⟩;cases q:(hideAll ag.heap [env.locals]).get? T with
  |none=>rfl
  |some o=>have:=of_hideAll _ q;rw[q3] at this;cases this
set_option tactic.hygienic true in
theorem runs(hS:cg G)(hx:G.exc=Option.none)(hP:∀f fn cZ,fns f=some (fn,cZ)→∃nm sc body,BodyOk G f fn cZ nm sc body) :
 ∀n,dH G (run G.tb fns n) n∧B9 G (run G.tb fns n) n∧Cc G (run G.tb fns n) n∧∀y,dH (G.x (some y)) (jc G.tb (run G.tb fns n)) n
 |0=>⟨fun {A ρ N s st st' f args kw v vals kws R} hc I hA hv hk he hR=>(by cases he),fun {A fr ρ N s st st' f args kw k vals kws R} hc I hA hf hI hv hk he hR=>(by cases he),fun {A fr ρ N s st st' f args v vals R} I hA hf hI hv he hR=>(by cases he),
   fun y {A ρ N s st st' f args kw v vals kws R} hc I hA hv hk he hR=>(by unfold jc at he;split at he<;>cases he)⟩
 |n+1=>by
  obtain⟨i1,i2,i3,i4⟩:=runs hS hx hP n;haveI hN:=tX (G:=G) hx;have r1:dH G (run G.tb fns (n+1)) (n+1):=fun {A ρ N s st st' f args kw v vals kws R} hc I hA hv hk he hR=>by
   obtain⟨fn,cZ,lc,fl,aK,hf,hb,rh,rfl⟩:=uA he;obtain⟨nm,sc,body,P⟩:=hP f fn cZ hf;cases q:G.tb.oz f with
   |true=>
    rw[q,if_pos rfl] at rh;have z:=(P.h hc q).2 Option.none (jc G.tb (run G.tb fns n)) n;rw[show G.x Option.none=G from hN] at z;exact rm hS P.y5 P.small (z i1.jc) I hA hv hk hb rh hR
   |false=>
    rw[q,if_neg (by decide)] at rh;exact rm hS P.y5 P.small (P.p hc q _ _ i1 i2).1 I hA hv hk hb rh hR
  refine⟨r1,fun {A fr ρ N s st st' f args kw k vals kws R} hc I hA rp hI hv hk he hR=>?_,fun {A fr ρ N s st st' f args v vals R} I hA rp hI hv he hR=>?_,fun y {A ρ N s st st' f args kw v vals kws R} hc I hA hv hk he hR=>?_⟩
  ·obtain⟨fn,cZ,lc,aK,hf,hb,rh⟩:=CZ he
   obtain⟨nm,sc,body,P⟩:=hP f fn cZ hf;cases q:G.tb.oz f with
   |true=>exact absurd rh (Ss.dk cZ (P.h hc q).1 _ _ _ _ _)
   |false=>
    rw[q,if_neg (by decide)] at rh;exact GP hS P.y5 P.small (P.p hc q _ _ i1 i2).2 I hA rp hI hv hk hb rh hR
  ·cases hc:G.tb.jZ f with
   |false=>exact r1 (kw:=Option.none) (kws:=[]) hc I hA hv rfl he fun val s' ⟨aF,a,b,c⟩=>hR val s' aF a.f b c
   |true=>
    obtain⟨fn,cZ,lc,fl,aK,hf,hb,rh,rfl⟩:=uA he;obtain⟨nm,sc,body,P⟩:=hP f fn cZ hf;have z:=P.c hc;rw[z.1,if_neg (by decide)] at rh;exact HA hS P.y5 P.small (z.2 _ _ i1 i2 i3 i4) I hA rp hI hv hb rh hR
  ·unfold jc at he
   split at he
   ·rename_i q
    obtain⟨fn,cZ,lc,fl,aK,hf,hb,rh,rfl⟩:=uA he;obtain⟨nm,sc,body,P⟩:=hP f fn cZ hf;rw[q,if_pos rfl] at rh;exact rm (G:=G.x (some y)) (hS.x _) (P.y5.x _) P.small ((P.h hc q).2 (some y) (jc G.tb (run G.tb fns n)) n (i4 y)) I hA hv hk hb rh hR
   ·cases he
theorem cR.ext(X:cR env s ρ s' aF)(F:uU G sc env ρ s.heap):Ext N s.heap ρ s'.heap aF:=
 ⟨X.pre,X.fresh,fun b o e n j jN=>X.keep b o e n fun m=>by
  obtain⟨o',e',q,_⟩:=F.kind b m;rw[e] at e';cases (e');exact q jN⟩
def kO(G:Ctx)(A:Around)(env:Env)(x:Str)(t:Value→Sem Unit):Prop:=
 ∀{v:Value}{Q:Unit→Shared→Prop}{E:Value→Shared→Prop}{s:Shared},wpAny (model G.prog G.w) A (storeName env x v) Q E s→wpAny (model G.prog G.w) A (t v) Q E s
noncomputable def qD(lc:Lc)(l:List (Nat×AV)):Lc:=l.foldl (fun lc p=>lc.set p.1 (some p.2)) lc
theorem lH{env:Env}{A:Around}{ρ N:List Addr}{st:St}{E:Value→Shared→Prop}:∀{l:List (Nat×AV)}{xs:List Str}{ts:List (Value→Sem Unit)}{vals:List Value}{s:Shared}{lc:Lc}{Q:Unit→Shared→Prop},Bd G nm sc env ρ N st lc s →
  xs.length=l.length→ts.length=l.length→(∀(i:Nat)(p:Nat×AV)(x:Str)(t:Value→Sem Unit),l[i]?=some p→xs[i]?=some x→ts[i]?=some t→cJ nm sc p.1 x∧kO G A env x t) →
  ae s.heap ρ N (l.map (·.2)) vals→(∀s',cR env s ρ s' ρ→Bd G nm sc env ρ N st (qD lc l) s'→Q () s')→wpAny (model G.prog G.w) A (assignInOrder ts vals) Q E s
 |[],xs,ts,vals,s,lc,Q,B,_,ht,_,hv,h=>by
  rw[List.length_eq_zero_iff.mp ht,show vals=[] from hv];exact assignInOrder_nil (h s cR.refl B)
 |p::l,xs,ts,vals,s,lc,Q,B,hx,ht,hn,hv,h=>by
  cases xs with
  |nil=>cases hx
  |cons x xs=>
   cases ts with
   |nil=>cases ht
   |cons t ts=>
    obtain⟨v,r,q,PL,Qq⟩:=hv;rw[q];have JH:=hn 0 p x t rfl rfl rfl;exact assignInOrder_cons (JH.2 (JH.1.store B PL fun aa bS bW=>lH bW (Nat.succ.inj hx) (Nat.succ.inj ht) (fun i p' x' t' h1 h2 h3=>hn (i+1) p' x' t' h1 h2 h3) (Qq.mono (bS.ext B.fr)) fun s' X B'=>h s' (bS.trans X) B'))
theorem vq(hn:(l.map (·.1)).Nodup):qD lc l.reverse=qD lc l:=by
 unfold qD;refine(List.reverse_perm l).foldl_eq' (fun x hx y hy z=>?_) _
 by_cases q:x.1=y.1
 ·haveI:x=y:=by
   haveI hx:=List.mem_reverse.mp hx;have hy:=List.mem_reverse.mp hy;obtain⟨i,hi⟩:=List.getElem?_of_mem hx;obtain⟨j,hj⟩:=List.getElem?_of_mem hy;have e1:(l.map (·.1))[i]?=some x.1:=by rw[List.getElem?_map,hi];rfl
   have e2:(l.map (·.1))[j]?=some x.1:=by rw[List.getElem?_map,hj,q];rfl
   haveI JE:i=j:=by
    obtain⟨q1,_⟩:=List.getElem?_eq_some_iff.mp e1;exact(List.getElem?_inj q1 hn).mp (e1.trans e2.symm)
   subst JE;rw[hi] at hj;cases hj;rfl
  subst this;rfl
 ·exact List.set_comm _ _ q
structure cB(nm:List Str)(sc:List (Str×NameKind))(is:List Nat)(xs:List Str):Prop where
 len:xs.length=is.length
 ok:∀(j:Nat)(i:Nat)(x:Str),is[j]?=some i→xs[j]?=some x→cJ nm sc i x
theorem Bv{is:List Nat}{vs:List AV}{j:Nat}{p:Nat×AV}(h:(is.zip vs)[j]?=some p):is[j]?=some p.1∧vs[j]?=some p.2:=by
 rw[List.getElem?_zip_eq_some] at h;exact h
theorem yy{is:List Nat}{v:AV}{lc lc1:Lc}{P:Prop}(e:fH (.tup is) v lc=some lc1)(k:∀vs,v=.tup vs→is.length=vs.length→(is.zip vs).foldl (fun lc p=>lc.set p.1 (some p.2)) lc=lc1→P):P:=by
 cases v with
 |tup vs=>
  have e:(if is.length=vs.length then some ((is.zip vs).foldl (fun lc p=>lc.set p.1 (some p.2)) lc) else Option.none)=some lc1:=e
  by_cases h:is.length=vs.length
  ·rw[if_pos h] at e;exact k vs rfl h (cQ e)
  ·rw[if_neg h] at e;exact nO e
 |_=>exact nO e
theorem lP{G:Ctx}{rc:RC}{is:List Nat}{e:Sv.E}{lc aK:Lc}{st st':St}{fl:Fl}{P:Prop}(he:eK G.tb rc (.bA is e) lc st=X.ok fl aK st')
  (k:∀vs,aC G.tb rc lc e st=.ok (.tup vs) st'→is.length=vs.length→fl=.next→(is.zip vs).foldl (fun lc p=>lc.set p.1 (some p.2)) lc=aK→P):P:=
 R.xE (lc:=lc) he Sv.X.ay fun v af h1 he=>by
  cases hb:fH (.tup is) v lc with
  |none=>rw[hb] at he;cases (he)
  |some lc1=>
   rw[hb] at he;cases (he);exact yy hb fun vs e1 e2 e3=>k vs (e1▸h1) e2 rfl e3
theorem SS.bA{is:List Nat}{xs:List Str}{gM:List Expr}{k:Nat}{cK pos:Pos}{p:Expr}{e:Sv.E}(hx:G.exc=Option.none)(hN:cB nm sc is xs)(h:SE G rc nm sc n p e)
  (hs:∀env,swapsWithSole [.Tuple gM k cK] p pos.line env=pure false) (hw:∀env,swappedStores [.Tuple gM k cK] p env=pure Option.none)
  (Q2:∀(A:Around)(env:Env),(assignEach gM env).findIdx? (·.1)=Option.none∧(assignEach gM env).length=xs.length∧∀(j:Nat)(x:Str)(t:Value→Sem Unit),xs[j]?=some x→((assignEach gM env).map (·.2))[j]?=some t→kO G A env x t) :
  SS G rc nm sc n (.Assign [.Tuple gM k cK] p pos) (.bA is e):=fun {env A ρ N s lc aK st st' fl} E B hA Cn=>by
 refine lP Cn fun vs h1 hlen ND MT=>?_
 rw[ND,←MT];rw[exec_Assign];refine K.bind (K.standAt ?_);rw[hs];refine K.bind (K.pure ?_);rw[if_neg (by decide)];refine K.bind (K.ends (h E B.fm B.inv hA h1) fun val aa ρ₁ X aw V=>?_);rw[hw];refine K.bind (K.pure ?_);show au _ A (do assignAll val [PySem.assign (.Tuple gM k cK) env];Pure.pure Flow.next) _ E aa;obtain⟨t,items,r0,n1,n2,ht,hr⟩:=V;rw[r0];haveI Mx:=hr.length;obtain⟨z1,z2,z3⟩:=Q2 A env;have bW:=B.bX X aw;refine K.bind (K.of (assign_Tuple_tuple (hA.none hx) (mS ht) (by rw[z2,hN.len,hlen,List.size_toArray,Mx]) z1 fun h' hk=>?_));have kp:∀b o,aa.heap.get? b=some o→h'.get? b=some o:=fun b o e=>hk b o (fun q=>by rw[q,aW] at e;cases e) e
 have X2:bG aa ρ₁ { aa with heap:=h' } ρ₁:=⟨List.prefix_refl _,fun z m=>.inl m,fun b o e z=>kp b o e,rfl,rfl⟩;haveI fY:=bW.bX X2 (aw.grow kp);haveI hm:(is.zip vs).map (·.2)=vs:=by rw[List.map_snd_zip];exact(aZ 0x10000001029) hlen
 refine lH (l:=is.zip vs) (xs:=xs) fY (by rw[hN.len,List.length_zip];exact(aZ 0x1000c002100029) hlen) (by rw[List.length_map,z2,hN.len,List.length_zip];exact(aZ 0x1000c002100029) hlen) (fun j p x t' q1 q2 q3=>?_) (by rw[hm];simpa using hr.mono X2.ext) fun s' Y B'=>K.pure ⟨ρ₁,(B.loc X).trans ((bW.loc X2).trans Y),B',rfl⟩
 exact⟨hN.ok j _ _ (Bv q1).1 q2,z3 j x t' q2 q3⟩
theorem SS.BS{is:List Nat}{xs:List Str}{gM:List Expr}{k:Nat}{cK pos:Pos}{p:Expr}{e:Sv.E}(hx:G.exc=Option.none)(hN:cB nm sc is xs)(jO:is.Nodup)(h:SE G rc nm sc n p e)
  (hs:∀env,swapsWithSole [.Tuple gM k cK] p pos.line env=pure false) (hw:∀env:Env,env.scope.kind=.function→(∀x,sc.lookup x=some .local→env.kindOf x=some .local)→swappedStores [.Tuple gM k cK] p env=pure (some xs)) :
  SS G rc nm sc n (.Assign [.Tuple gM k cK] p pos) (.bA is e):=fun {env A ρ N s lc aK st st' fl} E B hA Cn=>by
 refine lP Cn fun vs h1 hlen ND MT=>?_
 rw[ND,←MT];rw[exec_Assign];refine K.bind (K.standAt ?_);rw[hs];refine K.bind (K.pure ?_);rw[if_neg (by decide)];refine K.bind (K.ends (h E B.fm B.inv hA h1) fun val aa ρ₁ X aw V=>?_);rw[hw env B.fm.kind fun x q=>by
  rcases B.fm.names x _ q with r|⟨r,_⟩
  ·exact r
  ·cases r]
 refine K.bind (K.pure ?_);show au _ A (do rule "assign.swapped-stores";let items ←unpackItems val xs.length Option.none;assignInOrder (xs.reverse.map fun n=>bindName env n) items.reverse;Pure.pure Flow.next) _ E aa;obtain⟨t,items,r0,n1,n2,ht,hr⟩:=V;rw[r0];haveI Mx:=hr.length;have bW:=B.bX X aw;refine K.bind (K.of (wpAny_rule ?_));haveI P9:xs.length=(List.toArray items).size:=by rw[hN.len,hlen,List.size_toArray,Mx]
 rw[P9];refine K.bind (K.of (unpackItems_tuple (hA.none hx) (mS ht) fun h' hk=>?_));have kp:∀b o,aa.heap.get? b=some o→h'.get? b=some o:=fun b o e=>hk b o (fun q=>by rw[q,aW] at e;cases e) e
 have X2:bG aa ρ₁ { aa with heap:=h' } ρ₁:=⟨List.prefix_refl _,fun z m=>.inl m,fun b o e z=>kp b o e,rfl,rfl⟩;haveI fY:=bW.bX X2 (aw.grow kp);haveI hm:(is.zip vs).reverse.map (·.2)=vs.reverse:=by rw[List.map_reverse,List.map_snd_zip];exact(aZ 0x10000001029) hlen
 haveI PM:(is.zip vs).map (·.1)=is:=by rw[List.map_fst_zip];exact(aZ 0x10000100029) hlen
 have K6:(is.zip vs).length=is.length:=by rw[List.length_zip];exact(aZ 0x1000c2100029) hlen
 haveI rev:∀{h:Heap}{ρ N:List Addr}{l:List AV}{vals:List Value},ae h ρ N l vals→ae h ρ N l.reverse vals.reverse:=fun r=>ae.reverse r
 refine K.bind (K.of (lH (l:=(is.zip vs).reverse) (xs:=xs.reverse) fY (by simp[hN.len,K6]) (by simp[hN.len,K6]) (fun j p x t' q1 q2 q3=>?_) (by rw[hm];simpa using rev (hr.mono X2.ext)) fun s' Y B'=>K.pure ⟨ρ₁,(B.loc X).trans ((bW.loc X2).trans Y),?_,rfl⟩))
 ·have hj:j<(is.zip vs).length:=by haveI:=(List.getElem?_eq_some_iff.mp q1).1;simpa using this
  rw[List.getElem?_reverse hj] at q1;rw[List.getElem?_reverse (by rw[hN.len,←K6];exact hj)] at q2;rw[List.getElem?_map] at q3;obtain⟨x',CY,rfl⟩:=Option.map_eq_some_iff.mp q3;rw[List.getElem?_reverse (by rw[hN.len,←K6];exact hj)] at CY;rw[q2] at CY;cases CY;rw[hN.len,←K6] at q2;exact⟨hN.ok _ _ _ (Bv q1).1 q2,fun h=>wpAny_bindName h⟩
 ·rw[vq (by rw[PM];exact jO)] at B'
  exact B'
theorem Bd.NP{env:Env}{ρ aF N:List Addr}{st st':St}{lc:Lc}{s s':Shared}{ex:List Addr}(B:Bd G nm sc env ρ N st lc s)(hex:∀b∈ex,∃o,s.heap.get? b=some o∧¬jQ o)(X:u9 ex s ρ s' aF)(I:Inv G aF N st' s'.heap):Bd G nm sc env aF N st' lc s':=by
 have E:Ext N s.heap ρ s'.heap aF:=⟨X.pre,X.fresh,fun b o e n u jN=>X.keep b o e n fun m=>by
  obtain⟨o',e',q⟩:=hex b m;rw[e] at e';cases (e');exact q jN⟩
 have ku:∀{a o},s.heap.get? a=some o→a∉ρ→a∉aF:=fun e n m=>(X.fresh _ m).elim n fun q=>by rw[e] at q;cases (q)
 obtain⟨oL,eL,_⟩:=B.fr.kind _ aI;refine⟨⟨B.fm.kind,B.fm.names,B.fm.glob,B.fm.blt,B.fm.has,?_,fun j y z hj hz hy=>?_,⟨ku eL B.fm.bC.1,fun y c hc=>?_⟩⟩,⟨B.fr.new,fun b mb=>?_,fun b mb=>?_,fun y c e=>⟨(B.fr.cell y c e).1,?_⟩,B.fr.apart,B.fr.has⟩,I⟩
 ·obtain⟨m,hm,hv⟩:=B.fm.loc
  exact⟨m,td hm fun o e=>X.slot _ o e B.fm.bC.1,fun i x v h1 h2 h3=>let ⟨w,e1,e2⟩:=hv i x v h1 h2 h3;⟨w,e1,e2.mono E⟩⟩
 ·obtain⟨c,w,e1,e2,e3⟩:=B.fm.B6 j y z hj hz hy
  exact⟨c,w,e1,gH e2 fun o e=>X.slot _ o e (B.fr.bC c (cA e1)),e3.mono E⟩
 ·obtain⟨n1,o,e⟩:=B.fm.bC.2 y c hc
  obtain⟨sl,q⟩:=X.slot c o e n1;exact⟨ku e n1,_,q⟩
 ·obtain⟨o,e,_⟩:=B.fr.kind b mb
  exact ku e (B.fr.bC b mb)
 ·obtain⟨o,e,r1,r2⟩:=B.fr.kind b mb
  obtain⟨sl,q⟩:=X.slot b o e (B.fr.bC b mb);exact⟨_,q,fun z=>r1 (i5.mp z),r2⟩
 ·obtain⟨v,hc⟩:=(B.fr.cell y c e).2
  exact⟨v,gH hc fun o e'=>X.slot _ o e' (B.fr.bC c (cA e))⟩
theorem u9.c(hf:env.frame=some env.locals)(hn:∀b∈own env,b∉ρ)(X:u9 (lb (env::outer)) s ρ s' aF):eh env outer s ρ s' aF:=
 ⟨X.pre,X.fresh,fun b o e n1 n2 n3=>X.keep b o e n1 fun m=>by
  rw[mY hf] at m;exact(List.mem_cons.mp m).elim (fun q=>n2 (q▸aI)) n3,fun b o e n1 j=>X.slot b o e n1,fun b m o e=>let ⟨sl,q⟩:=X.slot b o e (hn b m);⟨_,q⟩,X.os,X.gens⟩
def k9(G:Ctx)(rc:RC)(nm:List Str)(sc:List (Str×NameKind))(n:Nat)(p:Expr)(e:Sv.E):Prop:=
 ∀{env:Env}{A:Around}{outer:List Env}{ρ N:List Addr}{s:Shared}{lc:Lc}{st st':St}{v:AV}{b:Bool}(E:Value→Shared→Prop),Bd G nm sc env ρ N st lc s→iZ G n A→vh G A env outer ρ s.heap →
  aC G.tb rc lc e st=.ok v st'→truthy st' v=some b→au (model G.prog G.w) A (isTrue p env (eval p env)) (fun c s'=>c=b∧∃aF,eh env outer s ρ s' aF∧Bd G nm sc env aF N st' lc s') E s
theorem k9.aY(dQ:Cc G rc n)(hf:zb G f)(Me:SE G rc nm sc n (.Name fn p1) (.lit (.ba (.ref f))))(hp:bq ps)(hs:lr G rc nm sc n ps es)
(ht:autoParam (∀env aH,isTrue (.Call (.Name fn p1) ps [] pos) env aH=(do let v ←aH;standAt pos;holding [v] (PySem.truthy v))) Lz) :
 k9 G rc nm sc n (.Call (.Name fn p1) ps [] pos) (.aY f es Option.none Option.none):=fun {env A outer ρ N s lc st st' v b} E B hA hF he hb=>qm he R.ay fun vs af h1 he=>by
 refine K.tB ?_ (ht _ _);show au _ _ (do callWith pos (←eval (.Name fn p1) env) [] (backTo pos (starEach ps env)) []) _ _ _;refine K.bind (K.ends (Me E B.fm B.inv hA rfl) fun fv aa ρ₁ aE aw aS=>?_);obtain rfl:fv=.ref f:=aS;refine pW (by rw[hp.any];rfl) (mK hf) (cD hp (K.fQ (hs pos E (B.fm.bX aE) aw hA h1) fun vals ag ρ₂ bk aM br=>⟨aM.base,?_⟩));have eS:=aE.trans bk;have fY:=B.bX eS aM;have rQ:=hF.bX (B.loc eS);have hI:=rQ.all fY;refine K.call (dQ aM hA.call rQ.fr hI br he fun val s' aF X I' V=>?_);have lC:=fY.NP (fun b m=>let ⟨_,_,o,e,q,_⟩:=hI.mem b m;⟨o,e,q⟩) X I';exact K.of (cC I' V hb fun t=>⟨rfl,aF,(B.loc eS).c.trans ⟨X.pre,X.fresh,fun b o e n1 n2 n3=>(X.c rQ.frame fY.fr.bC).keep b o e n1 n2 n3,fun b o e n1 n2=>(X.c rQ.frame fY.fr.bC).slot b o e n1 n2,fun b m o e=>(X.c rQ.frame fY.fr.bC).live b m o e,X.os,X.gens⟩,⟨lC.fm,lC.fr,lC.inv⟩⟩)
theorem k9.not(ha:k9 G rc nm sc n x a):k9 G rc nm sc n (.UnaryOp .Not x pos) (.un .not a):=fun {env A outer ρ N s lc st st' v b} E B hA hF he ht=>by
 refine R.bE he R.ay fun x af h1 he=>?_
 obtain⟨rfl,h3⟩:=R.cq he;obtain⟨c,hc,rfl⟩:=Option.map_eq_some_iff.mp h3;cases ht;exact K.w8 (K.mono (ha E B hA hF h1 hc) (fun _ _ ⟨q,r⟩=>⟨by rw[q],r⟩) fun j j x=>x)
set_option tactic.hygienic true in
theorem k9.and(ha:H2 G rc nm sc n x a)(hb:k9 G rc nm sc n y b):k9 G rc nm sc n (.BoolOp .And [x,y] pos) (.and a b):=fun {env A outer ρ N s lc st st' v c} E B hA hF he ht=>by
 refine R.bE he R.ay fun u af h1 he=>?_
 refine K.t9 (K.fO ?_);split at he
 ·rename_i hu
  refine K.eF (ha E B.fm B.inv hA h1 hu) fun d aa q ρ₁ X aw=>?_
  subst q;refine K.fO (K.mono (hb E (B.bX X aw) hA (hF.bX (B.loc X)) he ht) (fun d ag ⟨q,ρ₂,Y,fY⟩=>?_) fun j j x=>x);subst q;have Z:∃aF,eh env outer s ρ ag aF∧Bd G nm sc env aF N st' lc ag:=⟨ρ₂,(B.loc X).c.trans Y,fY⟩;cases d with
  |true=>exact K.u7 ⟨rfl,Z⟩
  |false=>exact⟨rfl,Z⟩
 ·rename_i hu
  cases (he);rw[hu] at ht;cases (ht);refine K.eF (ha E B.fm B.inv hA h1 hu) fun d aa q ρ₁ X aw=>?_
  subst q;exact⟨rfl,ρ₁,(B.loc X).c,B.bX X aw⟩
 ·cases (he)
theorem xf.ite(hc:k9 G rc nm sc n p e)(ha:gY G rc nm sc n ps es)(hb:gY G rc nm sc n qs fs):xf G rc nm sc n (.If p ps qs pos) (.ite e es fs):=fun {env A outer ρ N s lc aK st st' fl} E B hA hF he=>by
 refine R.xE (lc:=lc) he Sv.X.ay fun v af h1 he=>?_
 rw[exec_If];cases q:truthy af v with
 |none=>rw[q] at he;cases he
 |some b=>
  rw[q] at he;refine K.bind (K.standAt (K.bind (K.mono (hc E B hA hF h1 q) (fun c aa ⟨yt,ρ₁,X,bW⟩=>?_) fun j j x=>x)));subst yt;cases c with
  |true=>exact K.mono (ha E bW hA (hF.yo X) he) (fun j j h=>h.after X) fun j j x=>x
  |false=>exact K.mono (hb E bW hA (hF.yo X) he) (fun j j h=>h.after X) fun j j x=>x
section
set_option backward.match.sparseCases true
structure jx(x:Str):Prop where
 d:(x==("__debug__":Str))=false
 c:(x==("__classdict__":Str))=false
theorem SE.l(hi:nm[i]?=some x)(hk:sc.lookup x=some .local)(hp:jx x):SE G rc nm sc n (.Name x pos) (.var i):=SE.var hi hk (.inl rfl) hp.d hp.c
theorem SE.cl(hi:nm[i]?=some x)(hk:sc.lookup x=some .cell)(hp:jx x):SE G rc nm sc n (.Name x pos) (.var i):=SE.var hi hk (.inr (.inl rfl)) hp.d hp.c
theorem SE.md(hS:cg G)(hm:G.mg x=some (.ref a))(hk:sc.lookup x=some .globalImplicit)(hp:jx x):SE G rc nm sc n (.Name x pos) (.lit (.ba (.ref a))):=SE.glob (v:=.ba (.ref a)) (val:=.ref a) hS hk (fun j j j=>rfl) (.inl hm) hp.d
theorem SE.qT(hS:cg G)(hm:∃t,G.mg x=some (.int i t))(hk:sc.lookup x=some .globalImplicit)(hp:jx x):SE G rc nm sc n (.Name x pos) (.lit (.int i)):=let ⟨t,hm⟩:=hm;SE.glob (v:=.int i) (val:=.int i t) hS hk (fun j j j=>⟨_,rfl⟩) (.inl hm) hp.d
theorem SE.Af(hS:cg G)(hm:G.mg x=Option.none∧G.mb x=some v)(hk:sc.lookup x=some .globalImplicit)(hp:jx x):SE G rc nm sc n (.Name x pos) (.lit (.ba v)):=SE.glob (v:=.ba v) (val:=v) hS hk (fun j j j=>rfl) (.inr hm) hp.d
theorem cJ.l(hi:nm[i]?=some x)(hn:nm.Nodup)(hk:sc.lookup x=some .local):cJ nm sc i x:=⟨hi,hn,_,hk,.inl rfl⟩
theorem cJ.c(hi:nm[i]?=some x)(hn:nm.Nodup)(hk:sc.lookup x=some .cell):cJ nm sc i x:=⟨hi,hn,_,hk,.inr rfl⟩
theorem cB.nil:cB nm sc [] []:=⟨rfl,fun j j j h j=>by simp at h⟩
theorem cB.cons(h:cJ nm sc i x)(hs:cB nm sc is xs):cB nm sc (i::is) (x::xs):=
 ⟨by simp[hs.len],fun j i' x' h1 h2=>by
  cases j with
  |zero=>simp at h1 h2;subst h1;subst h2;exact h
  |succ j=>simp at h1 h2;exact hs.ok j _ _ h1 h2⟩
noncomputable def E.no:Sv.E:=.un .neg (.lit .none)
noncomputable def Ss.no:Ss:=.cons (.expr E.no) .nil
theorem mL.no:mL G rc nm sc n p Ss.no:=fun {env A ρ N s lc aK st st' fl} E B hA he=>by cases he
theorem kO.name:kO G A env x (assign (.Name x pos) env):=fun h=>wpAny_assign_Name h
theorem BL(j:Nat)(z:Str)(t:Value→Sem Unit)(h1:[x,y][j]?=some z)(h2:((assignEach [.Name x p,.Name y q] env).map (·.2))[j]?=some t):kO G A env z t:=by
 cases j with
 |zero=>cases h1;cases h2;exact kO.name
 |succ j=>cases j with
  |zero=>cases h1;cases h2;exact kO.name
  |succ j=>cases h1
theorem Ih(j:Nat)(u:Str)(t:Value→Sem Unit)(h1:[x,y,z][j]?=some u)(h2:((assignEach [.Name x p,.Name y q,.Name z r] env).map (·.2))[j]?=some t):kO G A env u t:=by
 cases j with
 |zero=>cases h1;cases h2;exact kO.name
 |succ j=>exact BL j u t h1 h2
theorem SS.Bg(hx:G.exc=Option.none)(hN:cB nm sc [i,j] [x,y])(h:SE G rc nm sc n p e)
(hs:∀env,swapsWithSole [.Tuple [.Name x px,.Name y py] k cK] p pos.line env=pure false)(hw:∀env,swappedStores [.Tuple [.Name x px,.Name y py] k cK] p env=pure Option.none) :
 SS G rc nm sc n (.Assign [.Tuple [.Name x px,.Name y py] k cK] p pos) (.bA [i,j] e):=SS.bA hx hN h hs hw fun A env=>⟨rfl,rfl,BL⟩
theorem SS.AI(hx:G.exc=Option.none)(hN:cB nm sc [i,j,l] [x,y,z])(h:SE G rc nm sc n p e)
(hs:∀env,swapsWithSole [.Tuple [.Name x px,.Name y py,.Name z pz] k cK] p pos.line env=pure false)(hw:∀env,swappedStores [.Tuple [.Name x px,.Name y py,.Name z pz] k cK] p env=pure Option.none) :
 SS G rc nm sc n (.Assign [.Tuple [.Name x px,.Name y py,.Name z pz] k cK] p pos) (.bA [i,j,l] e):=SS.bA hx hN h hs hw fun A env=>⟨rfl,rfl,Ih⟩
theorem SS.C8:SS G rc nm sc n p (.raise k):=fun {env A ρ N s lc aK st st' fl} E B hA he=>by cases he
theorem zN{names ns:List Str}{vs:List Expr}{L:Nat}{e:Sem (Option (List Str))}(hn:names=ns)(h1:(ns.length != L||ns.eraseDups.length != ns.length)=false)(h4:vs.all (foldedForSure 8)=false)(h5:vs.all (constantsAlone 8)=false) :
  (if (names.length != L||names.eraseDups.length != names.length)=true then pure none else if vs.all (foldedForSure 8)=true then pure none else if vs.all (constantsAlone 8)=true then e else pure (some names))=(pure (some ns):Sem _):=by
 rw[hn,if_neg (by rw[h1];decide),if_neg (by rw[h4];decide),if_neg (by rw[h5];decide)]
theorem J9(ha:F a=some x)(hl:l.filterMap F=m):(a::l).filterMap F=x::m:=by rw[List.filterMap_cons,ha,hl]
theorem sA{o:Option NameKind}{a b:Nat}{x:Str}(h:o=some .local)(e:(a==b)=true):(if (o==some .local&&a==b)=true then some x else none)=some x:=if_pos (by rw[h,e];rfl)
theorem IW{x y:Str}{px py cK p2:Pos}{k k2:Nat}{v1 v2:Expr}(hx:sc.lookup x=some .local)(hy:sc.lookup y=some .local)(h1:([v1,v2].any fun|.Starred ..=>true|_=>false)=false)(h2:(py.line==px.line)=true)(h3:(y==x)=false)(h4:[v1,v2].all (foldedForSure 8)=false)(h5:[v1,v2].all (constantsAlone 8)=false)
  (env:Env) (hk:env.scope.kind=.function) (hl:∀x,sc.lookup x=some .local→env.kindOf x=some .local):swappedStores [.Tuple [.Name x px,.Name y py] k cK] (.Tuple [v1,v2] k2 p2) env=pure (some [x,y]):=by
 haveI hb:(env.blockKind != .function)=false:=by unfold Env.blockKind;rw[hk];rfl
 haveI Pp:=h3;haveI e1:env.kindOf x=some .local:=hl x hx;haveI e2:env.kindOf y=some .local:=hl y hy;haveI f2:([x,y].eraseDups.length != [x,y].length)=false:=by
  simp[List.eraseDups,List.eraseDupsBy,List.eraseDupsBy.loop,Pp]
 haveI c1:(!(2==2||2==3)||([v1,v2].length != 2)||env.blockKind != .function)=false:=by rw[hb];rfl
 show(if (!(2==2||2==3)||([v1,v2].length != 2)||env.blockKind != .function)=true then pure none else _)=_
 rw[if_neg (by rw[c1];decide)];refine(if_neg (fun q=>Bool.noConfusion (h1.symm.trans q))).trans ?_;exact zN (J9 (sA e1 (beq_self_eq_true _)) (J9 (sA e2 h2) rfl)) f2 h4 h5
theorem J2{x y z:Str}{px py pz cK p2:Pos}{k k2:Nat}{v1 v2 v3:Expr}(hx:sc.lookup x=some .local)(hy:sc.lookup y=some .local)(hz:sc.lookup z=some .local)(h1:([v1,v2,v3].any fun|.Starred ..=>true|_=>false)=false)(h2:(py.line==px.line&&pz.line==px.line)=true)(h3:((y==x)||(z==x)||(z==y))=false)(h4:[v1,v2,v3].all (foldedForSure 8)=false)(h5:[v1,v2,v3].all (constantsAlone 8)=false)
  (env:Env) (hk:env.scope.kind=.function) (hl:∀x,sc.lookup x=some .local→env.kindOf x=some .local):swappedStores [.Tuple [.Name x px,.Name y py,.Name z pz] k cK] (.Tuple [v1,v2,v3] k2 p2) env=pure (some [x,y,z]):=by
 haveI hb:(env.blockKind != .function)=false:=by unfold Env.blockKind;rw[hk];rfl
 rw[Bool.or_eq_false_iff,Bool.or_eq_false_iff] at h3;rw[Bool.and_eq_true] at h2;haveI e1:env.kindOf x=some .local:=hl x hx;haveI e2:env.kindOf y=some .local:=hl y hy;haveI e3:env.kindOf z=some .local:=hl z hz;haveI f2:([x,y,z].eraseDups.length != [x,y,z].length)=false:=by
  simp[List.eraseDups,List.eraseDupsBy,List.eraseDupsBy.loop,h3.1.1,h3.1.2,h3.2]
 haveI c1:(!(3==2||3==3)||([v1,v2,v3].length != 3)||env.blockKind != .function)=false:=by rw[hb];rfl
 show(if (!(3==2||3==3)||([v1,v2,v3].length != 3)||env.blockKind != .function)=true then pure none else _)=_
 rw[if_neg (by rw[c1];decide)];refine(if_neg (fun q=>Bool.noConfusion (h1.symm.trans q))).trans ?_;exact zN (J9 (sA e1 (beq_self_eq_true _)) (J9 (sA e2 h2.1) (J9 (sA e3 h2.2) rfl))) f2 h4 h5
end
end
end Sv
namespace Sv
open PySem PySem.W PyProof.Rows PySem.Calls
section
variable {G:Ctx}{rc:RC}{nm:List Str}{sc:List (Str×NameKind)}{n:Nat}
structure Km(G:Ctx)(C:Addr)(name:Str):Prop where
 mc:∃mc,readsIn G.K C mc=true∧findIn G.K mc name=some none∧findIn G.K (.ref C) name=some (some (.type "int"))∧findIn G.K (.type "type") "__get__"=some none
 get:specialIn G.K (.ref C) "__getattribute__"=some (some (.builtin "type.__getattribute__"))
theorem SE.oP{c x:Expr}{name:Str}{cF pos:Pos}{a:Sv.E}{C:Addr}(hS:cg G)(hp:Km G C name)(hc:SE G rc nm sc n c (.lit (.ba (.ref C))))(hb:∀env aH,attributeBase c name env aH=aH)(hl:(cF.endLine==pos.line)=true)
  (ha:SE G rc nm sc n x a) (hx:bq [x]):SE G rc nm sc n (.Call (.Attribute c name cF) [x] [] pos) (.bcall .intOf (.cons a .nil)):=fun {env A ρ N s lc st st' v} E F I hA he=>by
 refine R.bE he R.ay fun vs af h1 he=>?_
 refine R.bE h1 R.ay fun y aU h2 h1=>?_
 cases (h1);refine tv hb hl ?_ fun pl=>K.ends (hc E F I hA rfl) fun ov aa ρ₁ aE aw aS=>⟨fun fx s'=>fx=(.type "int",[])∧s'={ aa with toks:=aa.toks+1 },?_,fun fx s' AM=>?_⟩
 ·unfold methodCallForm
  haveI:=hx.any pos env
  rw[List.any_eq_false] at this;rw[Bool.and_eq_true,Bool.and_eq_true];refine⟨⟨?_,rfl⟩,by rfl⟩;rw[List.all_eq_true];intro y hy;simpa using this y hy
 ·obtain rfl:ov=.ref C:=aS
  obtain⟨mc,q1,q2,q3,q4⟩:=hp.mc;exact method_cls (aw.sG hS) hp.get (D7 (aw.sG hS) q1 q2 q3 q4 ⟨rfl,rfl⟩)
 ·obtain⟨rfl,rfl⟩:=AM
  refine wi hx ?_;haveI iU:∀env,starEach [x] env=(false,eval x env)::starEach [] env:=by cases hx with|cons e _=>exact e
  refine K.iP (K.ends (ha E (F.bX (aE.toks (t:=aa.toks+1))) aw hA h2) fun xv ag ρ₂ bk aM br=>K.j8 ?_) (iU env);cases y<;>try (cases (he);done)
  cases (he);obtain⟨t,rfl⟩:=br;exact K.of (call_int_int (Ends.after ((aE.toks (t:=aa.toks+1)).trans bk) (Ends.here (t:=ag.toks) aM ⟨_,rfl⟩)))
end
end Sv
namespace Sv
open PySem PySem.W PyProof.Rows PySem.Calls PySem.Builtin
section
noncomputable abbrev Sc:=List (Str×NameKind)
structure Tb where
 md:List (Str×Addr)
 qT:List (Str×Int)
 aA:List (Str×Addr)
 slot:List (Str×Nat)
 aQ:List (Str×Nat)
 oP:List Addr
 B7:List (Addr×Bool)
 kw:List (Addr×Str×Nat)
 fns:List (Str×Addr)
 jZ:Addr→Bool
 B:Str
 rz:List Str
 nd:List (Str×Nat)
noncomputable def Mw:Str→Option BF:=fun x=>([("len",.len),("min",.min2),("sum",.u4),("all",.vz),("sorted",.sorted),("chr",.chr),("bytes",.bytes),("bytearray",.bytearray),("tuple",.tuple)]:List (Str×BF)).lookup x
noncomputable def Iz:BF→Value
 |.len=>.builtin "len"
 |.min2=>.builtin "min"
 |.u4=>.builtin "sum"
 |.vz=>.builtin "all"
 |.sorted=>.builtin "sorted"
 |.chr=>.builtin "chr"
 |.bytes=>.type "bytes"
 |.bytearray=>.type "bytearray"
 |.tuple=>.type "tuple"
 |_=>.none
noncomputable def NW:BF→Bool
 |.u4|.vz|.sorted|.bytes=>true
 |_=>false
noncomputable def rP:List (Str×Value):=[("len",.builtin "len"),("min",.builtin "min"),("sum",.builtin "sum"),("all",.builtin "all"),("sorted",.builtin "sorted"),("chr",.builtin "chr"),("isinstance",.builtin "isinstance"),
 ("bytes",.type "bytes"),("bytearray",.type "bytearray"),("tuple",.type "tuple"),("str",.type "str"),("range",.type "range"),("reversed",.type "reversed")]
noncomputable def IM(x:Str):Option BM:=(gd (x=="append") (some .append)).or ((gd (x=="get") (some .get)).or ((gd (x=="setdefault") (some .setdefault)).or (gd (x=="encode") (some .encode))))
structure FQ(G:Ctx)(T:Tb):Prop where
 st:cg G
 ex:wB G
 Fe:vC G
 pk:sE G
 Hs:∀f,T.jZ f=false→G.tb.jZ f=false
 LK:G.tb.jZ G.tb.init=false
 gB:G.mg T.B=some (.ref G.B)
 md:∀x a,T.md.lookup x=some a→G.mg x=some (.ref a)
 qT:∀x i,T.qT.lookup x=some i→∃t,G.mg x=some (.int i t)
 bn:∀x v,rP.lookup x=some v→G.mg x=none∧G.mb x=some v
 aA:∀x a,T.aA.lookup x=some a→lz G x a
 slot:∀x i,T.slot.lookup x=some i→lD G x i
 aQ:∀x i,T.aQ.lookup x=some i→mE G x i
 oP:∀C,T.oP.contains C=true→Km G C "py_type"
 B7:∀a b,T.B7.lookup a=some b→gw G (.ref a) "str" b∧gw G (.ref a) "bytes" (!b)
 NH:gw G (.type "str") "str" true∧gw G (.type "str") "bytes" false
 fn:∀x f,T.fns.lookup x=some f→G.mg x=some (.ref f)∧zb G f
 kw:∀f x i,T.kw.lookup f=some (x,i)→G.pn f i=some x
theorem FQ.x{G:Ctx}{T:Tb}(h:FQ G T)(y:Option ml):FQ (G.x y) T:=
 ⟨h.st.x y,⟨h.ex.1⟩,⟨h.Fe.keep,h.Fe.makes,h.Fe.init,h.Fe.typ,h.Fe.small⟩,⟨fun e k=>h.pk.ok e fun ch c fs t sl p=>k ch c fs t sl ⟨p.ho,p.hf,p.hp,p.each⟩⟩,h.Hs,h.LK,h.gB,h.md,h.qT,h.bn,fun a x e=>⟨(h.aA a x e).find,(h.aA a x e).typ,(h.aA a x e).fn⟩,
  fun a x e=>⟨(h.slot a x e).ex,(h.slot a x e).small⟩,fun a x e=>h.aQ a x e,fun a e=>⟨(h.oP a e).mc,(h.oP a e).get⟩,h.B7,h.NH,h.fn,h.kw⟩
variable {G:Ctx}{rc:RC}{nm:List Str}{n:Nat}{T:Tb}{sc:Sc}
noncomputable def i9:Expr→Bool
 |.Starred _ _=>false
 |_=>true
theorem cW(h:i9 p=true)(ps:List Expr)(env:Env):starEach (p::ps) env=(false,eval p env)::starEach ps env:=by
 cases p<;>first|rfl|cases h
noncomputable def eT:Expr→Bool
 |.ListComp ..|.SetComp ..|.DictComp ..|.Set ..=>false
 |_=>true
theorem df(h:eT p=true)(t:Option Expr)(l:Nat)(env:Env)(v:Value):swapsWith p t l env=pure false∧foldedSetIterable p env v=pure v:=by
 cases p<;>first|exact⟨rfl,rfl⟩|cases h
noncomputable def HZ:Expr→Bool
 |.Name ..|.Attribute ..|.Subscript ..|.Constant ..=>true
 |_=>false
theorem si(h:HZ p=true)(x:Str)(env:Env)(aH:Sem Value):attributeBase p x env aH=aH:=by
 cases p<;>first|rfl|cases h
noncomputable def qY(x:Str):Bool:=!(x==("__debug__":Str))&&!(x==("__classdict__":Str))
theorem dE(h:qY x=true):jx x:=aB h fun h1 h2=>⟨by simpa using h1,by simpa using h2⟩
noncomputable def vF(x:Str):List Str→Option Nat
 |[]=>none
 |y::l=>if y==x then some 0 else (vF x l).map (·+1)
theorem gL:∀{l:List Str}{i:Nat},vF x l=some i→l[i]?=some x
 |[],_,h=>by cases h
 |y::l,i,h=>by
  unfold vF at h
  by_cases q:(y==x)=true
  ·rw[if_pos q] at h;cases h;rw[cj q];rfl
  ·rw[if_neg q] at h;exact mO h fun j e q=>by subst q;exact gL (l:=l) e
noncomputable def IF(sc:Sc)(x:Str):Bool:=(sc.lookup x==some .globalImplicit)&&qY x
theorem m7{x:Str}{P:Prop}(h:IF sc x=true)(k:sc.lookup x=some .globalImplicit→jx x→P):P:=aB h fun h1 h2=>k (cj h1) (dE h2)
noncomputable def zo(T:Tb)(x:Str):Option E:=((T.md.lookup x).map fun a=>.lit (.ba (.ref a))).or (((T.qT.lookup x).map fun a=>.lit (.int a)).or ((rP.lookup x).map fun a=>.lit (.ba a)))
theorem yh(Q:FQ G T)(h:zo T x=some e)(h1:sc.lookup x=some .globalImplicit)(h2:jx x):SB G rc nm sc n (.Name x pos) e:=
 oO h (fun h=>mO h fun a e q=>q▸SE.both (SE.md Q.st (Q.md x a e) h1 h2)) fun h=>oO h (fun h=>mO h fun a e q=>q▸SE.both (SE.qT Q.st (Q.qT x a e) h1 h2)) fun h=>mO h fun a e q=>q▸SE.both (SE.Af Q.st (Q.bn x a e) h1 h2)
noncomputable def Bu(T:Tb)(nm:List Str)(sc:Sc)(x:Str):Option E:=gd (qY x) ((sc.lookup x).bind fun k=>if k==.globalImplicit then zo T x else gd (k != .globalExplicit) ((vF x nm).map .var))
theorem yG(Q:FQ G T)(h:Bu T nm sc x=some e):SB G rc nm sc n (.Name x pos) e:=
 gO h fun h1 h=>bO h fun k e1 h=>by
  by_cases q:(k==.globalImplicit)=true
  ·rw[if_pos q] at h;exact yh Q h (cj q▸e1) (dE h1)
  ·rw[if_neg q] at h
   refine gO h fun h2 h=>mO h fun i e2 q2=>q2▸SE.both (SE.var (gL e2) e1 ?_ (dE h1).d (dE h1).c)
   cases k<;>first|exact .inl rfl|exact .inr (.inl rfl)|exact .inr (.inr rfl)|exact absurd rfl q|cases h2
noncomputable def wG:Const→Option E
 |.none=>some (.lit .none)
 |.bool b=>some (.lit (.bool b))
 |.int i=>some (.lit (.int i))
 |.str s=>some (.lit (.str s))
 |.bytes b=>some (.lit (.bytes b))
 |_=>none
theorem uF(h:wG c=some e):SB G rc nm sc n (.Constant c k pos) e:=by
 cases c<;>first|(cases h;done)|cases h
 ·exact SE.both (SE.none _ _)
 ·exact SE.both (SE.bool _ _ _)
 ·exact SE.both (SE.int _ _ _)
 ·exact SE.both (SE.str _ _ _)
 ·exact SE.both (SE.bytes _ _ _)
noncomputable abbrev Tr:=Expr→Option E
abbrev dZ(G:Ctx)(rc:RC)(nm:List Str)(sc:Sc)(n:Nat)(r:Tr):Prop:=∀p e,r p=some e→SB G rc nm sc n p e
noncomputable def oJ(r:Tr):List Expr→Option Es
 |[]=>some .nil
 |p::ps=>gd (i9 p) ((r p).bind fun e=>(oJ r ps).map fun es=>.cons e es)
structure Il(G:Ctx)(rc:RC)(nm:List Str)(sc:Sc)(n:Nat)(ps:List Expr)(es:Es):Prop where
 h:lr G rc nm sc n ps es
 s:bq ps
theorem ef(H:dZ G rc nm sc n r):∀{ps:List Expr}{es:Es},oJ r ps=some es→Il G rc nm sc n ps es
 |[],_,h=>cQ h▸⟨lr.nil,.nil⟩
 |p::ps,_,h=>gO h fun h1 h=>bO h fun e h2 h=>mO h fun es h3 q=>q▸⟨lr.cons (H _ _ h2).val (ef H h3).h (cW h1 ps),.cons (cW h1 ps) (ef H h3).s⟩
noncomputable def Df(r:Tr):Option Expr→Option (Option E)
 |none=>some none
 |some p=>(r p).map some
theorem r9(H:dZ G rc nm sc n r)(h:Df r p=some e):SO G rc nm sc n p e:=by
 cases p with
 |none=>exact cQ h▸trivial
 |some p=>exact mO h fun a e q=>q▸(H _ _ e).val
noncomputable def CC(r:Tr)(isAnd:Bool):List Expr→Option E
 |[]=>none
 |p::ps=>if ps.isEmpty then r p else (r p).bind fun a=>(CC r isAnd ps).map fun b=>if isAnd then .and a b else .or a b
theorem qO(H:dZ G rc nm sc n r):∀{ps:List Expr}{e:E},CC r isAnd ps=some e→y3 G rc nm sc n isAnd ps e
 |[],_,h=>by cases h
 |p::ps,e,h=>by
  cases ps with
  |nil=>exact .one (H _ _ h)
  |cons q ps=>exact bO (show((r p).bind fun a=>(CC r isAnd (q::ps)).map fun b=>if isAnd then .and a b else .or a b)=some e from h) fun a h1 h=>mO h fun b h2 q=>q▸.cons (H _ _ h1) (qO H h2)
noncomputable def Aj(r:Tr)(op:BoolOp)(ps:List Expr):Option E:=CC r (op==.And) ps
theorem yp(H:dZ G rc nm sc n r)(h:Aj r op ps=some e):SB G rc nm sc n (.BoolOp op ps pos) e:=by
 cases op
 ·exact y3.all (isAnd:=true) (qO H h)
 ·exact y3.all (isAnd:=false) (qO H h)
noncomputable def l1{α:Type}(l:List α):Option α:=gd (l.length==1) l.head?
theorem qv{α:Type}{l:List α}{a:α}{P:Prop}(h:l1 l=some a)(k:l=[a]→P):P:=
 gO h fun h1 h=>k ((List.length_eq_one_iff.mp (cj h1)).elim fun b q=>by rw[q] at h ⊢;rw[cQ h])
noncomputable def l2{α:Type}(l:List α):Option (α×α):=l.head?.bind fun a=>(l1 l.tail).map fun b=>(a,b)
theorem Bs{α:Type}{l:List α}{a:α×α}{P:Prop}(h:l2 l=some a)(k:l=[a.1,a.2]→P):P:=
 bO h fun x e h=>mO h fun b e2 q=>qv e2 fun e2=>k (by rw[←q,←e2];exact(List.head?_eq_some_iff.mp e).elim fun t q=>by rw[q];rfl)
noncomputable def Eo(r:Tr)(a:E)(os:List CmpOp)(ps:List Expr):Option E:=((l1 os).bind fun o=>(l1 ps).bind fun p=>gd (!behindInMarks o p) ((kA o).bind fun k=>(r p).map fun b=>.cmp k a b)).or
 ((l2 os).bind fun o=>(l2 ps).bind fun p=>gd (!behindInMarks o.2 p.2) ((kA o.1).bind fun k=>(r p.1).bind fun b=>(kA o.2).bind fun k2=>(r p.2).map fun c=>.tf k k2 a b c))
theorem Ab(Q:FQ G T){r:Tr}(H:dZ G rc nm sc n r){l:Expr}{a e:E}{os:List CmpOp}{ps:List Expr}{pos:Pos}(ha:SB G rc nm sc n l a)(h:Eo r a os ps=some e):SB G rc nm sc n (.Compare l os ps pos) e:=
 oO h (fun h=>bO h fun o e1 h=>bO h fun p e2 h=>qv e1 fun q1=>qv e2 fun q2=>gO h fun h1 h=>bO h fun k h2 h=>mO h fun b h3 z=>by
   rw[q1,q2,←z];exact SB.cmp Q.st h2 (by simpa using h1) ha.val (H _ _ h3).val)
  fun h=>bO h fun o e1 h=>bO h fun p e2 h=>Bs e1 fun q1=>Bs e2 fun q2=>gO h fun h4 h=>bO h fun k h2 h=>bO h fun b h3 h=>bO h fun k2 h5 h=>mO h fun c h6 z=>by
   rw[q1,q2,←z];exact H2.tf Q.st h2 h5 (by simpa[lastMarks] using h4) ha.val (H _ _ h3).val (H _ _ h6).val
end
section
variable {G:Ctx}{rc:RC}{nm:List Str}{n:Nat}{T:Tb}{sc:Sc}
theorem SB.ite{c x y:Expr}{pos:Pos}{ce a b:Sv.E}(hc:SB G rc nm sc n c ce)(ha:SB G rc nm sc n x a)(hb:SB G rc nm sc n y b):SB G rc nm sc n (.IfExp c x y pos) (.ite ce a b) where
 val:=SE.ite hc ha.val hb.val
 oy:=fun {env A ρ N s lc st st' v t} E F I hA he ht=>by
  obtain⟨z,af,h1,he⟩:=R.mH he;rw[arm_isTrue_IfExp];cases q:truthy af z with
  |none=>rw[q] at he;cases he
  |some u=>
   rw[q] at he;refine K.bind (K.mono (hc.oy E F I hA h1 q) (fun w aa ⟨e,ρ₁,aE,aw⟩=>?_) fun j j x=>x);subst e;cases w with
   |true=>exact K.mono (ha.oy E (F.bX aE) aw hA he ht) (fun j j h=>h.after aE) fun j j x=>x
   |false=>exact K.mono (hb.oy E (F.bX aE) aw hA he ht) (fun j j h=>h.after aE) fun j j x=>x
noncomputable def iM:Expr→Option Str
 |.Name x _=>some x
 |_=>none
theorem eP{p:Expr}{x:Str}{P:Prop}(h:iM p=some x)(k:∀pos,p=.Name x pos→P):P:=by
 haveI:match iM p with
  |some x=>∃pos,p=.Name x pos
  |none=>True:=by cases p<;>first|exact trivial|exact⟨_,rfl⟩
 rw[h] at this;exact this.elim k
noncomputable def uJ:Expr→Option (Expr×Str×Pos)
 |.Attribute o x pos=>some (o,x,pos)
 |_=>none
theorem yQ(h:uJ p=some x):p=.Attribute x.1 x.2.1 x.2.2:=by
 haveI:match uJ p with
  |some x=>p=.Attribute x.1 x.2.1 x.2.2
  |none=>True:=by cases p<;>first|exact trivial|exact rfl
 rw[h] at this;exact this
noncomputable def rN:Expr→Option (Expr×List Expr×List Keyword×Pos)
 |.Call f l k pos=>some (f,l,k,pos)
 |_=>none
theorem qq(h:rN p=some x):p=.Call x.1 x.2.1 x.2.2.1 x.2.2.2:=by
 haveI:match rN p with
  |some x=>p=.Call x.1 x.2.1 x.2.2.1 x.2.2.2
  |none=>True:=by cases p<;>first|exact trivial|exact rfl
 rw[h] at this;exact this
noncomputable def constOf:Expr→Option Const
 |.Constant c _ _=>some c
 |_=>none
theorem oj(h:constOf p=some x):∃k pos,p=.Constant x k pos:=by
 haveI:match constOf p with
  |some x=>∃k pos,p=.Constant x k pos
  |none=>True:=by cases p<;>first|exact trivial|exact⟨_,_,rfl⟩
 rw[h] at this;exact this
noncomputable def listOf:Expr→Option (List Expr)
 |.List l _=>some l
 |_=>none
theorem qB(h:listOf p=some x):∃pos,p=.List x pos:=by
 haveI:match listOf p with
  |some x=>∃pos,p=.List x pos
  |none=>True:=by cases p<;>first|exact trivial|exact⟨_,rfl⟩
 rw[h] at this;exact this
noncomputable def C4(p:Expr):Bool:=(listOf p).any fun l=>l.length==1&&l.all fun q=>constOf q==some (.int 0)
theorem HK(h:(l.length==1)=true)(h2:l.all f=true):∃a,l=[a]∧f a=true:=by
 obtain⟨a,rfl⟩:=List.length_eq_one_iff.mp (cj h);exact⟨a,rfl,List.all_eq_true.mp h2 a List.mem_cons_self⟩
theorem Cr{p:Expr}{P:Prop}(h:C4 p=true)(k:∀m p1 p2,p=.List [.Constant (.int 0) m p2] p1→P):P:=
 ez h fun l e h=>(HK (aL h) (aR h)).elim fun a ⟨q1,q2⟩=>(qB e).elim fun p1 q3=>(oj (cj q2)).elim fun m ⟨p2,q4⟩=>k m p1 p2 (by rw[q3,q1,q4])
noncomputable def LA(r:Tr)(p:Expr):Option E:=if (listOf p).any (·.isEmpty) then some (.list .nil) else r p
noncomputable def sliceOf:Expr→Option (Option Expr×Option Expr×Option Expr)
 |.Slice a b c _=>some (a,b,c)
 |_=>none
theorem nq(p:Expr):match sliceOf p with
 |some x=>∃pos,p=.Slice x.1 x.2.1 x.2.2 pos
 |none=>∀o x,subscripted p false o x=operate [o,x] (getItem o x):=by
 cases p<;>first|exact fun j j=>rfl|exact⟨_,rfl⟩
noncomputable def pL(p:Expr):Option (Str×List Expr):=(rN p).bind fun c=>gd c.2.2.1.isEmpty ((iM c.1).map fun x=>(x,c.2.1))
theorem kI{p:Expr}{c:Str×List Expr}{P:Prop}(h:pL p=some c)(k:∀p1 pos,p=.Call (.Name c.1 p1) c.2 [] pos→P):P:=
 bO h fun d e1 h=>gO h fun h1 h=>mO h fun x e2 q=>eP e2 fun p1 q2=>by
  subst q;exact k p1 d.2.2.2 (by rw[qq e1,q2,List.isEmpty_iff.mp h1])
noncomputable def vW(p:Expr):Option ((Expr×Str)×List Expr×List Keyword):=(rN p).bind fun c=>(uJ c.1).bind fun a=>gd (HZ a.1&&a.2.2.endLine==c.2.2.2.line) (some ((a.1,a.2.1),c.2.1,c.2.2.1))
theorem sI{p:Expr}{c:(Expr×Str)×List Expr×List Keyword}{P:Prop}(h:vW p=some c)(k:∀cF pos,(∀x env aH,attributeBase c.1.1 x env aH=aH)→(cF.endLine==pos.line)=true→p=.Call (.Attribute c.1.1 c.1.2 cF) c.2.1 c.2.2 pos→P):P:=
 bO h fun d e1 h=>bO h fun a e2 h=>gO h fun h1 h=>aB h1 fun h1 h2=>by
  cases (h);exact k a.2.2 d.2.2.2 (si h1) h2 (by rw[qq e1,yQ e2])
noncomputable def Jo:E→Option AV
 |.lit v=>some v
 |_=>Option.none
theorem DO(h:Jo e=some v):e=.lit v:=by
 cases e<;>first|(cases h;done)|(cases h;rfl)
noncomputable def uW(e:E):Option Value:=(Jo e).bind AV.Bt
theorem qi(h:uW e=some v):e=.lit (.ba v):=bO h fun a h1 h2=>by rw[DO h1,AV.tW h2]
noncomputable def HT(T:Tb)(v:Value):Option Bool:=if v==.type "str" then some true else (refOf v).bind fun a=>T.B7.lookup a
theorem CB(Q:FQ G T){v:Value}{b:Bool}{P:Prop}(h:HT T v=some b)(k:gw G v "str" b→gw G v "bytes" (!b)→P):P:=by
 unfold HT at h
 by_cases q:(v==.type "str")=true
 ·rw[if_pos q] at h;cases (h);rw[cj q] at k;exact k Q.NH.1 Q.NH.2
 ·rw[if_neg q] at h
  exact bO h fun a e h=>by rw[iA e] at k;exact k (Q.B7 a b h).1 (Q.B7 a b h).2
noncomputable def EG(T:Tb)(r:Tr)(l:List Expr):Option E:=(l2 l).bind fun c=>gd (i9 c.1&&i9 c.2) ((r c.1).bind fun x=>(r c.2).bind fun y=>(uW y).bind fun v=>(HT T v).map fun s=>.bcall (uK s) (.cons x .nil))
theorem zJ(Q:FQ G T){r:Tr}(H:dZ G rc nm sc n r){p1 pos:Pos}{l:List Expr}{e:E}(hg:sc.lookup (Str.ofString "isinstance")=some .globalImplicit)(hp:jx (Str.ofString "isinstance"))(h:EG T r l=some e):SB G rc nm sc n (.Call (.Name (Str.ofString "isinstance") p1) l [] pos) e:=
 bO h fun c e0 h=>Bs e0 fun e0=>gO h fun h1 h=>aB h1 fun h1 h2=>bO h fun x e1 h=>bO h fun y e2 h=>bO h fun v e3 h=>mO h fun s e4 q=>CB Q e4 fun i1 i2=>
   e0▸q▸SE.both (SE.B7 Q.st i1 i2 (SE.Af Q.st (Q.bn _ _ rfl) hg hp) (fun j=>rfl) (.cons (cW h1 _) (.cons (cW h2 _) .nil)) (H _ _ e1).val (show SE G rc nm sc n c.2 (.lit (.ba v)) from qi e3▸(H _ _ e2).val))
theorem AH(HX:b=true→G.exc=Option.none)(hS:cg G)(h:(b||!NW f)=true)(h2:Iz f≠.none):(∃i,Iz f=.builtin i∧cu G n (.builtin i) f)∨∃i,Iz f=.type i∧cu G n (.type i) f:=by
 have hb:NW f=true→G.exc=Option.none:=fun q=>HX (by simpa[q] using h)
 cases f
 ·exact .inl ⟨_,rfl,xi⟩
 ·exact absurd rfl h2
 ·exact .inr ⟨_,rfl,tm (hb rfl)⟩
 ·exact .inr ⟨_,rfl,mr⟩
 ·exact .inl ⟨_,rfl,xx⟩
 ·exact absurd rfl h2
 ·exact absurd rfl h2
 ·exact .inr ⟨_,rfl,te⟩
 ·exact .inl ⟨_,rfl,yN⟩
 ·exact absurd rfl h2
 ·exact .inl ⟨_,rfl,yw (hb rfl)⟩
 ·exact .inl ⟨_,rfl,yD (hb rfl)⟩
 ·exact absurd rfl h2
 ·exact .inl ⟨_,rfl,qJ hS (hb rfl)⟩
 ·exact absurd rfl h2
 ·exact absurd rfl h2
noncomputable def Md(hx:Bool)(x:Str)(es:Es):Option E:=(Mw x).bind fun f=>gd ((rP.lookup x==some (Iz f))&&(hx||!NW f)&&Iz f != .none) (some (.bcall f es))
noncomputable def wc(T:Tb)(hx:Bool)(sc:Sc)(r:Tr)(c:Str×List Expr):Option E:=gd (IF sc c.1) (if c.1==Str.ofString "isinstance" then EG T r c.2 else (oJ r c.2).bind fun es=>
 if c.1==T.B then some (.oU es) else (Md hx c.1 es).or ((T.fns.lookup c.1).bind fun f=>gd (!T.jZ f) (some (.aY f es none none))))
theorem uM(Q:FQ G T)(HX:hx=true→G.exc=Option.none)(dQ:dH G rc n)(H:dZ G rc nm sc n r)(h:wc T hx sc r c=some e):SB G rc nm sc n (.Call (.Name c.1 p1) c.2 [] pos) e:=
 gO h fun h1 h=>m7 h1 fun g1 g2=>by
  by_cases q:(c.1==Str.ofString "isinstance")=true
  ·rw[if_pos q] at h
   have q:=cj q;rw[q] at g1 g2 ⊢;exact zJ Q H g1 g2 h
  ·rw[if_neg q] at h
   refine bO h fun es e1 h=>?_
   have S:=ef H e1
   by_cases q:(c.1==T.B)=true
   ·rw[if_pos q] at h
    have q:=cj q;exact cQ h▸SE.both (SE.oU Q.st Q.Fe dQ Q.LK (SE.md Q.st (by rw[q];exact Q.gB) g1 g2) (fun j=>rfl) S.s S.h)
   ·rw[if_neg q] at h
    refine oO h (fun h=>bO h fun f e2 h=>gO h fun h1 h=>aB h1 fun h1 h3=>aB h1 fun h1 h2=>?_) fun h=>bO h fun f e2 h=>gO h fun h1 h=>
     cQ h▸SE.both (SE.aY dQ (Q.Hs f (by simpa using h1)) (Q.fn _ _ e2).2 (SE.md Q.st (Q.fn _ _ e2).1 g1 g2) S.s S.h)
    have hv:SE G rc nm sc n (.Name c.1 p1) (.lit (.ba (Iz f))):=SE.Af Q.st (Q.bn _ _ (cj h1)) g1 g2;refine(AH (n:=n) HX Q.st h2 (by simpa using h3)).elim (fun⟨i,q,hs⟩=>?_) fun⟨i,q,hs⟩=>?_
    ·rw[q] at hv;exact cQ h▸SE.both (SE.G9 hs hv (fun j=>rfl) S.s S.h)
    ·rw[q] at hv;exact cQ h▸SE.both (SE.HG hs hv (fun j=>rfl) S.s S.h)
noncomputable def Ik(T:Tb)(r:Tr)(c:(Expr×Str)×List Expr×List Keyword):Option E:=gd (c.2.2.isEmpty&&decide (c.2.1.length<30)) ((T.aA.lookup c.1.2).bind fun f=>gd (!T.jZ f) ((r c.1.1).bind fun a=>(oJ r c.2.1).map fun es=>.aA a f es none none))
theorem rg(Q:FQ G T)(dQ:dH G rc n)(H:dZ G rc nm sc n r)(hb:∀x env aH,attributeBase c.1.1 x env aH=aH)(hl:(cF.endLine==pos.line)=true)(h:Ik T r c=some e) :
 SB G rc nm sc n (.Call (.Attribute c.1.1 c.1.2 cF) c.2.1 c.2.2 pos) e∧(B9 G rc n→GB G rc nm sc n (.Call (.Attribute c.1.1 c.1.2 cF) c.2.1 c.2.2 pos) e):=
 gO h fun h1 h=>aB h1 fun h1 h2=>bO h fun f e1 h=>gO h fun h3 h=>bO h fun a e2 h=>mO h fun es e3 q=>by
  have S:=ef H e3;rw[List.isEmpty_iff.mp h1];subst q;exact⟨SE.both (SE.aA Q.st dQ (Q.Hs f (by simpa using h3)) (Q.aA _ _ e1) (hb _) hl (d6 h2) (H _ _ e2).val S.s S.h),fun qw=>GB.aA Q.st qw (Q.Hs f (by simpa using h3)) (Q.aA _ _ e1) (hb _) hl (d6 h2) (H _ _ e2).val S.s S.h⟩
theorem NG(h:ks=[w])(hx:w.arg=some x)(hl:0<l.length∧l.length<28)(S:Il G rc nm sc n l es)
(k:∀p1 ps,(p1::ps).length<28→Il G rc nm sc n (p1::ps) es→SB G rc nm sc n (.Call o (p1::ps) [⟨some x,w.value,w.pos⟩] pos) e):SB G rc nm sc n (.Call o l ks pos) e:=by
 rw[h];obtain⟨a,ke,kp⟩:=w;rw[show a=_ from hx];cases l with
 |nil=>exact absurd hl.1 (Nat.lt_irrefl 0)
 |cons p1 ps=>exact k p1 ps hl.2 S
noncomputable def Jv(T:Tb)(r:Tr)(c:(Expr×Str)×List Expr×List Keyword):Option E:=gd (decide (0<c.2.1.length∧c.2.1.length<28)) ((l1 c.2.2).bind fun w=>w.arg.bind fun x=>(T.aA.lookup c.1.2).bind fun f=>gd (!T.jZ f) ((T.kw.lookup f).bind fun k=>gd (k.1==x) ((r c.1.1).bind fun a=>(oJ r c.2.1).bind fun es=>(r w.value).map fun v=>.aA a f es none (some (k.2,v)))))
theorem Ed(Q:FQ G T)(dQ:dH G rc n)(H:dZ G rc nm sc n r)(hb:∀x env aH,attributeBase c.1.1 x env aH=aH)(hl:(cF.endLine==pos.line)=true)(h:Jv T r c=some e) :
 SB G rc nm sc n (.Call (.Attribute c.1.1 c.1.2 cF) c.2.1 c.2.2 pos) e:=
 gO h fun h2 h=>bO h fun w e0 h=>bO h fun x e6 h=>bO h fun f e1 h=>gO h fun h3 h=>bO h fun k e4 h=>gO h fun h5 h=>bO h fun a e2 h=>bO h fun es e3 h=>mO h fun v e5 q=>q ▸
  NG (qv e0 id) e6 (d6 h2) (ef H e3) fun p1 ps h2 S=>SE.both (SE.GR Q.st dQ (Q.Hs f (by simpa using h3)) (Q.aA _ _ e1) (hb _) hl h2 (cj h5▸Q.kw _ _ _ e4) (H _ _ e2).val S.s S.h (H _ _ e5).val)
noncomputable def Kw(T:Tb)(r:Tr)(c:(Expr×Str)×List Expr×List Keyword):Option E:=gd c.2.2.isEmpty ((l1 c.2.1).bind fun x=>gd (c.1.2==Str.ofString "py_type"&&i9 x) ((r c.1.1).bind fun a=>(uW a).bind fun v=>(refOf v).bind fun C=>gd (T.oP.contains C) ((r x).map fun b=>.bcall .intOf (.cons b .nil))))
theorem DK(Q:FQ G T)(H:dZ G rc nm sc n r)(hb:∀x env aH,attributeBase c.1.1 x env aH=aH)(hl:(cF.endLine==pos.line)=true)(h:Kw T r c=some e) :
 SB G rc nm sc n (.Call (.Attribute c.1.1 c.1.2 cF) c.2.1 c.2.2 pos) e:=
 gO h fun h0 h=>bO h fun x e0 h=>qv e0 fun e0=>gO h fun h1 h=>aB h1 fun h1 h2=>bO h fun a e1 h=>bO h fun v e2 h=>bO h fun C e3 h=>gO h fun h3 h=>mO h fun b e4 q=>by
  haveI hc:=H _ _ e1;rw[qi e2,iA e3] at hc;rw[show c.1.2=_ from cj h1,e0,List.isEmpty_iff.mp h0,←q];exact SE.both (SE.oP Q.st (Q.oP C h3) hc.val (hb _) hl (H _ _ e4).val (.cons (cW h2 _) .nil))
noncomputable def Jg(r:Tr)(c:(Expr×Str)×List Expr×List Keyword):Option E:=gd (c.2.2.isEmpty&&decide (c.2.1.length<20)) ((r c.1.1).bind fun a=>(oJ r c.2.1).bind fun es=>
 if c.1.2==Str.ofString "pack_into" then some (.aD a .packInto es) else (IM c.1.2).map fun m=>.aD a m es)
structure IX(G:Ctx)(n:Nat)(y:Str)(m:BM):Prop where
 ex:∃i,lp G n i m∧Slot (yU m) y i∧typeOf (.builtin i)=pure (.type "method_descriptor")
 ne:m≠.packInto
 pl:PlainAttrs (yU m)
theorem Kc(h:IM y=some m):IX G n y m:=by
 refine oO h (fun h=>gO h fun h1 h=>?_) fun h=>oO h (fun h=>gO h fun h1 h=>?_) fun h=>oO h (fun h=>gO h fun h1 h=>?_) fun h=>gO h fun h1 h=>?_
 ·rw[cj h1];exact cQ h▸⟨⟨_,rW,PySem.F.slot_list_append,PySem.F.type_list_append⟩,by decide,PySem.F.plainAttrs_list⟩
 ·rw[cj h1];exact cQ h▸⟨⟨_,yJ,PySem.F.slot_dict_get,PySem.F.type_dict_get⟩,by decide,PySem.F.plainAttrs_dict⟩
 ·rw[cj h1];exact cQ h▸⟨⟨_,lG,PySem.F.slot_dict_setdefault,PySem.F.type_dict_setdefault⟩,by decide,PySem.F.plainAttrs_dict⟩
 ·rw[cj h1];exact cQ h▸⟨⟨_,qH,PySem.F.slot_str_encode,PySem.F.type_str_encode⟩,by decide,PySem.F.plainAttrs_str⟩
theorem CT(Q:FQ G T)(H:dZ G rc nm sc n r)(hb:∀x env aH,attributeBase c.1.1 x env aH=aH)(hl:(cF.endLine==pos.line)=true)(h:Jg r c=some e) :
 SB G rc nm sc n (.Call (.Attribute c.1.1 c.1.2 cF) c.2.1 c.2.2 pos) e:=by
 refine gO h fun h1 h=>bO h fun a e1 h=>bO h fun es e2 h=>?_
 have S:=ef H e2;rw[List.isEmpty_iff.mp (aL h1)]
 by_cases q:(c.1.2==Str.ofString "pack_into")=true
 ·haveI h:=(if_pos q).symm.trans h
  rw[cj q];exact cQ h▸SE.both (SE.pack Q.pk (hb _) hl (d6 (aR h1)) (H _ _ e1).val S.s S.h)
 ·haveI h:=(if_neg q).symm.trans h
  refine mO h fun m e3 q=>q▸?_
  have M:IX G n c.1.2 m:=Kc e3;exact M.ex.elim fun i hi=>SE.both (SE.aD hi.1 M.ne M.pl hi.2.1 hi.2.2 (hb _) hl (d6 (aR h1)) (H _ _ e1).val S.s S.h)
noncomputable def vY(sc:Sc)(r:Tr)(p:Expr):Option Src:=((pL p).bind fun c=>(l1 c.2).bind fun a=>gd (IF sc c.1&&i9 a) (if c.1==Str.ofString "range" then (r a).map .dM else gd (c.1==Str.ofString "reversed") ((r a).map .rev))).or ((r p).map .yV)
theorem oi(Q:FQ G T){r:Tr}(H:dZ G rc nm sc n r){p:Expr}{e:Src}{P:Prop}(h:vY sc r p=some e)(k:fL G rc nm sc n p e→P):P:=
 oO h (fun h=>bO h fun c e1 h=>kI e1 fun p1 pos q=>bO h fun a e0 h=>qv e0 fun e0=>gO h fun h1 h=>aB h1 fun h1 h2=>m7 h1 fun g1 g2=>by
   have hs:∀{b},r a=some b→lr G rc nm sc n [a] (.cons b .nil):=fun e=>lr.cons (H _ _ e).val lr.nil (cW h2 [])
   rw[e0] at q;rw[q] at k
   by_cases q:(c.1==Str.ofString "range")=true
   ·rw[if_pos q] at h
    haveI q:=cj q;exact mO h fun b e2 z=>k (z▸fL.dM (SE.Af Q.st (Q.bn _ _ (by rw[q];rfl)) g1 g2) (fun j=>rfl) (.cons (cW h2 _) .nil) (hs e2))
   ·rw[if_neg q] at h
    exact gO h fun q h=>mO h fun b e2 z=>k (z▸fL.rev (SE.Af Q.st (Q.bn _ _ (by rw[cj q];rfl)) g1 g2) (fun j=>rfl) (.cons (cW h2 _) .nil) (hs e2)))
  fun h=>mO h fun a e1 q=>k (q▸fL.yV (H _ _ e1).val)
noncomputable def Bn(gs:List Comprehension):Option (Str×Expr):=gd (gs.length==1) (gs.head?.bind fun g=>gd (g.ifs.isEmpty&&decide (g.is_async=0)) ((iM g.target).map fun x=>(x,g.iter)))
theorem xK{gs:List Comprehension}{c:Str×Expr}{P:Prop}(h:Bn gs=some c)(k:∀px,gs=[⟨.Name c.1 px,c.2,[],0⟩]→P):P:=
 gO h fun h1 h=>by
  obtain⟨⟨t,it,ifs,as⟩,rfl⟩:=List.length_eq_one_iff.mp (cj h1);exact gO h fun h2 h=>mO h fun x e q=>eP e fun px q2=>k px (by rw[←q,show t=_ from q2,show ifs=[] from List.isEmpty_iff.mp (aL h2),show as=0 from d6 (aR h2)])
noncomputable def Em(nm:List Str)(sc:Sc)(s:Scope)(x:Str):Bool:=decide (s.kind=.function∧nm.Nodup∧s.names.lookup x=some .local∧(∀y∈s.names,y.2=.local→s.names.lookup y.1=some .local) ∧
 (∀y∈s.names,y.2≠.cell)∧(∀y∈nm,s.names.lookup y=some .local→y=x)∧∀y∈s.names,y.2=.free→sc.lookup y.1=some .cell∨sc.lookup y.1=some .free)
theorem Ap(h:Em nm sc s x=true)(hi:vF x nm=some i):jH nm sc s i x:=
 by
  obtain⟨a,b,c,d,e,f,g⟩:=d6 h;exact⟨a,gL hi,b,c,d,e,f,g⟩
noncomputable def Dw:Expr→Option (UnaryOp×Expr)
 |.UnaryOp o x _=>some (o,x)
 |_=>none
theorem xc(h:Dw p=some x):∃pos,p=.UnaryOp x.1 x.2 pos:=by
 haveI:match Dw p with
  |some x=>∃pos,p=.UnaryOp x.1 x.2 pos
  |none=>True:=by cases p<;>first|exact trivial|exact⟨_,rfl⟩
 rw[h] at this;exact this
noncomputable def C0(p:Expr):Bool:=(Dw p).any fun u=>decide (u.1=.USub)&&constOf u.2==some (.int 1)
theorem DJ{p:Expr}{P:Prop}(h:C0 p=true)(k:∀m p1 p2,p=.UnaryOp .USub (.Constant (.int 1) m p2) p1→P):P:=
 ez h fun u e h=>(xc e).elim fun p1 q3=>(oj (cj (aR h))).elim fun m ⟨p2,q4⟩=>k m p1 p2 (by rw[q3,d6 (aL h),q4])
theorem A4(H:dZ G rc nm sc n r)(h:LA r p=some e):SB G rc nm sc n p e:=by
 unfold LA at h
 by_cases q:(listOf p).any (·.isEmpty)=true
 ·rw[if_pos q] at h
  exact ez q fun l e1 h1=>(qB e1).elim fun pos q2=>by rw[q2,List.isEmpty_iff.mp h1];exact cQ h▸SE.both (SE.list lr.nil (by decide))
 ·rw[if_neg q] at h;exact H _ _ h
noncomputable def Jy(T:Tb)(nm:List Str)(hx:Bool)(r:Nat→Sc→Tr)(d:Nat)(sc:Sc):Tr
 |.Name x _=>Bu T nm sc x
 |.Constant c _ _=>wG c
 |.BinOp l op y _=>if C4 l&&decide (op=.Mult) then (r d sc y).map .kg else (r d sc l).bind fun a=>(r d sc y).bind fun b=>(l7 op).map fun k=>.bin k a b
 |.UnaryOp op x _=>(r d sc x).bind fun a=>(FH op).map fun k=>.un k a
 |.BoolOp op l _=>Aj (r d sc) op l
 |.Compare l os rs _=>(r d sc l).bind fun a=>Eo (r d sc) a os rs
 |.IfExp c a b _=>(r d sc c).bind fun x=>(LA (r d sc) a).bind fun y=>(LA (r d sc) b).map fun z=>.ite x y z
 |.Attribute o x _=>gd (HZ o) ((r d sc o).bind fun a=>((T.slot.lookup x).map fun i=>.slot a i).or ((T.aQ.lookup x).map fun i=>.aQ a i))
 |.Subscript o x _=>(r d sc o).bind fun a=>match sliceOf x with
  |some s=>if s.2.2.isNone then (Df (r d sc) s.1).bind fun l=>(Df (r d sc) s.2.1).map fun u=>.slice a l u false else gd (s.1.isNone&&s.2.1.isNone&&s.2.2.any C0) (some (.slice a none none true))
  |none=>(r d sc x).map fun b=>.sub a b
 |.Tuple l _ _=>(oJ (r d sc) l).bind fun es=>gd (decide (es.count≤100)) (some (.tup es))
 |.List l _=>if l.isEmpty then some .dw else (oJ (r d sc) l).bind fun es=>gd (decide (es.count≤100)) (some (.list es))
 |.Dict [] [] _=>gd (decide (d≤2)) (some (.cz d))
 |.ListComp e gs s _=>(Bn gs).bind fun g=>gd (eT g.2&&Em nm sc s g.1) ((vF g.1 nm).bind fun i=>(vY sc (r 0 sc) g.2).bind fun src=>(r 0 s.names e).map fun ee=>.comp (.gen (.name i) src .nil (.elt ee)))
 |.Call f l ks pos=>((pL (.Call f l ks pos)).bind (wc T hx sc (r 0 sc))).or ((vW (.Call f l ks pos)).bind fun c=>(Kw T (r 0 sc) c).or ((Jg (r 0 sc) c).or ((Ik T (r 0 sc) c).or (Jv T (r 0 sc) c))))
 |_=>none
abbrev KQ(G:Ctx)(rc:RC)(nm:List Str)(n:Nat)(r:Nat→Sc→Tr):Prop:=∀d sc,dZ G rc nm sc n (r d sc)
theorem Dg(Q:FQ G T){r:Tr}(H:dZ G rc nm sc n r){o x:Expr}{pos:Pos}{e:E}(h:((r o).bind fun a=>match sliceOf x with
  |some s=>if s.2.2.isNone then (Df r s.1).bind fun l=>(Df r s.2.1).map fun u=>E.slice a l u false else gd (s.1.isNone&&s.2.1.isNone&&s.2.2.any C0) (some (E.slice a none none true))
  |none=>(r x).map fun b=>E.sub a b)=some e):SB G rc nm sc n (.Subscript o x pos) e:=by
 refine bO h fun a e1 h=>?_
 haveI ha:=H _ _ e1;clear e1;haveI hs:=nq x;cases q:sliceOf x with
 |none=>rw[q] at h hs;exact mO h fun b e2 z=>z▸SE.both (SE.sub Q.st ha.val (H _ _ e2).val hs)
 |some s=>
  rw[q] at h hs;refine hs.elim fun ps hs=>?_
  rw[hs];clear hs q Q;obtain⟨l,u,st⟩:=s
  by_cases q:st.isNone=true
  ·have h:(Df r l).bind (fun l=>(Df r u).map fun u=>E.slice a l u false)=some e:=(if_pos q).symm.trans h
   obtain rfl:=Option.isNone_iff_eq_none.mp q;exact bO h fun l e2 h=>mO h fun u e3 z=>z▸SE.both (SE.slice ha.val (r9 H e2) (r9 H e3))
  ·have h:gd (l.isNone&&u.isNone&&st.any C0) (some (E.slice a none none true))=some e:=(if_neg q).symm.trans h
   refine gO h fun h1 h3=>ez (aR h1) fun p e2 h2=>DJ h2 fun m p1 p2 q=>?_
   obtain rfl:=Option.isNone_iff_eq_none.mp (aL (aL h1));obtain rfl:=Option.isNone_iff_eq_none.mp (aR (aL h1));rw[e2,q];exact cQ h3▸SE.both (SE.rev ha.val)
set_option tactic.hygienic true in
theorem Cj(Q:FQ G T){hx:Bool}(HX:hx=true→G.exc=Option.none)(dQ:dH G rc n){r:Nat→Sc→Tr}(H:KQ G rc nm n r)(d:Nat)(sc:Sc):dZ G rc nm sc n (Jy T nm hx r d sc):=fun p e h=>by
 cases p<;>try (cases h;done)
 case Name x pos=>exact yG Q h
 case Constant c k pos=>exact uF h
 case BinOp l op y pos=>
  haveI h:(if (C4 l&&decide (op=.Mult))=true then (r d sc y).map .kg else (r d sc l).bind fun a=>(r d sc y).bind fun b=>(l7 op).map fun k=>.bin k a b)=some e:=h
  by_cases q:(C4 l&&decide (op=.Mult))=true
  ·rw[if_pos q] at h
   refine mO h fun b e1 z=>Cr (aL q) fun k p1 p2 q1=>?_
   rw[q1,d6 (aR q)];exact z▸SE.both (SE.kg (H _ _ _ _ e1).val)
  ·rw[if_neg q] at h
   exact bO h fun a e1 h=>bO h fun b e2 h=>mO h fun k e3 z=>z▸SE.both (SE.bin e3 (H _ _ _ _ e1).val (H _ _ _ _ e2).val)
 case UnaryOp op x pos=>
  exact bO h fun a e1 h=>mO h fun k e2 z=>z▸by
   cases op<;>cases e2
   ·exact SE.both (SE.un rfl (H _ _ _ _ e1).val)
   ·exact SB.not (H _ _ _ _ e1)
   ·exact SE.both (SE.un rfl (H _ _ _ _ e1).val)
 case BoolOp op l pos=>exact yp (H _ _) h
 case Compare l os rs pos=>exact bO h fun a e1 h=>Ab Q (H _ _) (H _ _ _ _ e1) h
 case IfExp c a b pos=>exact bO h fun x e1 h=>bO h fun y e2 h=>mO h fun w e3 z=>z▸SB.ite (H _ _ _ _ e1) (A4 (H _ _) e2) (A4 (H _ _) e3)
 case Attribute o x pos=>exact gO h fun h1 h=>bO h fun a e1 h=>oO h (fun h=>mO h fun i e2 z=>z▸SE.both (SE.slot Q.st (Q.slot _ _ e2) (H _ _ _ _ e1).val (si h1 _))) fun h=>mO h fun i e2 z=>z▸SE.both (SE.aQ Q.st (Q.aQ _ _ e2) (H _ _ _ _ e1).val (si h1 _))
 case Subscript o x pos=>exact Dg Q (H _ _) h
 case Tuple l k pos=>exact bO h fun es e1 h=>gO h fun h1 h=>cQ h▸SE.both (SE.tup (ef (H _ _) e1).h (d6 h1))
 case List l pos=>
  haveI h:(if l.isEmpty=true then some E.dw else (oJ (r d sc) l).bind fun es=>gd (decide (es.count≤100)) (some (.list es)))=some e:=h
  by_cases q:l.isEmpty=true
  ·rw[if_pos q] at h;rw[List.isEmpty_iff.mp q];exact cQ h▸SE.both SE.dw
  ·rw[if_neg q] at h
   exact bO h fun es e1 h=>gO h fun h1 h=>cQ h▸SE.both (SE.list (ef (H _ _) e1).h (d6 h1))
 case Dict ks vs pos=>
  cases ks with
  |cons _ _=>cases h
  |nil=>cases vs with
   |cons _ _=>cases h
   |nil=>exact gO h fun h1 h=>cQ h▸SE.both (SE.cz (d6 h1))
 case ListComp e' gs s pos=>
  exact bO h fun g e1 h=>gO h fun h1 h=>aB h1 fun h1 h2=>bO h fun i e2 h=>bO h fun src e3 h=>mO h fun ee e4 z=>xK e1 fun px q=>by
   subst q;exact oi Q (H _ _) e3 fun hs=>z▸SE.both (SE.comp (Ap h2 e2) hs (H _ _ _ _ e4).val fun env v=>(df h1 none 0 env v).2)
 case Call f l ks pos=>
  exact oO h (fun h=>bO h fun c e1 h=>kI e1 fun p1 jM q=>q▸uM Q HX dQ (H _ _) h) fun h=>bO h fun c e1 h=>sI e1 fun cF jM hb hl q=>q ▸
   oO h (fun h=>DK Q (H _ _) hb hl h) fun h=>oO h (fun h=>CT Q (H _ _) hb hl h) fun h=>oO h (fun h=>(rg Q dQ (H _ _) hb hl h).1) fun h=>Ed Q dQ (H _ _) hb hl h
noncomputable def EN(T:Tb)(nm:List Str)(hx:Bool):Nat→Nat→Sc→Tr
 |0=>fun j j j=>none
 |m+1=>Jy T nm hx (EN T nm hx m)
theorem uG(Q:FQ G T)(HX:hx=true→G.exc=Option.none)(dQ:dH G rc n):∀m,KQ G rc nm n (EN T nm hx m)
 |0=>fun j j j j h=>by cases h
 |m+1=>fun d sc=>Cj Q HX dQ (uG Q HX dQ m) d sc
section
set_option backward.match.sparseCases true
noncomputable def oq(nm:List Str)(sc:Sc)(x:Str):Option Nat:=gd (qY x&&(sc.lookup x==some .local||sc.lookup x==some .cell)) (vF x nm)
theorem jW(hn:nm.Nodup)(h:oq nm sc x=some i):cJ nm sc i x:=
 gO h fun h1 h=>(Bool.or_eq_true_iff.mp (aR h1)).elim (fun h2=>.l (gL h) hn (cj h2)) fun h2=>.c (gL h) hn (cj h2)
theorem Ew(h:oq nm sc x=some i)(pos:Pos):jx x∧SB G rc nm sc n (.Name x pos) (.var i):=
 gO h fun h1 h=>(Bool.or_eq_true_iff.mp (aR h1)).elim (fun h2=>⟨dE (aL h1),SE.both (SE.l (gL h) (cj h2) (dE (aL h1)))⟩) fun h2=>⟨dE (aL h1),SE.both (SE.cl (gL h) (cj h2) (dE (aL h1)))⟩
theorem cB.two(h1:cJ nm sc i x)(h2:cJ nm sc j y):cB nm sc [i,j] [x,y]:=.cons h1 (.cons h2 .nil)
noncomputable def CE(T:Tb)(p:Expr):Bool:=(vW p).any fun c=>T.rz.contains c.1.2
noncomputable def Hn(T:Tb)(r:Tr)(p:Expr):Option E:=(vW p).bind (Ik T r)
structure EX(G:Ctx)(rc:RC)(nm:List Str)(sc:Sc)(n:Nat)(p:Expr)(e:E):Prop where
 ok:SB G rc nm sc n p e
 x:B9 G rc n→GB G rc nm sc n p e
theorem rS(Q:FQ G T)(dQ:dH G rc n)(H:dZ G rc nm sc n r)(h:Hn T r p=some e):EX G rc nm sc n p e:=
 bO h fun c e1 h=>sI e1 fun cF pos hb hl q=>q▸⟨(rg Q dQ H hb hl h).1,(rg Q dQ H hb hl h).2⟩
structure SX(G:Ctx)(rc:RC)(nm:List Str)(sc:Sc)(n:Nat)(hx:Bool)(p:Stmt)(s:S):Prop where
 ok:SS G rc nm sc n p s
 x:hx=true→B9 G rc n→pY G rc nm sc n p s
structure BU(G:Ctx)(rc:RC)(nm:List Str)(sc:Sc)(n:Nat)(hx:Bool)(p:List Stmt)(s:Ss):Prop where
 ok:mL G rc nm sc n p s
 x:hx=true→B9 G rc n→gv G rc nm sc n p s
variable {hx:Bool}
theorem SX.calm(h:SS G rc nm sc n p s)(hc:autoParam (s.calm=true) Lz):SX G rc nm sc n hx p s:=⟨h,fun j j=>pY.calm hc⟩
theorem BU.no:BU G rc nm sc n hx p Ss.no:=⟨mL.no,fun j j=>gv.calm rfl⟩
noncomputable def La(T:Tb)(x:Str):Nat:=(T.nd.lookup x).getD 0
noncomputable def IQ(T:Tb)(nm:List Str)(z:Bool)(sc:Sc)(r:Nat→Tr)(x:Str)(v:Expr):Option S:=(oq nm sc x).bind fun i=>gd (eT v) (if z&&CE T v then (Hn T (r 0) v).map fun e=>.cy i e else (r (La T x) v).map fun e=>.assign i e)
theorem CQ(Q:FQ G T)(hn:nm.Nodup)(dQ:dH G rc n)(H:∀d,dZ G rc nm sc n (r d))(h:IQ T nm z sc r x v=some s):SX G rc nm sc n hx (.Assign [.Name x px] v pos) s:=
 bO h fun i e1 h=>gO h fun h1 h=>by
  have hi:=jW hn e1;have hs:∀env,swapsWith v (some (.Name x px)) pos.line env=pure false:=fun env=>(df h1 _ _ env .none).1
  by_cases q:(z&&CE T v)=true
  ·rw[if_pos q] at h
   exact mO h fun e e2 q=>q▸⟨SS.cy hi (rS Q dQ (H 0) e2).ok.val hs,fun j qw=>pY.cy ((rS Q dQ (H 0) e2).x qw) hs⟩
  ·rw[if_neg q] at h
   exact mO h fun e e2 q=>q▸SX.calm (SS.assign hi (H _ _ _ e2).val hs)
set_option backward.match.sparseCases false in
noncomputable def sJ:Expr→Option (List Expr)
 |.Tuple l _ _=>some l
 |_=>none
theorem AK(p:Expr):match sJ p with
 |some l=>∃k pos,p=.Tuple l k pos
 |none=>∀ts k pos env,swappedStores [.Tuple ts k pos] p env=pure Option.none:=by
 cases p<;>first|exact fun j j j j=>rfl|exact⟨_,_,rfl⟩
noncomputable def rD:Expr→Bool
 |.Starred ..=>true
 |_=>false
theorem tO{l:List Expr}(h:l.any rD=false):(l.any fun|.Starred ..=>true|_=>false)=false:=by
 haveI e:(fun p:Expr=>match p with|.Starred ..=>true|_=>false)=rD:=by funext p;cases p<;>rfl
 exact(congrArg l.any e).trans h
noncomputable def MX(sc:Sc)(xs:List Str)(vs:List Expr):Bool:=(xs.all fun x=>sc.lookup x==some .local)&&((vs.any rD==false)&&((vs.all (foldedForSure 8)==false)&&(vs.all (constantsAlone 8)==false)))
theorem zW{xs:List Str}{vs:List Expr}{P:Prop}(h:MX sc xs vs=true)(k:(∀x∈xs,sc.lookup x=some .local)→(vs.any fun|.Starred ..=>true|_=>false)=false→vs.all (foldedForSure 8)=false→vs.all (constantsAlone 8)=false→P):P:=
 aB h fun h1 h=>aB h fun h2 h=>aB h fun h3 h4=>k (fun x m=>cj (List.all_eq_true.mp h1 x m)) (tO (cj h2)) (cj h3) (cj h4)
set_option backward.match.sparseCases false in
noncomputable def ow:Expr→Option (Str×Pos)
 |.Name x pos=>some (x,pos)
 |_=>none
theorem iF(h:ow p=some x):p=.Name x.1 x.2:=by
 haveI:match ow p with
  |some x=>p=.Name x.1 x.2
  |none=>True:=by cases p<;>first|exact trivial|rfl
 rw[h] at this;exact this
noncomputable def Jp(sc:Sc)(x y:Str×Pos)(vs:List Expr):Bool:=vs.length==2&&((y.2.line==x.2.line&&(y.1==x.1)==false)&&MX sc [x.1,y.1] vs)
theorem Dk{x y:Str×Pos}{vs:List Expr}(h:Jp sc x y vs=true)(k k2:Nat)(cK p2:Pos)(env:Env)(hk:env.scope.kind=.function)(hl:∀x,sc.lookup x=some .local→env.kindOf x=some .local) :
  swappedStores [.Tuple [.Name x.1 x.2,.Name y.1 y.2] k cK] (.Tuple vs k2 p2) env=pure (some [x.1,y.1]):=by
 cases vs with
 |nil=>cases aL h
 |cons v1 vs=>cases vs with
  |nil=>cases aL h
  |cons v2 vs=>cases vs with
   |nil=>exact zW (aR (aR h)) fun a b c d=>IW (a _ (by simp)) (a _ (by simp)) b (aL (aL (aR h))) (cj (aR (aL (aR h)))) c d env hk hl
   |cons _ _=>cases aL h
noncomputable def JF(sc:Sc)(x y u:Str×Pos)(vs:List Expr):Bool:=vs.length==3&&(((y.2.line==x.2.line&&u.2.line==x.2.line)&&((y.1==x.1)||(u.1==x.1)||(u.1==y.1))==false)&&MX sc [x.1,y.1,u.1] vs)
theorem Cg{x y u:Str×Pos}{vs:List Expr}(h:JF sc x y u vs=true)(k k2:Nat)(cK p2:Pos)(env:Env)(hk:env.scope.kind=.function)(hl:∀x,sc.lookup x=some .local→env.kindOf x=some .local) :
  swappedStores [.Tuple [.Name x.1 x.2,.Name y.1 y.2,.Name u.1 u.2] k cK] (.Tuple vs k2 p2) env=pure (some [x.1,y.1,u.1]):=by
 cases vs with
 |nil=>cases aL h
 |cons v1 vs=>cases vs with
  |nil=>cases aL h
  |cons v2 vs=>cases vs with
   |nil=>cases aL h
   |cons v3 vs=>cases vs with
    |nil=>exact zW (aR (aR h)) fun a b c d=>J2 (a _ (by simp)) (a _ (by simp)) (a _ (by simp)) b (aL (aL (aR h))) (cj (aR (aL (aR h)))) c d env hk hl
    |cons _ _=>cases aL h
theorem Jd{is:List Nat}{xs:List Str}{gM:List Expr}{k:Nat}{cK pos:Pos}{v:Expr}{e:E}{f:List Expr→Bool}(HX:G.exc=Option.none)(hN:cB nm sc is xs)(he:SB G rc nm sc n v e)(hp:eT v=true)
  (h:(match sJ v with
   |some vs=>decide is.Nodup&&f vs
   |none=>true)=true)
  (hw:∀vs,f vs=true→∀k k2 cK p2 (env:Env),env.scope.kind=.function→(∀x,sc.lookup x=some .local→env.kindOf x=some .local)→swappedStores [.Tuple gM k cK] (.Tuple vs k2 p2) env=pure (some xs))
  (hn:(∀env,swappedStores [.Tuple gM k cK] v env=pure Option.none)→(∀env,swapsWithSole [.Tuple gM k cK] v pos.line env=pure false)→SX G rc nm sc n hx (.Assign [.Tuple gM k cK] v pos) (.bA is e)):SX G rc nm sc n hx (.Assign [.Tuple gM k cK] v pos) (.bA is e):=by
 have hs:∀env,swapsWithSole [.Tuple gM k cK] v pos.line env=pure false:=fun env=>(df hp (some (.Tuple gM k cK)) pos.line env .none).1
 haveI hv:=AK v;cases q:sJ v with
 |none=>rw[q] at hv;exact hn (fun env=>hv _ _ _ env) hs
 |some vs=>
  rw[q] at hv h;refine hv.elim fun k2 hv=>hv.elim fun p2 hv=>?_
  rw[hv] at he hs ⊢;exact SX.calm (SS.BS HX hN (d6 (aL h)) he.val hs fun env=>hw vs (aR h) k k2 cK p2 env)
noncomputable def KJ(nm:List Str)(hx:Bool)(sc:Sc)(r:Tr)(t1 t2 v:Expr):Option S:=gd (hx&&eT v) ((ow t1).bind fun x=>(ow t2).bind fun y=>(oq nm sc x.1).bind fun i=>(oq nm sc y.1).bind fun j=>gd (match sJ v with
  |some vs=>decide [i,j].Nodup&&Jp sc x y vs
  |none=>true) ((r v).map fun e=>.bA [i,j] e))
theorem C5(HX:hx=true→G.exc=Option.none)(hn:nm.Nodup){r:Tr}(H:dZ G rc nm sc n r){t1 t2 v:Expr}{k:Nat}{cK pos:Pos}{s:S}(h:KJ nm hx sc r t1 t2 v=some s):SX G rc nm sc n hx (.Assign [.Tuple [t1,t2] k cK] v pos) s:=
 gO h fun h1 h=>bO h fun x e1 h=>bO h fun y e2 h=>bO h fun i e3 h=>bO h fun j e4 h=>gO h fun h2 h=>mO h fun e e5 q=>by
  rw[iF e1,iF e2,←q];have hN:=cB.two (jW hn e3) (jW hn e4);exact Jd (HX (aL h1)) hN (H _ _ e5) (aR h1) h2 (fun z=>Dk) fun hw hs=>SX.calm (SS.Bg (HX (aL h1)) hN (H _ _ e5).val hs hw)
noncomputable def JN(nm:List Str)(hx:Bool)(sc:Sc)(r:Tr)(t1 t2 t3 v:Expr):Option S:=gd (hx&&eT v) ((ow t1).bind fun x=>(ow t2).bind fun y=>(ow t3).bind fun u=>(oq nm sc x.1).bind fun i=>(oq nm sc y.1).bind fun j=>(oq nm sc u.1).bind fun l=>gd (match sJ v with
  |some vs=>decide [i,j,l].Nodup&&JF sc x y u vs
  |none=>true) ((r v).map fun e=>.bA [i,j,l] e))
theorem DF(HX:hx=true→G.exc=Option.none)(hn:nm.Nodup){r:Tr}(H:dZ G rc nm sc n r){t1 t2 t3 v:Expr}{k:Nat}{cK pos:Pos}{s:S}(h:JN nm hx sc r t1 t2 t3 v=some s):SX G rc nm sc n hx (.Assign [.Tuple [t1,t2,t3] k cK] v pos) s:=
 gO h fun h1 h=>bO h fun x e1 h=>bO h fun y e2 h=>bO h fun u e6 h=>bO h fun i e3 h=>bO h fun j e4 h=>bO h fun l e7 h=>gO h fun h2 h=>mO h fun e e5 q=>by
  rw[iF e1,iF e2,iF e6,←q];have hN:=cB.cons (jW hn e3) (cB.two (jW hn e4) (jW hn e7));exact Jd (HX (aL h1)) hN (H _ _ e5) (aR h1) h2 (fun z=>Cg) fun hw hs=>SX.calm (SS.AI (HX (aL h1)) hN (H _ _ e5).val hs hw)
noncomputable def Fh(nm:List Str)(hx:Bool)(sc:Sc)(r:Tr)(v:Expr)(l:List Expr):Option S:=match l with
 |[]=>none
 |t1::l=>match l with
  |[]=>none
  |t2::l=>match l with
   |[]=>KJ nm hx sc r t1 t2 v
   |t3::l=>gd l.isEmpty (JN nm hx sc r t1 t2 t3 v)
theorem BG(HX:hx=true→G.exc=Option.none)(hn:nm.Nodup)(H:dZ G rc nm sc n r)(h:Fh nm hx sc r v l=some s):SX G rc nm sc n hx (.Assign [.Tuple l k cK] v pos) s:=by
 cases l with
 |nil=>cases h
 |cons t1 l=>cases l with
  |nil=>cases h
  |cons t2 l=>cases l with
   |nil=>exact C5 HX hn H h
   |cons t3 l=>exact gO h fun h1 h=>List.isEmpty_iff.mp h1▸DF HX hn H h
set_option backward.match.sparseCases false in
noncomputable def Fj(T:Tb)(nm:List Str)(hx z:Bool)(sc:Sc)(r:Nat→Tr)(v:Expr):Expr→Option S
 |.Name x _=>IQ T nm z sc r x v
 |.Attribute o x _=>gd (eT v) ((T.slot.lookup x).bind fun i=>(r (La T x) v).bind fun e=>(r 0 o).map fun a=>.setSlot a i e)
 |.Subscript o x _=>gd (eT v) ((r 0 v).bind fun e=>(r 0 o).bind fun a=>match sliceOf x with
  |some s=>gd s.2.2.isNone ((Df (r 0) s.1).bind fun l=>(Df (r 0) s.2.1).map fun u=>.cE a l u e)
  |none=>(r 0 x).map fun b=>.eZ a b e)
 |.Tuple l _ _=>Fh nm hx sc (r 0) v l
 |_=>none
set_option tactic.hygienic true in
theorem A3(Q:FQ G T)(HX:hx=true→G.exc=Option.none)(hn:nm.Nodup)(dQ:dH G rc n)(H:∀d,dZ G rc nm sc n (r d))(h:Fj T nm hx z sc r v t=some s):SX G rc nm sc n hx (.Assign [t] v pos) s:=by
 cases t<;>try (cases h;done)
 case Name x px=>exact CQ Q hn dQ H h
 case Attribute o x p=>exact gO h fun h1 h=>bO h fun i e1 h=>bO h fun e e2 h=>mO h fun a e3 q=>q▸SX.calm (SS.setSlot Q.st (Q.slot _ _ e1) (H _ _ _ e3).val (H _ _ _ e2).val fun env=>(df h1 _ _ env .none).1)
 case Subscript o x p=>
  refine gO h fun h1 h=>bO h fun e e1 h=>bO h fun a e2 h=>?_
  haveI hs:=nq x;cases q:sliceOf x with
  |none=>
   rw[q] at h;exact mO h fun b e3 z=>z▸SX.calm (SS.eZ (H _ _ _ e2).val (H _ _ _ e3).val (H _ _ _ e1).val fun env=>(df h1 _ _ env .none).1)
  |some w=>
   obtain⟨l,u,st⟩:=w;rw[q] at h hs;obtain⟨ps,rfl⟩:=hs;refine gO h fun h2 h=>?_
   obtain rfl:st=Option.none:=Option.isNone_iff_eq_none.mp h2;exact bO h fun l e3 h=>mO h fun u e4 z=>z▸SX.calm (SS.cE (H _ _ _ e2).val (r9 (H 0) e3) (r9 (H 0) e4) (H _ _ _ e1).val fun env=>(df h1 _ _ env .none).1)
 case Tuple l k p=>exact BG HX hn (H 0) h
end
end
section
variable {G:Ctx}{rc:RC}{nm:List Str}{n:Nat}{T:Tb}{sc:Sc}{hx:Bool}
noncomputable def HQ(sc:Sc)(p:Expr):Bool:=(pL p).any fun c=>c.1==Str.ofString "IsNestedError"&&IF sc c.1&&c.2.isEmpty
theorem Dv{p:Expr}{P:Prop}(h:HQ sc p=true)(k:∀p1 pos,sc.lookup (Str.ofString "IsNestedError")=some .globalImplicit→p=.Call (.Name (Str.ofString "IsNestedError") p1) [] [] pos→P):P:=by
 unfold HQ at h;cases e:pL p with
 |none=>rw[e] at h;cases h
 |some c=>
  rw[e] at h;exact aB h fun h1 h3=>aB h1 fun h1 h2=>m7 h2 fun g1 j=>kI e fun p1 pos q=>by
   rw[cj h1] at q g1;rw[List.isEmpty_iff.mp h3] at q;exact k p1 pos g1 q
noncomputable def vy(T:Tb)(nm:List Str)(hx z:Bool)(sc:Sc)(r:Nat→Tr)(rB:List Stmt→Ss):Stmt→Option S
 |.Expr v _=>gd (eT v) (if z&&CE T v then (Hn T (r 0) v).map fun e=>.fp e else (r 0 v).map fun e=>.expr e)
 |.Assign [t] v _=>Fj T nm hx z sc r v t
 |.AugAssign t op v _=>(iM t).bind fun x=>(oq nm sc x).bind fun i=>(l7 op).bind fun k=>(r 0 v).map fun e=>.aug i k e
 |.If c a b _=>(r 0 c).map fun e=>.ite e (rB a) (rB b)
 |.While c b o _=>gd (o.isEmpty&&(rB b).calm) ((r 0 c).map fun e=>.gN e (rB b))
 |.For t it b o _=>gd (o.isEmpty&&eT it&&(rB b).calm) ((iM t).bind fun x=>(oq nm sc x).bind fun i=>(vY sc (r 0) it).map fun s=>.mi (.name i) s (rB b))
 |.Return v _=>match v with
  |none=>some (.ret none)
  |some p=>(r 0 p).map fun e=>.ret (some e)
 |.Raise (some e) none _=>gd (z&&hx&&HQ sc e) (some (.raise 1))
 |.Continue _=>some .cont
 |.Pass _=>some .pass
 |_=>none
set_option tactic.hygienic true in
theorem wD(Q:FQ G T)(HX:hx=true→G.exc=Option.none)(hn:nm.Nodup)(dQ:dH G rc n){z:Bool}{r:Nat→Tr}(H:∀d,dZ G rc nm sc n (r d)){rB:List Stmt→Ss}(HB:∀p,BU G rc nm sc n hx p (rB p)){p:Stmt}{s:S}(h:vy T nm hx z sc r rB p=some s):SX G rc nm sc n hx p s:=by
 cases p<;>try (cases h;done)
 case Expr v pos=>
  refine gO h fun h1 h=>?_
  have hs:∀env l,swapsWith v none l env=pure false:=fun env l=>(df h1 _ _ env .none).1
  by_cases q:(z&&CE T v)=true
  ·rw[if_pos q] at h
   exact mO h fun e e2 q=>q▸⟨SS.fp (rS Q dQ (H 0) e2).ok.val hs,fun j qw=>pY.fp ((rS Q dQ (H 0) e2).x qw) hs⟩
  ·rw[if_neg q] at h
   exact mO h fun e e2 q=>q▸SX.calm (SS.expr (H _ _ _ e2).val hs)
 case Assign ts v pos=>
  cases ts with
  |nil=>cases h
  |cons t ts=>cases ts with
   |nil=>exact A3 Q HX hn dQ H h
   |cons _ _=>cases h
 case AugAssign t op v pos=>
  refine bO h fun x e1 h=>bO h fun i e2 h=>bO h fun k e3 h=>mO h fun e e4 q=>eP e1 fun px q2=>?_
  subst q;subst q2;exact SX.calm (SS.aug e3 (jW hn e2) (Ew e2 px).2.val (Ew (G:=G) (rc:=rc) (n:=n) e2 px).1.d (H _ _ _ e4).val)
 case If c a b pos=>exact mO h fun e e1 q=>q▸⟨SS.ite (H _ _ _ e1).oy (HB a).ok (HB b).ok,fun x qw=>pY.ite (H _ _ _ e1).oy ((HB a).x x qw) ((HB b).x x qw)⟩
 case While c b o pos=>
  refine gO h fun h1 h=>aB h1 fun h1 h2=>mO h fun e e1 q=>?_
  subst q;obtain rfl:=List.isEmpty_iff.mp h1;exact SX.calm (SS.gN (H _ _ _ e1).oy (HB b).ok) h2
 case For t it b o pos=>
  refine gO h fun h1 h=>aB h1 fun h1 h2=>aB h1 fun h1 h3=>bO h fun x e1 h=>bO h fun i e2 h=>mO h fun s e3 q=>eP e1 fun px q2=>oi Q (H 0) e3 fun hs=>?_
  subst q;subst q2;obtain rfl:=List.isEmpty_iff.mp h1;exact SX.calm (SS.mi (jW hn e2) hs (HB b).ok fun env v=>(df h3 none 0 env v).2) h2
 case Return v pos=>
  cases v with
  |none=>cases h;exact SX.calm SS.MZ
  |some p=>exact mO h fun e e1 q=>q▸SX.calm (SS.ret (H _ _ _ e1).val)
 case Raise e c pos=>
  cases e with
  |none=>cases h
  |some e=>cases c with
   |some _=>cases h
   |none=>
    refine gO h fun h1 h=>aB h1 fun h1 h2=>aB h1 fun j h3=>Dv h2 fun p1 jM g q=>?_
    cases h;subst q;exact⟨SS.C8,fun j j=>pY.raise Q.st Q.ex (HX h3) g⟩
 case Continue pos=>cases h;exact SX.calm SS.cont
 case Pass pos=>cases h;exact SX.calm SS.pass
noncomputable def Cw(f:Stmt→Option S):List Stmt→Option Ss
 |[]=>some .nil
 |p::ps=>(f p).bind fun s=>(Cw f ps).map fun r=>.cons s r
theorem vc(H:∀p s,f p=some s→SX G rc nm sc n hx p s):∀{ps:List Stmt}{s:Ss},Cw f ps=some s→BU G rc nm sc n hx ps s
 |[],_,h=>cQ h▸⟨mL.nil,fun j j=>gv.nil⟩
 |p::ps,_,h=>bO h fun s e1 h=>mO h fun r e2 q=>q▸⟨mL.cons (H _ _ e1).ok (vc H e2).ok,fun x qw=>gv.cons (H _ _ e1).ok ((H _ _ e1).x x qw) ((vc H e2).x x qw)⟩
noncomputable def zT(T:Tb)(nm:List Str)(hx z:Bool)(sc:Sc):Nat→List Stmt→Ss
 |0=>fun j=>Ss.no
 |m+1=>fun ps=>(Cw (vy T nm hx z sc (fun d=>EN T nm hx 100 d sc) (zT T nm hx z sc m)) ps).getD Ss.no
theorem m8(Q:FQ G T)(HX:hx=true→G.exc=Option.none)(hn:nm.Nodup)(dQ:dH G rc n):∀m ps,BU G rc nm sc n hx ps (zT T nm hx z sc m ps)
 |0,_=>BU.no
 |m+1,ps=>by
  show BU G rc nm sc n hx ps ((Cw (vy T nm hx z sc (fun d=>EN T nm hx 100 d sc) (zT T nm hx z sc m)) ps).getD Ss.no);cases e:Cw (vy T nm hx z sc (fun d=>EN T nm hx 100 d sc) (zT T nm hx z sc m)) ps with
  |none=>exact BU.no
  |some s=>exact vc (fun p s h=>wD Q HX hn dQ (fun d=>uG Q HX dQ 100 d sc) (m8 Q HX hn dQ m) h) e
structure CX(G:Ctx)(rc:RC)(nm:List Str)(sc:Sc)(n:Nat)(p:Stmt)(s:S):Prop where
 ok:xf G rc nm sc n p s
structure Ls(G:Ctx)(rc:RC)(nm:List Str)(sc:Sc)(n:Nat)(p:List Stmt)(s:Ss):Prop where
 ok:gY G rc nm sc n p s
structure TX(G:Ctx)(rc:RC)(nm:List Str)(sc:Sc)(n:Nat)(p:Expr)(s:E):Prop where
 ok:k9 G rc nm sc n p s
noncomputable def HS(T:Tb)(sc:Sc)(r:Tr)(p:Expr):Option E:=(pL p).bind fun c=>gd (IF sc c.1) ((T.fns.lookup c.1).bind fun f=>(oJ r c.2).map fun es=>.aY f es none none)
theorem wz(Q:FQ G T)(kT:Cc G rc n)(H:dZ G rc nm sc n r)(h:HS T sc r p=some e):TX G rc nm sc n p e:=
 bO h fun c e1 h=>gO h fun h1 h=>bO h fun f e2 h=>mO h fun es e3 q=>m7 h1 fun g1 g2=>kI e1 fun p1 pos q2=>by
  subst q;subst q2;exact⟨k9.aY kT (Q.fn _ _ e2).2 (SE.md Q.st (Q.fn _ _ e2).1 g1 g2) (ef H e3).s (ef H e3).h⟩
noncomputable def GG(T:Tb)(sc:Sc)(r:Tr)(p:Expr):Option E:=((Dw p).bind fun u=>gd (decide (u.1=.Not)) ((HS T sc r u.2).map fun a=>.un .not a)).or (HS T sc r p)
theorem v9(Q:FQ G T)(kT:Cc G rc n)(H:dZ G rc nm sc n r)(h:GG T sc r p=some e):TX G rc nm sc n p e:=
 oO h (fun h=>bO h fun u e1 h=>gO h fun h1 h=>mO h fun a e2 q=>(xc e1).elim fun pos q2=>by
  rw[q2,d6 h1,←q];exact⟨k9.not (wz Q kT H e2).ok⟩) fun h=>wz Q kT H h
noncomputable def boolOf:Expr→Option (BoolOp×List Expr)
 |.BoolOp op l _=>some (op,l)
 |_=>none
theorem xF(h:boolOf p=some x):∃pos,p=.BoolOp x.1 x.2 pos:=by
 haveI:match boolOf p with
  |some x=>∃pos,p=.BoolOp x.1 x.2 pos
  |none=>True:=by cases p<;>first|exact trivial|exact⟨_,rfl⟩
 rw[h] at this;exact this
noncomputable def Ep{α:Type}(l:List α):Option (α×α):=l.head?.bind fun a=>l.tail.head?.bind fun b=>gd l.tail.tail.isEmpty (some (a,b))
theorem AO(h:Ep l=some x):l=[x.1,x.2]:=by
 cases l with
 |nil=>cases h
 |cons a l=>cases l with
  |nil=>cases h
  |cons b l=>exact gO h fun h1 h=>by rw[show l=[] from List.isEmpty_iff.mp h1];cases h;rfl
noncomputable def Ks(T:Tb)(sc:Sc)(r:Tr)(p:Expr):Option E:=((boolOf p).bind fun u=>gd (u.1==.And) ((Ep u.2).bind fun x=>(r x.1).bind fun a=>(GG T sc r x.2).map fun b=>.and a b)).or (GG T sc r p)
theorem DQ(Q:FQ G T)(kT:Cc G rc n)(H:dZ G rc nm sc n r)(h:Ks T sc r p=some e):TX G rc nm sc n p e:=
 oO h (fun h=>bO h fun u e1 h=>gO h fun h1 h=>bO h fun x e2 h=>bO h fun a e3 h=>mO h fun b e4 q=>(xF e1).elim fun pos q2=>by
  rw[q2,cj h1,AO e2,←q];exact⟨k9.and (H _ _ e3).oy (v9 Q kT H e4).ok⟩) fun h=>v9 Q kT H h
noncomputable def KU(l:List ExceptHandler):Option (Str×List Stmt):=gd (l.length==1) (l.head?.bind fun
 |.ExceptHandler t x b _=>gd (x.isNone&&!b.isEmpty) (t.bind fun t=>(iM t).map fun x=>(x,b)))
theorem Dy{l:List ExceptHandler}{x:Str×List Stmt}{P:Prop}(h:KU l=some x)(k:∀np pos b bs,x.2=b::bs→l=[.ExceptHandler (some (.Name x.1 np)) none (b::bs) pos]→P):P:=
 gO h fun h1 h=>by
  obtain⟨⟨t,x,b,pos⟩,rfl⟩:=List.length_eq_one_iff.mp (cj h1);refine gO h fun h1 h=>bO h fun t' e1 h=>mO h fun y e2 q=>eP e2 fun np q2=>?_
  cases b with
  |nil=>cases aR h1
  |cons b bs=>exact k np pos b bs (by rw[←q]) (by rw[←q,e1,q2,Option.isNone_iff_eq_none.mp (aL h1)])
noncomputable def Ee(T:Tb)(nm:List Str)(sc:Sc)(r:Nat→Tr)(rB rH rC:List Stmt→Ss)(p:Stmt):Option S:=match p with
 |.If c a b _=>((Ks T sc (r 0) c).map fun e=>.ite e (rC a) (rC b)).or (vy T nm true true sc r rB p)
 |.For t it b o _=>gd (o.isEmpty&&eT it) ((iM t).bind fun x=>(oq nm sc x).bind fun i=>(vY sc (r 0) it).map fun s=>.mi (.name i) s (rC b))
 |.Try ps hs o f _=>gd (o.isEmpty&&f.isEmpty) ((KU hs).bind fun x=>gd (x.1==Str.ofString "IsNestedError"&&IF sc x.1) (some (.n8 (rB ps) 1 (rH x.2))))
 |_=>vy T nm true true sc r rB p
set_option tactic.hygienic true in
theorem Eh(Q:FQ G T)(HX:G.exc=Option.none)(hn:nm.Nodup)(dQ:dH G rc n)(qw:B9 G rc n)(kT:Cc G rc n){r:Nat→Tr}(H:∀d,dZ G rc nm sc n (r d)){rB rH rC:List Stmt→Ss}(HB:∀p,BU G rc nm sc n true p (rB p))(HH:∀y p,BU (G.x (some y)) (jc G.tb rc) nm sc n false p (rH p))(HC:∀p,Ls G rc nm sc n p (rC p))
  {p:Stmt} {s:S} (h:Ee T nm sc r rB rH rC p=some s):CX G rc nm sc n p s:=by
 have old:vy T nm true true sc r rB p=some s→CX G rc nm sc n p s:=fun h=>⟨xf.of (wD Q (fun j=>HX) hn dQ H HB h).ok⟩
 cases p<;>try exact old h
 case If c a b pos=>exact oO h (fun h=>mO h fun e e1 q=>q▸⟨xf.ite (DQ Q kT (H 0) e1).ok (HC _).ok (HC _).ok⟩) old
 case For t it b o pos=>
  clear old;exact gO h fun h1 h=>bO h fun x e1 h=>bO h fun i e2 h=>mO h fun s e3 q=>eP e1 fun px q2=>oi Q (H 0) e3 fun hs=>by
   rw[←q,q2,List.isEmpty_iff.mp (aL h1)];exact⟨xf.mi (jW hn e2) hs (HC _).ok fun env v=>(df (aR h1) none 0 env v).2⟩
 case Try ps hs o f pos=>
  clear old;exact gO h fun h1 h=>bO h fun x e1 h=>gO h fun h2 h=>Dy e1 fun np hp b bs q1 q2=>m7 (aR h2) fun g1 j=>by
   rw[←cQ h,List.isEmpty_iff.mp (aL h1),List.isEmpty_iff.mp (aR h1),q2,q1,cj (aL h2)];rw[cj (aL h2)] at g1;exact⟨xf.n8 Q.st Q.ex HX g1 (HB _).ok ((HB _).x rfl qw) fun y=>(HH y _).ok⟩
theorem w5(H:∀p s,f p=some s→CX G rc nm sc n p s):∀{ps:List Stmt}{s:Ss},Cw f ps=some s→Ls G rc nm sc n ps s
 |[],_,h=>cQ h▸⟨gY.nil⟩
 |p::ps,_,h=>bO h fun s e1 h=>mO h fun r e2 q=>q▸⟨gY.cons (H _ _ e1).ok (w5 H e2).ok⟩
noncomputable def Kf(T:Tb)(nm:List Str)(sc:Sc):Nat→List Stmt→Ss
 |0=>fun j=>Ss.no
 |m+1=>fun ps=>(Cw (Ee T nm sc (fun d=>EN T nm true 100 d sc) (zT T nm true true sc m) (zT T nm false false sc m) (Kf T nm sc m)) ps).getD Ss.no
theorem A9(Q:FQ G T)(HX:G.exc=Option.none)(hn:nm.Nodup)(dQ:dH G rc n)(qw:B9 G rc n)(kT:Cc G rc n)(LS:∀y,dH (G.x (some y)) (jc G.tb rc) n):∀m ps,Ls G rc nm sc n ps (Kf T nm sc m ps)
 |0,_=>⟨gY.of mL.no⟩
 |m+1,ps=>by
  show Ls G rc nm sc n ps ((Cw (Ee T nm sc (fun d=>EN T nm true 100 d sc) (zT T nm true true sc m) (zT T nm false false sc m) (Kf T nm sc m)) ps).getD Ss.no);cases e:Cw (Ee T nm sc (fun d=>EN T nm true 100 d sc) (zT T nm true true sc m) (zT T nm false false sc m) (Kf T nm sc m)) ps with
  |none=>exact⟨gY.of mL.no⟩
  |some s=>exact w5 (fun p s h=>Eh Q HX hn dQ qw kT (fun d=>uG Q (fun j=>HX) dQ 100 d sc) (m8 Q (fun j=>HX) hn dQ m) (fun y=>m8 (Q.x (some y)) (fun h=>by cases h) hn (LS y) m) (A9 Q HX hn dQ qw kT LS m) h) e
end
section
variable {G:Ctx}{T:Tb}{K:Frag}{q:Program}{cY:List Str}
structure FE where
 f:Addr
 fn:Fn
 cZ:Ss
 nm:List Str
 k:Nat
noncomputable def Dc(l:List FE)(f:Addr)(i:Nat):Option Str:=((l.find? fun e=>e.f==f).map fun e=>e.nm.take e.fn.np).bind fun p=>p[i]?
noncomputable def DS:Value→Option Int
 |.int i _=>some i
 |_=>none
theorem ru(h:DS v=some i):∃t,v=.int i t:=by
 cases v<;>first|(cases h;done)|(cases h;exact⟨_,rfl⟩)
noncomputable def GC:Data→Option (Array Value)
 |.seq xs _=>some xs
 |_=>none
theorem wy(h:GC d=some i):∃t,d=.seq i t:=by
 cases d<;>first|(cases h;done)|(cases h;exact⟨_,rfl⟩)
noncomputable def EF:Data→Option FuncData
 |.func d=>some d
 |_=>none
theorem zG(h:EF d=some i):d=.func i:=by
 cases d<;>first|(cases h;done)|(cases h;rfl)
noncomputable def O3(a:AV)(v:Value):Bool:=match a with
 |.none=>v==.none
 |.bool a=>v==.bool a
 |.int i=>(DS v).any (·==i)
 |_=>false
theorem Hr(e:O3 a v=true)(h:Heap)(ρ N:List Addr):av h ρ N a v:=by
 cases a with
 |none=>exact cj e
 |bool b=>exact cj e
 |int i=>exact ez e fun j h e=>by rw[←cj e];exact ru h
 |_=>cases e
noncomputable def FY:List AV→List Value→Bool
 |[],[]=>true
 |a::l,v::r=>O3 a v&&FY l r
 |_,_=>false
theorem vX(h:Heap)(ρ N:List Addr):∀{l:List AV}{r:List Value},FY l r=true→ae h ρ N l r
 |[],r,e=>by cases r with
  |nil=>exact ae.nil
  |cons _ _=>cases e
 |a::l,r,e=>by cases r with
  |nil=>cases e
  |cons v r=>exact aB e fun e1 e2=>ae.cons (Hr e1 h ρ N) (vX h ρ N e2)
noncomputable def O8(K:Frag)(l:List AV)(v:Value):Bool:=(v==.none&&l.isEmpty)||((refOf v).bind fun a=>(K.lookup a).bind fun o=>GC o.data).any fun xs=>FY l xs.toList
theorem GY(X:K.In h)(e:O8 K l v=true):∃r:Option (Array Value),(∀M,Looks M h (seqItems? v) r)∧∀h ρ N,ae h ρ N l (r.getD #[]).toList:=
 (Bool.or_eq_true _ _▸e).elim (fun e=>aB e fun e1 e2=>by
  rw[cj e1,List.isEmpty_iff.mp e2];exact⟨none,fun M=>Looks.of_pure rfl,fun j j j=>ae.nil⟩)
 fun e=>ez e fun xs h1 e=>bO h1 fun a h2 h1=>bO h1 fun o h3 h1=>by
  obtain⟨n,hn⟩:=wy h1;obtain⟨c,d,data,sl⟩:=o;rw[iA h2];rw[show data=_ from hn] at h3;exact⟨some xs,fun M=>(Looks.ld (part:=none) (X _ _ h3)).andThen .now,fun h ρ N=>vX h ρ N e⟩
noncomputable def MW(e:FE)(p:Arguments):Bool:=decide (p.args.map (·.arg)=e.nm.take e.fn.np)&&(p.posonlyargs.isEmpty&&(p.vararg.isNone&&(p.kwonlyargs.isEmpty&&p.kwarg.isNone)))
theorem Hj(h:MW e p=true):p={ posonlyargs:=[],args:=p.args,vararg:=none,kwonlyargs:=[],kw_defaults:=p.kw_defaults,kwarg:=none,defaults:=p.defaults }:=by
 obtain⟨po,ar,va,ko,R7,ka,ds⟩:=p;have h:=aR h
 congr
 ·exact List.isEmpty_iff.mp (aL h)
 ·exact Option.isNone_iff_eq_none.mp (aL (aR h))
 ·exact List.isEmpty_iff.mp (aL (aR (aR h)))
 ·exact Option.isNone_iff_eq_none.mp (aR (aR (aR h)))
noncomputable def N8(s:Scope):Bool:=decide (s.kind=.function)&&(!s.isCoroutine&&!s.isGenerator)
noncomputable def Oj(e:FE)(s:Sc):Bool:=decide ((e.nm.take e.fn.np).length=e.fn.np)&&(decide (e.fn.dflt.length≤e.fn.np)&&(decide (e.fn.np≤1000)&&(!e.fn.vararg&&(decide e.nm.Nodup&&(decide (∀x∈e.nm.take e.fn.np,s.lookup x=some .local∨s.lookup x=some .cell)&&(decide (s.map (·.1)).Nodup&&decide (∀y∈s,y.2≠.free)))))))
noncomputable def MQ(K:Frag)(e:FE)(d:FuncData):Bool:=N8 d.scope&&(MW e d.params&&(Oj e d.scope.names&&(codeIn K d.code d.qualname&&(O8 K e.fn.dflt d.defaults&&(d.closure.isEmpty&&(decide (d.globals=mainGlobals)&&decide (d.builtins=builtinsNs)))))))
noncomputable def B3:FuncBody→Option (List Stmt)
 |.stmts b=>some b
 |_=>none
noncomputable def IZ(K:Frag)(f:Addr):Option FuncData:=(K.lookup f).bind fun o=>EF o.data
theorem DC(X:K.In h)(e:IZ K f=some d):∃o,h.get? f=some o∧o.data=.func d:=
 bO e fun o e1 e2=>⟨o,X _ _ e1,zG e2⟩
noncomputable def O5(K:Frag)(e:FE):Option (Sc×List Stmt):=(IZ K e.f).bind fun d=>gd (MQ K e d) ((B3 d.body).map fun b=>(d.scope.names,b))
theorem yc(h:B3 b=some l):b=.stmts l:=by
 cases b<;>first|(cases h;done)|(cases h;rfl)
theorem Gu(X:G.K.In G.h₀)(ur:∀i,G.pn e.f i=(e.nm.take e.fn.np)[i]?)(h:O5 G.K e=some x):rM G e.f e.fn e.nm x.1 x.2∧e.fn.np≤1000:=
 bO h fun d e1 h=>gO h fun h1 h=>mO h fun b e2 q=>by
  subst q;have hp:MW e d.params=true:=aL (aR h1);have hn:Oj e d.scope.names=true:=aL (aR (aR h1));have hz:=aR (aR (aR h1));have hs:N8 d.scope=true:=aL h1;clear h h1;refine(DC X e1).elim fun o ho=>(GY X (aL (aR hz))).elim fun r hr=>⟨⟨⟨o,d,d.params.args,none,d.params.kw_defaults,d.params.defaults,r,_,e.nm.take e.fn.np,e.nm.drop e.fn.np,ho.1,ho.2,rfl,d6 (aL hs),?_,?_,yc e2,List.isEmpty_iff.mp (aL (aR (aR hz))),d6 (aL (aR (aR (aR hz)))),
   d6 (aR (aR (aR (aR hz)))),codeRec_of X (aL hz),Hj hp,d6 (aL hp),hr.1,rfl,hr.2,?_,d6 (aL hn),by simp,ur⟩,d6 (aL (aR hn)),d6 (aL (aR (aR (aR (aR hn))))),?_,d6 (aL (aR (aR (aR (aR (aR (aR hn))))))),d6 (aR (aR (aR (aR (aR (aR (aR hn)))))))⟩,d6 (aL (aR (aR hn)))⟩
  ·exact Bool.not_eq_true' _▸aL (aR hs)
  ·exact Bool.not_eq_true' _▸aR (aR hs)
  ·exact Bool.not_eq_true' _▸aL (aR (aR (aR hn)))
  ·rw[show e.fn.vararg=false from Bool.not_eq_true' _▸aL (aR (aR (aR hn)))];exact d6 (aL (aR (aR (aR (aR (aR hn))))))
noncomputable def OP(T:Tb)(e:FE)(x:Sc×List Stmt):Ss:=if e.k==3 then Kf T e.nm x.1 100 x.2 else zT T e.nm (e.k != 2) (e.k==1) x.1 100 x.2
noncomputable def QB(K:Frag)(T:Tb)(oz:Addr→Bool)(e:FE):Bool:=T.jZ e.f==(e.k==3)&&(oz e.f==(e.k==2)&&(e.k != 2||e.cZ.calm))
structure Ly(K:Frag)(T:Tb)(oz:Addr→Bool)(e:FE):Prop where
 ck:QB K T oz e=true
 tr:(O5 K e).map (OP T e)=some e.cZ
theorem Ly.body(Q:FQ G T)(hx:G.exc=Option.none)(hC:∀f,T.jZ f=G.tb.jZ f)(ur:∀i,G.pn e.f i=(e.nm.take e.fn.np)[i]?)(X:G.K.In G.h₀)(h:Ly G.K T G.tb.oz e):∃nm sc body,BodyOk G e.f e.fn e.cZ nm sc body:=
 mO h.tr fun x e1 e2=>aB h.ck fun k1 k2=>aB k2 fun k2 k3=>by
  have k1:=cj k1;have k2:=cj k2;have F:=Gu X ur e1;have hn:=F.1.nodup;rw[hC] at k1;unfold OP at e2;refine⟨e.nm,x.1,x.2,F.1,F.2,fun c=>?_,fun c h=>?_,fun c h rc n dQ qw=>?_⟩
  ·rw[c] at k1
   rw[if_pos k1.symm] at e2;haveI k3:e.k=3:=cj k1.symm;exact⟨by rw[k2,k3];rfl,fun rc n dQ qw kT LS=>e2▸(A9 Q hx hn dQ qw kT LS 100 x.2).ok⟩
  ·rw[h] at k2
   have k4:e.k=2:=cj k2.symm;rw[k4] at k3 e2;exact⟨k3,fun y rc n dQ=>e2▸(m8 (Q.x y) (fun h=>by cases h) hn dQ 100 x.2).ok⟩
  ·rw[c] at k1
   rw[h] at k2;rw[if_neg (by rw[←k1];exact Bool.false_ne_true)] at e2;haveI hk:(e.k != 2)=true:=by show(!(e.k==2))=true;rw[←k2];rfl
   rw[hk] at e2;have S:BU G rc e.nm x.1 n true x.2 _:=m8 Q (fun j=>hx) hn dQ (z:=e.k==1) 100 x.2;exact e2▸⟨S.ok,S.x rfl qw⟩
theorem dG{α β:Type}[BEq α][LawfulBEq α]{l:List (α×β)}{f:α×β→Bool}{x:α}{y:β}(h:l.all f=true)(e:l.lookup x=some y):f (x,y)=true:=by
 induction l with
 |nil=>cases e
 |cons a l ih=>
  obtain⟨b,c⟩:=a;refine aB (show(f (b,c)&&l.all f)=true from h) fun h1 h2=>?_
  rw[List.lookup_cons] at e;cases q:x==b with
  |true=>rw[q] at e;cases e;rw[cj q];exact h1
  |false=>rw[q] at e;exact ih h2 e
noncomputable def E6(K:Frag)(n:Str)(i:Int):Bool:=((nsIn K mainGlobals n).bind fun o=>o.bind DS).any (·==i)
theorem Ak(X:K.In h)(Z:TopRead q cY mg mb h)(e:E6 K n i=true):∃t,mg n=some (.int i t):=
 ez e fun k h e=>bO h fun o h1 h=>bO h fun v h2 h=>(ru h).elim fun t ht=>⟨t,by
  rw[h2,ht,cj e] at h1;exact mg_of X Z.g h1⟩
theorem xe(X:K.In h)(e:fnIn K f=true):∃o fd,h.get? f=some o∧o.data=.func fd:=by
 unfold fnIn at e;cases hl:K.lookup f with
 |none=>rw[hl] at e;cases e
 |some o=>
  obtain⟨c,d,data,sl⟩:=o;rw[hl] at e;cases data<;>first|(cases e;done)|exact⟨_,_,X _ _ hl,rfl⟩
noncomputable def AD(K:Frag)(a:Addr)(T:String):Option Bool:=(K.lookup a).bind fun o=>gd (o.cls==.type "tuple") ((GC o.data).bind fun xs=>kitAny K (.type T) xs.toList)
theorem z0{a:Addr}{T:String}{b:Bool}(e:AD G.K a T=some b):gw G (.ref a) T b:=
 bO e fun o h1 e1=>gO e1 fun h2 e2=>bO e2 fun xs h3 e3=>(wy h3).elim fun t ht=>by
  obtain⟨c,d,data,sl⟩:=o;rw[show c=_ from cj h2,show data=_ from ht] at h1;exact CV h1 e3
noncomputable def AB(K:Frag)(B:Addr)(y:Str×Nat):Bool:=((findIn K (.ref B) y.1).bind fun o=>o.bind refOf).any fun p=>
 specialIn K (.ref p) "__get__"==some (some (.builtin "member_descriptor.__get__"))&&(takesIn K (.ref p)==some true&&(slotIn K p B==some y.2&&(takerIn K B y.1==some (some (.ref p))&&(typeIn K (.ref p)==some (.type "member_descriptor")&&decide (y.2<100)))))
theorem xA(h:AB G.K G.B (x,i)=true):lD G x i:=
 ez h fun p hp h=>bO hp fun o hp h7=>bO h7 fun v h7 h8=>
  aB h fun h1 h=>aB h fun h2 h=>aB h fun h3 h=>aB h fun h4 h=>aB h fun h5 h6=>⟨⟨p,by rw[hp,h7,iA h8],cj h1,cj h2,cj h3,cj h4,cj h5⟩,d6 h6⟩
noncomputable def Pd(K:Frag)(B:Addr)(T:Tb):Bool:=
 (nsIn K mainGlobals T.B==some (some (.ref B))&&(kitOne K (.type "str") (.type "str")==some true&&kitOne K (.type "bytes") (.type "str")==some false)) &&
 (T.md.all (fun y=>nsIn K mainGlobals y.1==some (some (.ref y.2))) &&
 (T.qT.all (fun y=>E6 K y.1 y.2) &&
 (rP.all (fun y=>nsIn K mainGlobals y.1==some none&&(bootBuiltins y.1==some y.2&&!(y.1=="__name__"))) &&
 (T.aA.all (fun y=>findIn K (.ref B) y.1==some (some (.ref y.2))&&(typeIn K (.ref y.2)==some (.type "function")&&fnIn K y.2)) &&
 (T.slot.all (AB K B) &&
 (T.oP.all (fun C=>readsIn K C (.type "type")&&(findIn K (.type "type") "py_type"==some none&&(findIn K (.ref C) "py_type"==some (some (.type "int"))&&(findIn K (.type "type") "__get__"==some none&&specialIn K (.ref C) "__getattribute__"==some (some (.builtin "type.__getattribute__")))))) &&
 (T.B7.all (fun y=>AD K y.1 "str"==some y.2&&AD K y.1 "bytes"==some (!y.2)) &&
 T.fns.all (fun y=>nsIn K mainGlobals y.1==some (some (.ref y.2))&&fnIn K y.2))))))))
theorem Fx(X:G.K.In G.h₀)(Z:TopRead q cY G.mg G.mb G.h₀)(st:cg G)(ex:wB G)(Fe:vC G)(pk:sE G)(Hs:∀f,T.jZ f=G.tb.jZ f)(LK:G.tb.jZ G.tb.init=false)(ca:∀x i,T.aQ.lookup x=some i→mE G x i)
  (kw:∀f x i,T.kw.lookup f=some (x,i)→G.pn f i=some x) (h:Pd G.K G.B T=true):FQ G T:=
 aB h fun h0 h=>aB h fun h1 h=>aB h fun h2 h=>aB h fun h3 h=>aB h fun h4 h=>aB h fun h5 h=>aB h fun h6 h=>aB h fun h7 h8=>aB h0 fun h0 h9=>aB h9 fun h9 Nx=>
 ⟨st,ex,Fe,pk,fun f e=>(Hs f).symm.trans e,LK,mg_of X Z.g (cj h0),fun x a e=>mg_of X Z.g (cj (dG h1 e)),fun x i e=>Ak X Z (dG h2 e),
  fun x v e=>aB (dG h3 e) fun a b=>aB b fun b c=>⟨ns_none_of X Z.g (cj a),by rw[Z.builtins x (fun q=>by rw[q] at c;cases c)];exact cj b⟩,
  fun x a e=>aB (dG h4 e) fun a b=>aB b fun b c=>⟨cj a,cj b,xe X c⟩,fun x i e=>xA (dG h5 e),ca,
  fun C e=>aB (List.all_eq_true.mp h6 C (List.contains_iff_mem.mp e)) fun a b=>aB b fun b c=>aB c fun c d=>aB d fun d e=>⟨⟨_,a,cj b,cj c,cj d⟩,cj e⟩,
  fun a b e=>aB (dG h7 e) fun a b=>⟨z0 (cj a),z0 (cj b)⟩,⟨vP (cj h9),vP (cj Nx)⟩,
  fun x f e=>aB (dG h8 e) fun a b=>⟨mg_of X Z.g (cj a),xe X b⟩,kw⟩
theorem qj:∀{l:List FE},(l.map fun e=>(e.f,e.fn,e.cZ)).lookup f=some x→∃e,e∈l∧(l.find? fun e=>e.f==f)=some e∧e.f=f∧x=(e.fn,e.cZ)
 |[],h=>by cases h
 |a::l,h=>by
  rw[List.map_cons,List.lookup_cons] at h;rw[List.find?_cons];cases q:f==a.f with
  |true=>
   have q2:=cj q;rw[q] at h;exact⟨a,List.mem_cons_self,by rw[q2];simp,q2.symm,(cQ h).symm⟩
  |false=>
   rw[q] at h;obtain⟨e,m,h1,h2⟩:=qj h;have q2:(a.f==f)=false:=by rw[beq_eq_false_iff_ne] at q ⊢;exact fun z=>q z.symm
   exact⟨e,List.mem_cons_of_mem _ m,by rw[q2];exact h1,h2⟩
theorem Gw(hL:l.map (fun e=>(e.f,e.fn,e.cZ))=L)(X:G.K.In G.h₀)(Q:FQ G T)(hx:G.exc=Option.none)(hC:∀f,T.jZ f=G.tb.jZ f)(ur:∀f i,G.pn f i=Dc l f i)(h:∀e∈l,Ly G.K T G.tb.oz e)(n:Nat):Cc G (run G.tb (fun f=>L.lookup f) n) n:=
 (runs (fns:=fun f=>L.lookup f) Q.st hx (fun f fn cZ e=>by
  obtain⟨a,m,e1,rfl,e2⟩:=qj (hL▸e);cases e2;exact(h a m).body Q hx hC (fun i=>by rw[ur];unfold Dc;rw[e1];rfl) X) n).2.2.1
end
end Sv
namespace Sv.L2
open PySem PySem.W PyProof.Rows PySem.Calls PySem.Builtin Sv
noncomputable abbrev eC:Nat:=154
noncomputable def gi:Fn:=⟨2,[],false,0⟩
noncomputable def ew:Ss:=(.cons (.ite (.and (.cmp .is (.aQ (.var 1) 1) (.lit .none)) (.cmp .is (.aQ (.var 1) 2) (.lit .none))) (.cons (.ret .none) .nil) .nil) (.cons (.ite (.un .not (.tf .le .le (.aQ (.var 1) 1) (.var 0) (.aQ (.var 1) 2))) Ss.no .nil) .nil))
noncomputable abbrev lE:Nat:=161
noncomputable def wt:Fn:=⟨4,[],false,0⟩
noncomputable def vj:Ss:=(.cons (.expr (.aD (.var 0) .packInto (.cons (.var 1) (.cons (.var 2) (.cons (.var 3) .nil))))) .nil)
noncomputable abbrev iN:Nat:=255
noncomputable def nT:Fn:=⟨2,[(.int 1024)],false,1⟩
noncomputable def la:Ss:=(.cons (.ite (.un .not (.tf .le .le (.lit (.int 0)) (.var 1) (.aQ (.lit (.ba (.ref 641))) 4))) Ss.no .nil) (.cons (.setSlot (.var 0) 0 (.bcall .bytearray (.cons (.var 1) .nil))) (.cons (.setSlot (.var 0) 1 (.lit .none)) (.cons (.setSlot (.var 0) 4 (.bcall .intOf (.cons (.var 1) .nil))) (.cons (.setSlot (.var 0) 5 (.lit (.int 1))) (.cons (.setSlot (.var 0) 7 (.lit .none)) (.cons (.setSlot (.var 0) 10 (.cz 1)) (.cons (.setSlot (.var 0) 6 (.lit (.bool false))) (.cons (.setSlot (.var 0) 3 (.lit (.bool false))) (.cons (.setSlot (.var 0) 8 (.lit .none)) (.cons (.setSlot (.var 0) 2 (.lit (.bool false))) .nil)))))))))))
noncomputable abbrev rq:Nat:=262
noncomputable def xd:Fn:=⟨1,[],false,0⟩
noncomputable def uV:Ss:=(.cons (.setSlot (.var 0) 1 (.lit .none)) (.cons (.setSlot (.var 0) 4 (.bcall .len (.cons (.slot (.var 0) 0) .nil))) (.cons (.setSlot (.var 0) 5 (.lit (.int 1))) (.cons (.setSlot (.var 0) 7 (.lit .none)) (.cons (.setSlot (.var 0) 10 (.cz 1)) (.cons (.setSlot (.var 0) 6 (.lit (.bool false))) (.cons (.setSlot (.var 0) 3 (.lit (.bool false))) (.cons (.setSlot (.var 0) 8 (.lit .none)) (.cons (.setSlot (.var 0) 9 (.lit .none)) (.cons (.setSlot (.var 0) 2 (.lit (.bool false))) .nil))))))))))
noncomputable abbrev mF:Nat:=269
noncomputable def tQ:Fn:=⟨1,[],false,0⟩
noncomputable def rF:Ss:=(.cons (.ite (.un .not (.slot (.var 0) 2)) Ss.no .nil) (.cons (.ret (some (.slice (.slot (.var 0) 0) (some (.slot (.var 0) 4)) .none false))) .nil))
noncomputable abbrev bP:Nat:=276
noncomputable def jr:Fn:=⟨2,[],false,0⟩
noncomputable def gJ:Ss:=(.cons (.expr (.aA (.var 0) 389 .nil .none .none)) (.cons (.setSlot (.var 0) 1 (.kg (.var 1))) (.cons (.setSlot (.var 0) 7 (.aA (.var 0) 311 .nil .none .none)) (.cons (.setSlot (.var 0) 6 (.lit (.bool true))) .nil))))
noncomputable abbrev bx:Nat:=283
noncomputable def jq:Fn:=⟨1,[],false,11⟩
noncomputable def cx:Ss:=(.cons (.expr (.aA (.var 0) 332 (.cons (.lit (.int 0)) .nil) .none .none)) (.cons (.assign 1 (.aA (.var 0) 311 .nil .none .none)) (.cons (.assign 2 .dw) (.cons (.assign 3 (.lit (.bool true))) (.cons (.mi (.name 4) (.rev (.slot (.var 0) 1)) (.cons (.ite (.cmp .eq (.var 4) (.lit (.int 0))) (.cons (.ite (.var 3) (.cons .cont .nil) .nil) .nil) (.cons (.assign 4 (.bin .sub (.var 1) (.var 4))) (.cons (.assign 3 (.lit (.bool false))) .nil))) (.cons (.expr (.aD (.var 2) .append (.cons (.var 4) .nil))) .nil))) (.cons (.assign 5 (.bcall .intOf (.cons (.bin .sub (.var 1) (.slot (.var 0) 7)) .nil))) (.cons (.expr (.aD (.var 2) .append (.cons (.var 5) .nil))) (.cons (.assign 2 (.bcall .tuple (.cons (.var 2) .nil))) (.cons (.assign 6 (.aD (.slot (.var 0) 10) .get (.cons (.var 2) .nil))) (.cons (.ite (.cmp .is (.var 6) (.lit .none)) (.cons (.assign 7 (.bin .sub (.bcall .len (.cons (.slot (.var 0) 1) .nil)) (.lit (.int 1)))) (.cons (.assign 8 (.lit (.int 0))) (.cons (.assign 3 (.lit (.bool true))) (.cons (.gN (.cmp .ge (.var 7) (.lit (.int 0))) (.cons (.assign 9 (.lit (.int 0))) (.cons (.assign 4 (.sub (.slot (.var 0) 1) (.var 7))) (.cons (.aug 7 .sub (.lit (.int 1))) (.cons (.ite (.cmp .eq (.var 4) (.lit (.int 0))) (.cons (.ite (.var 3) (.cons (.aug 8 .add (.lit (.int 1))) (.cons .cont .nil)) .nil) .nil) (.cons (.assign 9 (.bin .sub (.var 1) (.var 4))) (.cons (.assign 3 (.lit (.bool false))) .nil))) (.cons (.expr (.aA (.var 0) 609 (.cons (.var 9) .nil) .none .none)) .nil)))))) (.cons (.expr (.aA (.var 0) 609 (.cons (.bcall .intOf (.cons (.var 5) .nil)) .nil) .none .none)) (.cons (.assign 10 (.bin .add (.bin .sub (.bcall .len (.cons (.slot (.var 0) 1) .nil)) (.var 8)) (.lit (.int 2)))) (.cons (.aug 10 .mul (.aQ (.lit (.ba (.ref 145))) 0)) (.cons (.expr (.aA (.var 0) 609 (.cons (.bcall .intOf (.cons (.var 10) .nil)) .nil) .none .none)) (.cons (.assign 11 (.bcall .intOf (.cons (.bin .sub (.bcall .len (.cons (.slot (.var 0) 0) .nil)) (.var 1)) .nil))) (.cons (.expr (.aY 161 (.cons (.lit (.ba (.ref 55))) (.cons (.slot (.var 0) 0) (.cons (.var 11) (.cons (.bcall .intOf (.cons (.bin .sub (.aA (.var 0) 311 .nil .none .none) (.var 1)) .nil)) .nil)))) .none .none)) (.cons (.eZ (.slot (.var 0) 10) (.var 2) (.aA (.var 0) 311 .nil .none .none)) .nil))))))))))) (.cons (.assign 11 (.bcall .intOf (.cons (.bin .sub (.bcall .len (.cons (.slot (.var 0) 0) .nil)) (.var 1)) .nil))) (.cons (.setSlot (.var 0) 4 (.bcall .intOf (.cons (.var 11) .nil))) (.cons (.expr (.aY 161 (.cons (.lit (.ba (.ref 55))) (.cons (.slot (.var 0) 0) (.cons (.aA (.var 0) 304 .nil .none .none) (.cons (.bcall .intOf (.cons (.bin .sub (.var 6) (.var 1)) .nil)) .nil)))) .none .none)) .nil)))) (.cons (.setSlot (.var 0) 1 (.lit .none)) (.cons (.ret (some (.var 1))) .nil))))))))))))
noncomputable abbrev dC:Nat:=290
noncomputable def lX:Fn:=⟨1,[],false,0⟩
noncomputable def gC:Ss:=(.cons (.expr (.aA (.var 0) 382 .nil .none .none)) (.cons (.setSlot (.var 0) 6 (.lit (.bool false))) (.cons (.ret (some (.aA (.var 0) 283 .nil .none .none))) .nil)))
noncomputable abbrev eA:Nat:=297
noncomputable def gj:Fn:=⟨1,[],false,3⟩
noncomputable def dy:Ss:=(.cons (.ite (.cmp .eq (.bcall .len (.cons (.slot (.var 0) 0) .nil)) (.aQ (.lit (.ba (.ref 641))) 4)) Ss.no .nil) (.cons (.assign 2 (.bcall .min2 (.cons (.bin .mul (.bcall .len (.cons (.slot (.var 0) 0) .nil)) (.lit (.int 2))) (.cons (.aQ (.lit (.ba (.ref 641))) 4) .nil)))) (.cons (.ite (.cmp .eq (.var 2) (.lit (.int 0))) (.cons (.assign 2 (.lit (.int 1))) .nil) .nil) (.cons (.assign 3 (.bcall .bytearray (.cons (.var 2) .nil))) (.cons (.cE (.var 3) (some (.bin .sub (.var 2) (.bcall .len (.cons (.slot (.var 0) 0) .nil)))) .none (.slot (.var 0) 0)) (.cons (.setSlot (.var 0) 0 (.var 3)) .nil))))))
noncomputable abbrev sP:Nat:=304
noncomputable def zR:Fn:=⟨1,[],false,0⟩
noncomputable def Ay:Ss:=(.cons (.ret (some (.slot (.var 0) 4))) .nil)
noncomputable abbrev bJ:Nat:=311
noncomputable def sT:Fn:=⟨1,[],false,0⟩
noncomputable def rb:Ss:=(.cons (.ret (some (.bin .sub (.bcall .len (.cons (.slot (.var 0) 0) .nil)) (.slot (.var 0) 4)))) .nil)
noncomputable abbrev Ip:Nat:=318
noncomputable def ET:Fn:=⟨2,[],false,1⟩
noncomputable def Co:Ss:=(.cons (.ite (.cmp .le (.var 1) (.lit (.int 0))) (.cons (.ret .none) .nil) .nil) (.cons (.assign 2 (.bin .sub (.slot (.var 0) 4) (.var 1))) (.cons (.cE (.slot (.var 0) 0) (some (.var 2)) (some (.slot (.var 0) 4)) (.bin .mul (.lit (.bytes [0])) (.var 1))) (.cons (.setSlot (.var 0) 4 (.var 2)) .nil))))
noncomputable abbrev ir:Nat:=325
noncomputable def BB:Fn:=⟨3,[],false,5⟩
noncomputable def BN:Ss:=(.cons (.ite (.cmp .gt (.var 1) (.slot (.var 0) 5)) (.cons (.setSlot (.var 0) 5 (.var 1)) .nil) .nil) (.cons (.assign 3 (.slot (.var 0) 4)) (.cons (.assign 4 (.bcall .len (.cons (.slot (.var 0) 0) .nil))) (.cons (.assign 5 (.bin .add (.un .inv (.bin .add (.bin .sub (.var 4) (.var 3)) (.var 2))) (.lit (.int 1)))) (.cons (.aug 5 .band (.bin .sub (.var 1) (.lit (.int 1)))) (.cons (.assign 6 (.bin .add (.bin .add (.var 5) (.var 1)) (.var 2))) (.cons (.gN (.cmp .lt (.var 3) (.var 6)) (.cons (.assign 7 (.var 4)) (.cons (.expr (.aA (.var 0) 297 .nil .none .none)) (.cons (.assign 4 (.bcall .len (.cons (.slot (.var 0) 0) .nil))) (.cons (.aug 3 .add (.bin .sub (.var 4) (.var 7))) .nil))))) (.cons (.setSlot (.var 0) 4 (.var 3)) (.cons (.expr (.aA (.var 0) 318 (.cons (.var 5) .nil) .none .none)) .nil)))))))))
noncomputable abbrev aX:Nat:=332
noncomputable def di:Fn:=⟨2,[],false,2⟩
noncomputable def bZ:Ss:=(.cons (.expr (.aA (.var 0) 325 (.cons (.aQ (.lit (.ba (.ref 121))) 0) (.cons (.lit (.int 0)) .nil)) .none .none)) (.cons (.ite (.un .not (.cmp .le (.var 1) (.aA (.var 0) 311 .nil .none .none))) Ss.no .nil) (.cons (.assign 3 (.bin .add (.bin .sub (.aA (.var 0) 311 .nil .none .none) (.var 1)) (.aQ (.lit (.ba (.ref 121))) 0))) (.cons (.expr (.aA (.var 0) 630 (.cons (.var 3) .nil) .none .none)) .nil))))
noncomputable abbrev bj:Nat:=339
noncomputable def dj:Fn:=⟨2,[],false,2⟩
noncomputable def bY:Ss:=(.cons (.expr (.aA (.var 0) 325 (.cons (.aQ (.lit (.ba (.ref 133))) 0) (.cons (.lit (.int 0)) .nil)) .none .none)) (.cons (.ite (.un .not (.cmp .le (.var 1) (.aA (.var 0) 311 .nil .none .none))) Ss.no .nil) (.cons (.assign 3 (.bin .add (.bin .sub (.aA (.var 0) 311 .nil .none .none) (.var 1)) (.aQ (.lit (.ba (.ref 133))) 0))) (.cons (.expr (.aA (.var 0) 637 (.cons (.var 3) .nil) .none .none)) .nil))))
noncomputable abbrev eI:Nat:=346
noncomputable def jn:Fn:=⟨4,[],false,0⟩
noncomputable def gA:Ss:=(.cons (.expr (.aA (.var 0) 389 .nil .none .none)) (.cons (.setSlot (.var 0) 6 (.lit (.bool true))) (.cons (.setSlot (.var 0) 9 (.var 2)) (.cons (.expr (.aA (.var 0) 325 (.cons (.aQ (.lit (.ba (.ref 93))) 0) (.cons (.bin .mul (.var 1) (.var 2)) .nil)) .none .none)) (.cons (.expr (.aA (.var 0) 325 (.cons (.var 3) (.cons (.bin .mul (.var 1) (.var 2)) .nil)) .none .none)) (.cons (.ret (some (.aA (.var 0) 311 .nil .none .none))) .nil))))))
noncomputable abbrev dz:Nat:=354
noncomputable def lU:Fn:=⟨2,[.none],false,0⟩
noncomputable def jJ:Ss:=(.cons (.expr (.aA (.var 0) 382 .nil .none .none)) (.cons (.setSlot (.var 0) 6 (.lit (.bool false))) (.cons (.ite (.var 1) (.cons (.ite (.cmp .ne (.var 1) (.slot (.var 0) 9)) Ss.no .nil) .nil) .nil) (.cons (.expr (.aA (.var 0) 637 (.cons (.slot (.var 0) 9) .nil) .none .none)) (.cons (.setSlot (.var 0) 9 (.lit .none)) (.cons (.ret (some (.aA (.var 0) 311 .nil .none .none))) .nil))))))
noncomputable abbrev aP:Nat:=361
noncomputable def el:Fn:=⟨2,[],false,1⟩
noncomputable def bM:Ss:=(.cons (.ite (.un .not (.slot (.var 0) 8)) (.cons (.setSlot (.var 0) 8 (.cz 2)) .nil) (.cons (.ite (.cmp .isin (.var 1) (.slot (.var 0) 8)) (.cons (.ret (some (.sub (.slot (.var 0) 8) (.var 1)))) .nil) .nil) .nil)) (.cons (.cy 2 (.aA (.var 0) 368 (.cons (.var 1) .nil) .none .none)) (.cons (.eZ (.slot (.var 0) 8) (.var 1) (.var 2)) (.cons (.ret (some (.var 2))) .nil))))
noncomputable abbrev bQ:Nat:=368
noncomputable def ia:Fn:=⟨2,[],false,3⟩
noncomputable def dp:Ss:=(.cons (.fp (.aA (.var 0) 389 .nil .none .none)) (.cons (.setSlot (.var 0) 6 (.lit (.bool true))) (.cons (.ite (.bcall (uK true) (.cons (.var 1) .nil)) (.cons (.assign 2 (.aD (.var 1) .encode (.cons (.lit (.str (Str.ofString "utf-8"))) .nil))) .nil) (.cons (.ite (.bcall (uK false) (.cons (.var 1) .nil)) (.cons (.assign 2 (.var 1)) .nil) Ss.no) .nil)) (.cons (.assign 3 (.bcall .len (.cons (.var 2) .nil))) (.cons (.expr (.aA (.var 0) 325 (.cons (.aQ (.lit (.ba (.ref 133))) 0) (.cons (.bin .mul (.bin .add (.var 3) (.lit (.int 1))) (.aQ (.lit (.ba (.ref 65))) 0)) .nil)) .none .none)) (.cons (.expr (.aA (.var 0) 616 (.cons (.lit (.int 0)) (.cons (.lit (.ba (.ref 65))) .nil)) .none .none)) (.cons (.assign 4 (.bin .sub (.slot (.var 0) 4) (.var 3))) (.cons (.setSlot (.var 0) 4 (.var 4)) (.cons (.cE (.slot (.var 0) 0) (some (.var 4)) (some (.bin .add (.var 4) (.var 3))) (.var 2)) (.cons (.setSlot (.var 0) 9 (.var 3)) (.cons (.ret (some (.aA (.var 0) 354 .nil .none .none))) .nil)))))))))))
noncomputable abbrev bI:Nat:=375
noncomputable def fg:Fn:=⟨2,[],false,2⟩
noncomputable def cO:Ss:=(.cons (.fp (.aA (.var 0) 389 .nil .none .none)) (.cons (.setSlot (.var 0) 6 (.lit (.bool true))) (.cons (.ite (.un .not (.bcall (uK false) (.cons (.var 1) .nil))) Ss.no .nil) (.cons (.assign 2 (.bcall .len (.cons (.var 1) .nil))) (.cons (.expr (.aA (.var 0) 325 (.cons (.aQ (.lit (.ba (.ref 133))) 0) (.cons (.bin .mul (.var 2) (.aQ (.lit (.ba (.ref 65))) 0)) .nil)) .none .none)) (.cons (.assign 3 (.bin .sub (.slot (.var 0) 4) (.var 2))) (.cons (.setSlot (.var 0) 4 (.var 3)) (.cons (.cE (.slot (.var 0) 0) (some (.var 3)) (some (.bin .add (.var 3) (.var 2))) (.var 1)) (.cons (.setSlot (.var 0) 9 (.var 2)) (.cons (.ret (some (.aA (.var 0) 354 .nil .none .none))) .nil))))))))))
noncomputable abbrev f9:Nat:=382
noncomputable def iH:Fn:=⟨1,[],false,0⟩
noncomputable def fZ:Ss:=(.cons (.ite (.un .not (.slot (.var 0) 6)) Ss.no .nil) .nil)
noncomputable abbrev c8:Nat:=389
noncomputable def fG:Fn:=⟨1,[],false,0⟩
noncomputable def dc:Ss:=(.cons (.ite (.slot (.var 0) 6) (.cons (.raise 1) .nil) .nil) .nil)
noncomputable abbrev wN:Nat:=403
noncomputable def y4:Fn:=⟨2,[],false,0⟩
noncomputable def As:Ss:=(.cons (.expr (.aA (.var 0) 382 .nil .none .none)) (.cons (.eZ (.slot (.var 0) 1) (.var 1) (.aA (.var 0) 311 .nil .none .none)) .nil))
noncomputable abbrev dK:Nat:=411
noncomputable def fh:Fn:=⟨4,[.none],false,3⟩
noncomputable def dI:Ss:=(.cons (.expr (.aY 154 (.cons (.var 1) (.cons (.lit (.ba (.ref 133))) .nil)) .none .none)) (.cons (.assign 4 (.aQ (.lit (.ba (.ref 133))) 0)) (.cons (.ite (.cmp .qp (.var 3) (.lit .none)) (.cons (.aug 4 .add (.aQ (.lit (.ba (.ref 107))) 0)) .nil) .nil) (.cons (.ite (.var 2) (.cons (.aug 4 .add (.aQ (.lit (.ba (.ref 107))) 0)) .nil) .nil) (.cons (.expr (.aA (.var 0) 325 (.cons (.slot (.var 0) 5) (.cons (.var 4) .nil)) .none .none)) (.cons (.ite (.cmp .qp (.var 3) (.lit .none)) Ss.no .nil) (.cons (.expr (.aA (.var 0) 339 (.cons (.var 1) .nil) .none .none)) (.cons (.ite (.var 2) Ss.no .nil) (.cons (.setSlot (.var 0) 2 (.lit (.bool true))) (.cons (.ret (some (.slot (.var 0) 4))) .nil))))))))))
noncomputable abbrev mD:Nat:=419
noncomputable def tu:Fn:=⟨3,[.none],false,0⟩
noncomputable def rY:Ss:=(.cons (.ret (some (.aA (.var 0) 411 (.cons (.var 1) (.cons (.lit (.bool false)) .nil)) .none (some (3,(.var 2)))))) .nil)
noncomputable abbrev n7:Nat:=434
noncomputable def qC:Fn:=⟨3,[],false,0⟩
noncomputable def nU:Ss:=(.cons (.expr (.aA (.var 0) 325 (.cons (.aQ (.var 1) 0) (.cons (.lit (.int 0)) .nil)) .none .none)) (.cons (.expr (.aA (.var 0) 616 (.cons (.var 2) (.cons (.var 1) .nil)) .none .none)) .nil))
noncomputable abbrev bl:Nat:=518
noncomputable def cn:Fn:=⟨4,[],false,0⟩
noncomputable def bL:Ss:=(.cons (.ite (.or (.cmp .ne (.var 2) (.var 3)) (.slot (.var 0) 3)) (.cons (.expr (.aA (.var 0) 339 (.cons (.var 2) .nil) .none .none)) (.cons (.expr (.aA (.var 0) 403 (.cons (.var 1) .nil) .none .none)) .nil)) .nil) .nil)
noncomputable abbrev aG:Nat:=609
noncomputable def fN:Fn:=⟨2,[],false,0⟩
noncomputable def dW:Ss:=(.cons (.expr (.aA (.var 0) 434 (.cons (.lit (.ba (.ref 145))) (.cons (.var 1) .nil)) .none .none)) .nil)
noncomputable abbrev vi:Nat:=616
noncomputable def v7:Fn:=⟨3,[],false,1⟩
noncomputable def vw:Ss:=(.cons (.expr (.aY 154 (.cons (.var 1) (.cons (.var 2) .nil)) .none .none)) (.cons (.assign 3 (.bin .sub (.slot (.var 0) 4) (.aQ (.var 2) 0))) (.cons (.setSlot (.var 0) 4 (.var 3)) (.cons (.expr (.aY 161 (.cons (.aQ (.var 2) 3) (.cons (.slot (.var 0) 0) (.cons (.var 3) (.cons (.var 1) .nil)))) .none .none)) .nil))))
noncomputable abbrev fq:Nat:=630
noncomputable def gR:Fn:=⟨2,[],false,1⟩
noncomputable def fb:Ss:=(.cons (.expr (.aY 154 (.cons (.var 1) (.cons (.lit (.ba (.ref 121))) .nil)) .none .none)) (.cons (.assign 2 (.bin .sub (.slot (.var 0) 4) (.aQ (.lit (.ba (.ref 121))) 0))) (.cons (.setSlot (.var 0) 4 (.var 2)) (.cons (.expr (.aY 161 (.cons (.lit (.ba (.ref 55))) (.cons (.slot (.var 0) 0) (.cons (.var 2) (.cons (.var 1) .nil)))) .none .none)) .nil))))
noncomputable abbrev eR:Nat:=637
noncomputable def gS:Fn:=⟨2,[],false,1⟩
noncomputable def fo:Ss:=(.cons (.expr (.aY 154 (.cons (.var 1) (.cons (.lit (.ba (.ref 133))) .nil)) .none .none)) (.cons (.assign 2 (.bin .sub (.slot (.var 0) 4) (.aQ (.lit (.ba (.ref 133))) 0))) (.cons (.setSlot (.var 0) 4 (.var 2)) (.cons (.expr (.aY 161 (.cons (.lit (.ba (.ref 54))) (.cons (.slot (.var 0) 0) (.cons (.var 2) (.cons (.var 1) .nil)))) .none .none)) .nil))))
noncomputable abbrev iB:Nat:=661
noncomputable def kR:Fn:=⟨0,[],false,1⟩
noncomputable def ic:Ss:=(.cons (.assign 0 (.list (.cons (.lit (.str (Str.ofString ""))) (.cons (.lit (.str (Str.ofString "a"))) (.cons (.lit (.str (Str.ofString "ab"))) (.cons (.bcall .chr (.cons (.lit (.int 233)) .nil)) (.cons (.bin .add (.bin .add (.lit (.str (Str.ofString "a"))) (.bcall .chr (.cons (.lit (.int 8364)) .nil))) (.lit (.str (Str.ofString "bc")))) .nil))))))) (.cons (.ret (some (.bin .add (.var 0) (.list (.cons (.lit (.bytes [97])) (.cons (.aD (.sub (.var 0) (.lit (.int 3))) .encode (.cons (.lit (.str (Str.ofString "utf-8"))) .nil)) (.cons (.lit (.bytes [97,98,99,100,101])) .nil))))))) .nil))
noncomputable abbrev cG:Nat:=668
noncomputable def hO:Fn:=⟨1,[],false,0⟩
noncomputable def eb:Ss:=(.cons (.ret (some (.ite (.bcall (uK true) (.cons (.var 0) .nil)) (.aD (.var 0) .encode (.cons (.lit (.str (Str.ofString "utf-8"))) .nil)) (.var 0)))) .nil)
noncomputable abbrev dn:Nat:=675
noncomputable def iu:Fn:=⟨3,[],false,0⟩
noncomputable def fW:Ss:=(.cons (.expr (.aA (.var 0) 276 (.cons (.lit (.int 0)) .nil) .none .none)) (.cons (.n8 (.cons (.ite (.var 2) (.cons (.fp (.aA (.var 0) 375 (.cons (.aY 668 (.cons (.var 1) .nil) .none .none) .nil) .none .none)) .nil) (.cons (.fp (.aA (.var 0) 368 (.cons (.var 1) .nil) .none .none)) .nil)) .nil) 1 (.cons (.expr (.aA (.var 0) 290 .nil .none .none)) (.cons (.ret (some (.lit (.bool true)))) .nil))) (.cons (.ret (some (.lit (.bool false)))) .nil)))
noncomputable abbrev ct:Nat:=682
noncomputable def eE:Fn:=⟨3,[],false,2⟩
noncomputable def dA:Ss:=(.cons (.expr (.aA (.var 0) 276 (.cons (.lit (.int 1)) .nil) .none .none)) (.cons (.mi (.name 3) (.dM (.bcall .len (.cons (.var 1) .nil))) (.cons (.n8 (.cons (.cy 4 (.aA (.var 0) 361 (.cons (.sub (.var 1) (.var 3)) .nil) .none .none)) .nil) 1 (.cons (.assign 4 (.lit .none)) .nil)) (.cons (.ite (.cmp .ne (.var 4) (.aD (.var 2) .get (.cons (.var 3) .nil))) (.cons (.ret (some (.lit (.bool false)))) .nil) .nil) .nil))) (.cons (.expr (.aA (.var 0) 290 .nil .none .none)) (.cons (.ret (some (.lit (.bool true)))) .nil))))
noncomputable abbrev cU:Nat:=689
noncomputable def lT:Fn:=⟨4,[],false,3⟩
noncomputable def eW:Ss:=(.cons (.bA [4,5] (.tup (.cons (.bin .mod (.bin .floordiv (.var 1) (.lit (.int 8))) (.lit (.int 8))) (.cons (.bin .mod (.var 1) (.lit (.int 8))) .nil)))) (.cons (.ite (.cmp .lt (.var 5) (.lit (.int 5))) (.cons (.assign 6 (.aA (.var 0) 361 (.cons (.sub (.var 2) (.var 4)) .nil) .none .none)) (.cons (.ite (.cmp .ne (.aD (.var 3) .setdefault (.cons (.var 4) (.cons (.var 6) .nil))) (.var 6)) (.cons (.ret (some (.lit .none))) .nil) .nil) (.cons (.ret (some (.tup (.cons (.var 4) (.cons (.lit (.bool false)) (.cons (.var 6) .nil)))))) .nil))) .nil) (.cons (.ite (.cmp .lt (.var 5) (.lit (.int 7))) (.cons (.ret (some (.tup (.cons (.var 4) (.cons (.lit (.bool false)) (.cons (.aA (.var 0) 368 (.cons (.sub (.var 2) (.var 4)) .nil) .none .none) .nil)))))) .nil) .nil) (.cons (.ret (some (.tup (.cons (.var 4) (.cons (.lit (.bool true)) (.cons (.aA (.var 0) 375 (.cons (.aY 668 (.cons (.sub (.var 2) (.var 4)) .nil) .none .none) .nil) .none .none) .nil)))))) .nil))))
noncomputable abbrev bV:Nat:=694
noncomputable def qx:Fn:=⟨3,[],false,1⟩
noncomputable def oh:Ss:=(.cons (.ret (some (.bcall .u4 (.cons (.comp (.gen (.name 3) (.dM (.var 2)) .nil (.elt (.bin .mul (.sub (.var 0) (.bin .add (.var 1) (.var 3))) (.bin .pow (.lit (.int 256)) (.var 3)))))) .nil)))) .nil)
noncomputable abbrev ff:Nat:=701
noncomputable def l5:Fn:=⟨5,[],false,2⟩
noncomputable def gF:Ss:=(.cons (.assign 5 (.aY 668 (.cons (.sub (.var 2) (.var 3)) .nil) .none .none)) (.cons (.assign 6 (.bin .add (.bin .add (.bcall .bytes (.cons (.list (.cons (.bcall .len (.cons (.var 5) .nil)) (.cons (.lit (.int 0)) (.cons (.lit (.int 0)) (.cons (.lit (.int 0)) .nil))))) .nil)) (.var 5)) (.ite (.var 4) (.lit (.bytes [])) (.bcall .bytes (.cons (.lit (.int 1)) .nil))))) (.cons (.ret (some (.tup (.cons (.and (.cmp .eq (.bin .mod (.var 1) (.lit (.int 4))) (.lit (.int 0))) (.cmp .eq (.slice (.var 0) (some (.var 1)) (some (.bin .add (.var 1) (.bcall .len (.cons (.var 6) .nil)))) false) (.var 6))) (.cons (.bin .add (.var 1) (.bcall .len (.cons (.var 6) .nil))) .nil))))) .nil)))
noncomputable abbrev b9:Nat:=706
noncomputable def fF:Fn:=⟨3,[],false,15⟩
noncomputable def dX:Ss:=(.cons (.assign 3 (.aY 694 (.cons (.var 0) (.cons (.lit (.int 0)) (.cons (.lit (.int 4)) .nil))) .none .none)) (.cons (.assign 4 (.aY 694 (.cons (.var 0) (.cons (.var 3) (.cons (.lit (.int 4)) .nil))) .none .none)) (.cons (.assign 5 (.bin .sub (.var 3) (.ite (.cmp .lt (.var 4) (.bin .pow (.lit (.int 2)) (.lit (.int 31)))) (.var 4) (.bin .sub (.var 4) (.bin .pow (.lit (.int 2)) (.lit (.int 32))))))) (.cons (.assign 6 (.bin .add (.var 3) (.aY 694 (.cons (.var 0) (.cons (.bin .add (.var 5) (.lit (.int 4))) (.cons (.lit (.int 2)) .nil))) .none .none))) (.cons (.assign 7 (.bin .add (.var 6) (.aY 694 (.cons (.var 0) (.cons (.var 6) (.cons (.lit (.int 4)) .nil))) .none .none))) (.cons (.ite (.or (.cmp .ne (.aY 694 (.cons (.var 0) (.cons (.var 5) (.cons (.lit (.int 2)) .nil))) .none .none) (.lit (.int 6))) (.cmp .ne (.aY 694 (.cons (.var 0) (.cons (.var 7) (.cons (.lit (.int 4)) .nil))) .none .none) (.bcall .len (.cons (.var 2) .nil)))) (.cons (.ret (some (.lit (.bool false)))) .nil) .nil) (.cons (.assign 8 (.cz 0)) (.cons (.mi (.name 9) (.dM (.bcall .len (.cons (.var 2) .nil))) (.cons (.bA [10,11,12] (.sub (.var 2) (.var 9))) (.cons (.assign 13 (.bin .add (.bin .add (.var 7) (.lit (.int 4))) (.bin .mul (.lit (.int 4)) (.var 9)))) (.cons (.assign 14 (.bin .add (.var 13) (.aY 694 (.cons (.var 0) (.cons (.var 13) (.cons (.lit (.int 4)) .nil))) .none .none))) (.cons (.bA [15,16] (.aY 701 (.cons (.var 0) (.cons (.var 14) (.cons (.var 1) (.cons (.var 10) (.cons (.var 11) .nil))))) .none .none)) (.cons (.ite (.or (.un .not (.var 15)) (.or (.cmp .ne (.var 14) (.bin .sub (.bcall .len (.cons (.var 0) .nil)) (.var 12))) (.cmp .ne (.aD (.var 8) .setdefault (.cons (.var 14) (.cons (.var 16) .nil))) (.var 16)))) (.cons (.ret (some (.lit (.bool false)))) .nil) .nil) .nil)))))) (.cons (.assign 17 (.bcall .sorted (.cons (.var 8) .nil))) (.cons (.ret (some (.bcall .vz (.cons (.comp (.gen (.name 9) (.dM (.bin .sub (.bcall .len (.cons (.var 17) .nil)) (.lit (.int 1)))) .nil (.elt (.cmp .le (.sub (.var 8) (.sub (.var 17) (.var 9))) (.sub (.var 17) (.bin .add (.var 9) (.lit (.int 1)))))))) .nil)))) .nil))))))))))
noncomputable abbrev cc:Nat:=713
noncomputable def fK:Fn:=⟨3,[],false,1⟩
noncomputable def dS:Ss:=(.cons (.mi (.name 3) (.yV (.var 1)) (.cons (.expr (.aA (.var 0) 361 (.cons (.var 3) .nil) .none .none)) .nil)) (.cons (.ite (.cmp .eq (.bin .mod (.bin .floordiv (.var 2) (.lit (.int 4))) (.lit (.int 2))) (.lit (.int 1))) (.cons (.expr (.aA (.var 0) 276 (.cons (.lit (.int 2)) .nil) .none .none)) .nil) .nil) (.cons (.expr (.aA (.var 0) 262 .nil .none .none)) .nil)))
noncomputable abbrev Gf:Nat:=720
noncomputable def Ft:Fn:=⟨1,[],false,11⟩
noncomputable def Gk:Ss:=(.cons (.assign 1 (.ite (.cmp .gt (.bcall .len (.cons (.var 0) .nil)) (.lit (.int 0))) (.sub (.var 0) (.lit (.int 0))) (.lit (.int 0)))) (.cons (.assign 2 (.oU (.cons (.bin .mod (.bin .floordiv (.var 1) (.lit (.int 8))) (.lit (.int 40))) .nil))) (.cons (.assign 3 (.aY 661 .nil .none .none)) (.cons (.ite (.cmp .gt (.bin .mod (.var 1) (.lit (.int 4))) (.lit (.int 1))) (.cons (.expr (.aY 713 (.cons (.var 2) (.cons (.var 3) (.cons (.var 1) .nil))) .none .none)) .nil) .nil) (.cons (.bA [4,5,6] (.tup (.cons .dw (.cons (.cz 0) (.cons .dw .nil))))) (.cons (.mi (.name 7) (.yV (.slice (.var 0) (some (.lit (.int 1))) (some (.lit (.int 15))) false)) (.cons (.ite (.and (.cmp .eq (.bin .mod (.bin .floordiv (.var 7) (.lit (.int 64))) (.lit (.int 3))) (.lit (.int 1))) (.un .not (.aY 675 (.cons (.var 2) (.cons (.sub (.var 3) (.bin .mod (.bin .floordiv (.var 7) (.lit (.int 8))) (.lit (.int 8)))) (.cons (.cmp .eq (.bin .mod (.var 7) (.lit (.int 2))) (.lit (.int 1))) .nil))) .none .none))) (.cons (.ret (some (.lit (.bool false)))) .nil) .nil) (.cons (.assign 8 (.and (.cmp .lt (.bin .mod (.var 7) (.lit (.int 8))) (.lit (.int 5))) (.cmp .isin (.bin .mod (.bin .floordiv (.var 7) (.lit (.int 8))) (.lit (.int 8))) (.var 5)))) (.cons (.assign 9 (.aY 689 (.cons (.var 2) (.cons (.var 7) (.cons (.var 3) (.cons (.var 5) .nil)))) .none .none)) (.cons (.ite (.or (.cmp .is (.var 9) (.lit .none)) (.cmp .ne (.cmp .isin (.sub (.var 9) (.lit (.int 2))) (.var 6)) (.var 8))) (.cons (.ret (some (.lit (.bool false)))) .nil) .nil) (.cons (.expr (.aD (.var 4) .append (.cons (.var 9) .nil))) (.cons (.expr (.aD (.var 6) .append (.cons (.sub (.var 9) (.lit (.int 2))) .nil))) .nil))))))) (.cons (.ite (.un .not (.aY 682 (.cons (.var 2) (.cons (.var 3) (.cons (.var 5) .nil))) .none .none)) (.cons (.ret (some (.lit (.bool false)))) .nil) .nil) (.cons (.mi (.name 10) (.dM (.bcall .len (.cons (.var 3) .nil))) (.cons (.assign 8 (.cmp .isin (.var 10) (.var 5))) (.cons (.assign 9 (.aY 689 (.cons (.var 2) (.cons (.bin .mul (.lit (.int 8)) (.var 10)) (.cons (.var 3) (.cons (.var 5) .nil)))) .none .none)) (.cons (.ite (.or (.cmp .is (.var 9) (.lit .none)) (.cmp .ne (.cmp .isin (.sub (.var 9) (.lit (.int 2))) (.var 6)) (.var 8))) (.cons (.ret (some (.lit (.bool false)))) .nil) .nil) (.cons (.expr (.aD (.var 4) .append (.cons (.var 9) .nil))) (.cons (.expr (.aD (.var 6) .append (.cons (.sub (.var 9) (.lit (.int 2))) .nil))) .nil)))))) (.cons (.expr (.aA (.var 2) 346 (.cons (.lit (.int 4)) (.cons (.bcall .len (.cons (.var 4) .nil)) (.cons (.lit (.int 4)) .nil))) .none .none)) (.cons (.mi (.name 9) (.yV (.slice (.var 4) .none .none true)) (.cons (.expr (.aA (.var 2) 339 (.cons (.sub (.var 9) (.lit (.int 2))) .nil) .none .none)) .nil)) (.cons (.assign 11 (.aA (.var 2) 354 .nil .none .none)) (.cons (.expr (.aA (.var 2) 276 (.cons (.lit (.int 1)) .nil) .none .none)) (.cons (.expr (.aA (.var 2) 518 (.cons (.lit (.int 0)) (.cons (.var 11) (.cons (.lit (.int 0)) .nil))) .none .none)) (.cons (.expr (.aA (.var 2) 419 (.cons (.aA (.var 2) 290 .nil .none .none) .nil) .none .none)) (.cons (.ret (some (.aY 706 (.cons (.bcall .bytes (.cons (.aA (.var 2) 269 .nil .none .none) .nil)) (.cons (.var 3) (.cons (.var 4) .nil))) .none .none))) .nil)))))))))))))))
noncomputable def jU:List (Nat×Nat×Int×Int×Nat):=[(65,1,0,255,52),(79,2,0,65535,53),(93,4,0,4294967295,54),(107,4,-2147483648,2147483647,55),(121,4,-2147483648,2147483647,55),(133,4,0,4294967295,54),(145,2,0,65535,53)]
noncomputable def wC(C:Nat):Option (Nat×Int×Int×Nat):=jU.lookup C
noncomputable def wg:Nat→List (Nat×AV)
  |0=>jU.map fun r=>(r.1,.int (r.2.1:Int))
  |1=>jU.map fun r=>(r.1,.int r.2.2.1)
  |2=>jU.map fun r=>(r.1,.int r.2.2.2.1)
  |3=>jU.map fun r=>(r.1,.ba (.ref r.2.2.2.2))
  |4=>[(641,.int 2147483648)]
  |_=>[]
noncomputable def Fz(C n:Nat):Option AV:=(wg n).lookup C
theorem kP{β γ:Type}{l:List (Nat×β)}(f:β→γ){C:Nat}{r:β}(h:l.lookup C=some r):(l.map fun r=>(r.1,f r.2)).lookup C=some (f r):=by
  induction l with
  |nil=>cases h
  |cons a l ih=>
    rw[List.map_cons,List.lookup_cons];rw[List.lookup_cons] at h;cases q:C==a.1 with
    |true=>rw[q] at h;cases h;rfl
    |false=>rw[q] at h;exact ih h
noncomputable def E3:List (Nat×Nat×Bool×Bool):=[(52,1,false,false),(53,2,false,false),(54,4,false,false),(55,4,true,false)]
noncomputable def E1(a:Nat):Option (Nat×Bool×Bool):=E3.lookup a
noncomputable def tb:Tab:=⟨Fz,E1,11,fun f=>decide (f∈([154,161,283,290,297,304,311,318,325,332,382,434,609,616,630]:List Nat)),fun f=>decide (f∈([675,682,720]:List Nat)),255⟩
noncomputable def l9:FE:=⟨eC,gi,ew,["n","flags"],2⟩
noncomputable def HJ:FE:=⟨lE,wt,vj,["packer_type","buf","head","n"],2⟩
noncomputable def ym:FE:=⟨iN,nT,la,["self","initialSize","msg"],0⟩
noncomputable def Hl:FE:=⟨rq,xd,uV,["self"],0⟩
noncomputable def Du:FE:=⟨mF,tQ,rF,["self"],0⟩
noncomputable def r8:FE:=⟨bP,jr,gJ,["self","numfields"],0⟩
noncomputable def qQ:FE:=⟨bx,jq,cx,["self","objectOffset","vtKey","trim","elem","objectSize","vt2Offset","i","trailing","off","vBytes","objectStart"],2⟩
noncomputable def uD:FE:=⟨dC,lX,gC,["self"],2⟩
noncomputable def mh:FE:=⟨eA,gj,dy,["self","msg","newSize","bytes2"],2⟩
noncomputable def Ld:FE:=⟨sP,zR,Ay,["self"],2⟩
noncomputable def D4:FE:=⟨bJ,sT,rb,["self"],2⟩
noncomputable def Ms:FE:=⟨Ip,ET,Co,["self","n","new_head"],2⟩
noncomputable def Jm:FE:=⟨ir,BB,BN,["self","size","additionalBytes","head","buf_len","alignSize","needed","oldBufSize"],2⟩
noncomputable def fX:FE:=⟨aX,di,bZ,["self","off","msg","off2"],2⟩
noncomputable def gf:FE:=⟨bj,dj,bY,["self","off","msg","off2"],0⟩
noncomputable def qI:FE:=⟨eI,jn,gA,["self","elemSize","numElems","alignment"],0⟩
noncomputable def uw:FE:=⟨dz,lU,jJ,["self","numElems"],0⟩
noncomputable def jd:FE:=⟨aP,el,bM,["self","s","off"],1⟩
noncomputable def oM:FE:=⟨bQ,ia,dp,["self","s","x","payload_len","new_head"],1⟩
noncomputable def kk:FE:=⟨bI,fg,cO,["self","x","data_len","new_head"],1⟩
noncomputable def pE:FE:=⟨f9,iH,fZ,["self"],2⟩
noncomputable def kX:FE:=⟨c8,fG,dc,["self"],1⟩
noncomputable def Jr:FE:=⟨wN,y4,As,["self","slotnum"],0⟩
noncomputable def jV:FE:=⟨dK,fh,dI,["self","rootTable","sizePrefix","file_identifier","prepSize","i","size"],0⟩
noncomputable def DG:FE:=⟨mD,tu,rY,["self","rootTable","file_identifier"],0⟩
noncomputable def zX:FE:=⟨n7,qC,nU,["self","flags","off"],2⟩
noncomputable def ey:FE:=⟨bl,cn,bL,["self","o","x","d"],0⟩
noncomputable def lJ:FE:=⟨aG,fN,dW,["self","x"],2⟩
noncomputable def Gq:FE:=⟨vi,v7,vw,["self","x","flags","new_head"],2⟩
noncomputable def nD:FE:=⟨fq,gR,fb,["self","x","new_head"],2⟩
noncomputable def nP:FE:=⟨eR,gS,fo,["self","x","new_head"],0⟩
noncomputable def tH:FE:=⟨iB,kR,ic,["texts"],0⟩
noncomputable def oQ:FE:=⟨cG,hO,eb,["word"],0⟩
noncomputable def pH:FE:=⟨dn,iu,fW,["b","word","is_row"],3⟩
noncomputable def jz:FE:=⟨ct,eE,dA,["b","words","known","k","place"],3⟩
noncomputable def uO:FE:=⟨cU,lT,eW,["b","number","words","known","k","kind","place"],0⟩
noncomputable def zw:FE:=⟨bV,qx,oh,["data","place","width","i"],0⟩
noncomputable def uI:FE:=⟨ff,l5,gF,["data","place","words","k","is_row","row","due"],0⟩
noncomputable def lI:FE:=⟨b9,fF,dX,["data","words","made","root","away","slots","at","row","ends","i","k","is_row","place","here","start","is_right","end","starts"],0⟩
noncomputable def lj:FE:=⟨cc,fK,dS,["b","words","first","word"],0⟩
noncomputable def NX:FE:=⟨Gf,Ft,Gk,["script","first","b","words","made","known","told","number","is_known","one","k","row"],3⟩
noncomputable def fl:List FE:=[l9,HJ,ym,Hl,Du,r8,qQ,uD,mh,Ld,D4,Ms,Jm,fX,gf,qI,uw,jd,oM,kk,pE,kX,Jr,jV,DG,zX,ey,lJ,Gq,nD,nP,tH,oQ,pH,jz,uO,zw,uI,lI,lj,NX]
noncomputable def OK:List (Nat×Fn×Ss):=[(eC,gi,ew),(lE,wt,vj),(iN,nT,la),(rq,xd,uV),(mF,tQ,rF),(bP,jr,gJ),(bx,jq,cx),(dC,lX,gC),(eA,gj,dy),(sP,zR,Ay),(bJ,sT,rb),(Ip,ET,Co),(ir,BB,BN),(aX,di,bZ),(bj,dj,bY),(eI,jn,gA),(dz,lU,jJ),(aP,el,bM),(bQ,ia,dp),(bI,fg,cO),(f9,iH,fZ),(c8,fG,dc),(wN,y4,As),(dK,fh,dI),(mD,tu,rY),(n7,qC,nU),(bl,cn,bL),(aG,fN,dW),(vi,v7,vw),(fq,gR,fb),(eR,gS,fo),(iB,kR,ic),(cG,hO,eb),(dn,iu,fW),(ct,eE,dA),(cU,lT,eW),(bV,qx,oh),(ff,l5,gF),(b9,fF,dX),(cc,fK,dS),(Gf,Ft,Gk)]
noncomputable def fns(f:Nat):Option (Fn×Ss):=OK.lookup f
noncomputable def T2:Tb where
  md:=[("Builder",641),("Int32Flags",107),("SOffsetTFlags",121),("UOffsetTFlags",133),("Uint32Flags",93),("Uint8Flags",65),("VOffsetTFlags",145),("binary_types",51),("soffset",55),("string_types",50),("uoffset",54)]
  qT:=[("VtableMetadataFields",2)]
  aA:=[("Clear",262),("CreateByteVector",375),("CreateSharedString",361),("CreateString",368),("EndObject",290),("EndVector",354),("Finish",419),("GrowByteBuffer",297),("Head",304),("Offset",311),("Output",269),("Pad",318),("Place",616),("PlaceSOffsetT",630),("PlaceUOffsetT",637),("Prep",325),("Prepend",434),("PrependSOffsetTRelative",332),("PrependUOffsetTRelative",339),("PrependUOffsetTRelativeSlot",518),("PrependVOffsetT",609),("Slot",403),("StartObject",276),("StartVector",346),("WriteVtable",283),("_Builder__Finish",411),("assertNested",382),("assertNotNested",389)]
  slot:=[("Bytes",0),("current_vtable",1),("finished",2),("forceDefaults",3),("head",4),("minalign",5),("nested",6),("objectEnd",7),("sharedStrings",8),("vectorNumElems",9),("vtables",10)]
  aQ:=[("MAX_BUFFER_SIZE",4),("bytewidth",0),("max_val",2),("min_val",1),("packer_type",3)]
  oP:=[121,133,145]
  B7:=[(50,true),(51,false)]
  kw:=[(411,"file_identifier",3)]
  fns:=[("Write",161),("_law_asked_within",682),("_law_at",694),("_law_first_life",713),("_law_lies",701),("_law_made",689),("_law_read_right",706),("_law_refused",675),("_law_words",661),("_law_written",668),("enforce_number",154)]
  jZ:=tb.jZ
  B:="Builder"
  rz:=["assertNotNested","CreateString","CreateByteVector","CreateSharedString"]
  nd:=[("vtables",1),("sharedStrings",2)]
end Sv.L2
namespace Sv.L2
open _root_.PySem _root_.PySem.W PyProof.Rows _root_.PySem.Calls
section
noncomputable def ki(K:Frag)(prog:Program)(w:World)(h:Heap)(mg mb:Str→Option Value)(sm:∃o,h.get? sysModules=some o):Ctx:=⟨prog,w,h,641,tb,mg,mb,K,Dc fl,sm,none⟩
noncomputable def Jj(a:AV)(v:Value):Bool:=match a with
 |.int i=>(DS v).any (·==i)
 |.ba w=>w==v
 |_=>false
theorem Ck{a:AV}{v:Value}(e:Jj a v=true):Hi a v:=fun h ρ N=>by
 cases a with
 |int i=>exact ez e fun j h e=>by rw[←cj e];exact ru h
 |ba w=>exact(cj e).symm
 |_=>cases e
noncomputable def Nu(K:Frag)(x:Str)(r:Addr×AV):Bool:=readsIn K r.1 (.type "type")&&match findCls K (.ref r.1) (.type "type") x with
 |some (.val v)=>handedIn v&&Jj r.2 v
 |_=>false
noncomputable def Ku:Data→Option (Array Value)
 |.fields xs=>some xs
 |_=>none
theorem DX{d:Data}{i:Array Value}(h:Ku d=some i):d=.fields i:=by
 cases d<;>first|(cases h;done)|(cases h;rfl)
noncomputable def Kz:Value→Option (Array UInt8)
 |.bytes i _=>some i
 |_=>none
theorem Cu{v:Value}{i:Array UInt8}(h:Kz v=some i):∃t,v=.bytes i t:=by
 cases v<;>first|(cases h;done)|(cases h;exact⟨_,rfl⟩)
noncomputable def yb(K:Frag)(a:Addr)(c:UInt8):Bool:=((K.lookup a).bind fun o=>gd (o.cls==.type "_struct.Struct"&&o.dict.isNone) (Ku o.data)).any fun fs=>((fs[0]?:Option Value).bind Kz).any (·==#[60,c])
structure ui(K:Frag):Prop where
 all:∀e∈fl,Ly K T2 tb.oz e
 tab:Pd K 641 T2=true
 cat:(T2.aQ.all fun y=>(wg y.2).all (Nu K y.1))=true
 s1:yb K 52 66=true
 s2:yb K 53 72=true
 s3:yb K 54 73=true
 s4:yb K 55 105=true
 Rl:nsIn K mainGlobals (Str.ofString "IsNestedError")=some (some (.ref 197))
 RI:excIn K 197 [.type "RuntimeError",.type "Exception",.type "BaseException",.type "object"] "RuntimeError.__new__"=true
 law:nsIn K mainGlobals (Str.ofString "law")=some (some (.ref 720))
 plain:plainGet K 641 ""=true
 cls:isClsIn K 641=true
 over:plainOver K 641=true
 sets:findIn K (.ref 641) "__setattr__"=some (some (.builtin "object.__setattr__"))
 keep:keepIn K (.ref 641)=true
 makes:makesIn K 641=true
 init:findIn K (.ref 641) "__init__"=some (some (.ref 255))
 typ:typeIn K (.ref 255)=some (.type "function")
section
variable {K:Frag}{prog q:Program}{cY:List Str}{w:World}{h:Heap}{mg mb:Str→Option Value}{sm:∃o,h.get? sysModules=some o}
set_option tactic.hygienic true in
theorem Lm(F:ui K){x:Str}{i:Nat}(e:T2.aQ.lookup x=some i):mE (ki K prog w h mg mb sm) x i:=fun C v e'=>
 aB (dG (dG F.cat e) e') fun h1 h2=>by
  split at h2
  ·rename_i v hv
   exact aB h2 fun h2 h3=>⟨_,v,h1,hv,h2,Ck h3⟩
  ·cases h2
theorem K1{K:Frag}{a:Addr}{c:UInt8}(X:K.In h)(e:yb K a c=true):∃(fs:Array Value)(t:Tok)(sl:Array (Option Value)),h.get? a=some ⟨.type "_struct.Struct",Option.none,.fields fs,sl⟩∧fs[0]?=some (.bytes #[60,c] t):=
 ez e fun fs h1 e=>ez e fun b h2 e=>bO h1 fun o h3 h1=>gO h1 fun h4 h1=>aB h4 fun h4 h5=>bO h2 fun v h6 h2=>(Cu h2).elim fun t ht=>by
  obtain⟨c',d,data,sl⟩:=o;rw[show c'=_ from cj h4,show d=_ from Option.isNone_iff_eq_none.mp h5,show data=_ from DX h1] at h3;exact⟨fs,t,sl,X _ _ h3,by rw[h6,ht,cj e]⟩
theorem nu{β:Type}{l:List (Nat×β)}{C:Nat}{r:β}(h:l.lookup C=some r):(C,r)∈l:=by
 induction l with
 |nil=>cases h
 |cons a l ih=>
  rw[List.lookup_cons] at h;cases q:C==a.1 with
  |true=>rw[q] at h;cases h;rw[cj q];exact List.mem_cons_self
  |false=>rw[q] at h;exact List.mem_cons_of_mem _ (ih h)
theorem Cs{G:Ctx}{K:Frag}(X:K.In G.h₀){a:Addr}{w:Nat×Bool×Bool}{ch:Char}{c:UInt8}(e:yb K a c=true)(hp:PySem.Builtin.Struct.parse #[60,c]=pure (cN ch w.1))
  (each:∀{A:Around}{E:Value→Shared→Prop}{s:Shared}{i:String}{k:Int}{t:Tok}{put:Unit→Nat→Array UInt8→Sem Unit}{src:Value→Nat→Nat→Sem Unit}{Q:Unit→Shared→Prop},
   (if w.2.1 then -(2^(8*w.1-1)) else 0)≤k∧k<(if w.2.1 then 2^(8*w.1-1) else 2^(8*w.1))→wpAny (model G.prog G.w) A (put () 0 (PySem.Builtin.Struct.intBytes false w.1 k)) Q E s→wpAny (model G.prog G.w) A (PySem.Builtin.Struct.packEach i (cN ch w.1) [.int k t] () put src) Q E s)
  (P:Prop) (k:∀ch c fs t sl,Hg G a w ch c fs t sl→P):P:=
 (K1 X e).elim fun fs g=>g.elim fun t g=>g.elim fun sl g=>k ch c fs t sl ⟨g.1,g.2,hp,each⟩
def JA(G:Ctx)(q:Nat×Nat×Bool×Bool):Prop:=∀P:Prop,(∀ch c fs t sl,Hg G q.1 q.2 ch c fs t sl→P)→P
theorem Ge(X:K.In h)(F:ui K):sE (ki K prog w h mg mb sm):=⟨fun {a p P} e k=>by
 have p1:JA (ki K prog w h mg mb sm) (52,1,false,false):=Cs (G:=ki K prog w h mg mb sm) (K:=K) (w:=(1,false,false)) X F.s1 (ch:='B') AF fun u x=>D0 u.1 (Int.le_of_lt_add_one u.2) x
 have p2:JA (ki K prog w h mg mb sm) (53,2,false,false):=Cs (G:=ki K prog w h mg mb sm) (K:=K) (w:=(2,false,false)) X F.s2 (ch:='H') xU fun u x=>AY u.1 (Int.le_of_lt_add_one u.2) x
 have p3:JA (ki K prog w h mg mb sm) (54,4,false,false):=Cs (G:=ki K prog w h mg mb sm) (K:=K) (w:=(4,false,false)) X F.s3 (ch:='I') yz fun u x=>A0 u.1 (Int.le_of_lt_add_one u.2) x
 have p4:JA (ki K prog w h mg mb sm) (55,4,true,false):=Cs (G:=ki K prog w h mg mb sm) (K:=K) (w:=(4,true,false)) X F.s4 (ch:='i') xl fun u x=>BW u.1 (Int.le_of_lt_add_one u.2) x
 have all:∀q∈E3,JA (ki K prog w h mg mb sm) q:=List.forall_mem_cons.mpr ⟨p1,List.forall_mem_cons.mpr ⟨p2,List.forall_mem_cons.mpr ⟨p3,List.forall_mem_cons.mpr ⟨p4,List.forall_mem_nil _⟩⟩⟩⟩;exact all (a,p) (nu e) P k⟩
theorem Jz(X:K.In h)(F:ui K)(T:TopRead q cY mg mb h)(n:Nat):Cc (ki K prog w h mg mb sm) (Sv.run tb fns n) n:=
 Gw (G:=ki K prog w h mg mb sm) (T:=T2) (l:=fl) (L:=OK) rfl X (Fx X T ⟨sm,T.g,T.b,T.nolimit,X,F.plain,F.cls,F.over,F.sets⟩ ⟨⟨197,own_of_in X T F.Rl F.RI⟩⟩ ⟨F.keep,F.makes,F.init,F.typ,(by decide:11≤100)⟩ (Ge X F) (fun j=>rfl) rfl (fun j j e=>Lm F e)
  (fun f x i e=>by
   obtain⟨rfl,rfl,rfl⟩:f=411∧x="file_identifier"∧i=3:=by haveI m:=nu e;simpa[T2] using m
   exact(by kernel_rfl:Dc fl 411 3=some "file_identifier")) F.tab) rfl (fun j=>rfl) (fun j j=>rfl) F.all n
end
end
section
set_option maxRecDepth 1000000
noncomputable def alive(o:Obj):Bool:=match o with
 |⟨_,_,.freed,_⟩=>false
 |_=>true
theorem yf{h:Heap}{a:Addr}{o:Obj}(e:h.objs[a]?=some o)(k:alive o=true):h.get? a=some o:=by
 unfold Heap.get?;rw[e];obtain⟨c,d,x,sl⟩:=o;cases x<;>first|rfl|cases k
noncomputable def fragOf(h:Heap):Frag:=(h.objs.toList.zipIdx.filter fun p=>alive p.1).map fun p=>(p.2,p.1)
theorem yS(h:Heap):(fragOf h).In h:=fun a o e=>by
 obtain⟨p,m,q⟩:=List.mem_map.mp (nu e);obtain⟨m,k⟩:=List.mem_filter.mp m;cases q;exact yf (Array.getElem?_toList.symm.trans (List.mem_zipIdx_iff_getElem?.mp m)) k
@[irreducible] noncomputable def l6(w:World):Frag:=((openT PySem.Challenge.pw_ac0015_02 w 11422).map fun r=>fragOf r.2.abs.heap).getD []
noncomputable def zS(w:World):Frag:=((@PySem.W.Fast.tw366190173666689793 PySem.Challenge.pw_ac0015_02 w 11422).map fun r=>fragOf (@PySem.W.Fast.tw10845986317416049621 r.2).heap).getD []
theorem Ct(w:World):ui (zS w):=
 by
  constructor
  ·unfold fl
   repeat (first|exact List.forall_mem_nil _|refine List.forall_mem_cons.mpr ⟨⟨by kernel_rfl,by kernel_rfl⟩,?_⟩)
  all_goals kernel_rfl
theorem zr(w:World):ui (l6 w):=by
 have h:=Ct w;unfold zS at h;rw[←@PySem.W.Fast.te366190173666689793,←@PySem.W.Fast.te10845986317416049621] at h;unfold l6;exact h
theorem uB(w:World)(s:Shared)(e:some s.heap=(openT PySem.Challenge.pw_ac0015_02 w 11422).map fun r=>r.2.abs.heap):(l6 w).In s.heap:=by
 unfold l6;cases q:openT PySem.Challenge.pw_ac0015_02 w 11422 with
 |none=>rw[q] at e;cases e
 |some r=>
  rw[q] at e;have e:s.heap=_:=cQ e;rw[e];exact yS _
end
end Sv.L2
section
namespace Sv
open PySem
namespace V
variable {tb:Tab}{rc:RC}{lc:Lc}{st:St}
theorem litt:aC tb rc lc (.lit v) st=R.ok v st:=rfl
theorem varr(h:lc[i]?=some (some v)):aC tb rc lc (.var i) st=R.ok v st:=by
 show R.ei st (lc[i]?).join=_;rw[h];rfl
theorem binn(ha:aC tb rc lc a st=R.ok x s1)(hb:aC tb rc lc b s1=R.ok y s2)(h:aq op x y=some v):aC tb rc lc (.bin op a b) st=R.ok v s2:=by
 show(aC tb rc lc a st).bind _=_;rw[ha];show(aC tb rc lc b s1).bind _=_;rw[hb];show R.ei s2 (aq op x y)=_;rw[h];rfl
theorem unn(ha:aC tb rc lc a st=R.ok x s1)(h:vM s1 op x=some v):aC tb rc lc (.un op a) st=R.ok v s1:=by
 show(aC tb rc lc a st).bind _=_;rw[ha];show R.ei s1 (vM s1 op x)=_;rw[h];rfl
noncomputable def HP(tb:Tab)(rc:RC)(lc:Lc)(t:Bool)(x:AV)(b:E)(st:St):R AV:=match t with|true=>aC tb rc lc b st|false=>R.ok x st
theorem andT(h:aC tb rc lc b st=r):HP tb rc lc true x b st=r:=h
theorem andF:HP tb rc lc false x b st=R.ok x st:=rfl
theorem andd(ha:aC tb rc lc a st=R.ok x s1)(ht:truthy s1 x=some t)(h:HP tb rc lc t x b s1=r):aC tb rc lc (.and a b) st=r:=by
 show(aC tb rc lc a st).bind _=_;rw[ha];show(match truthy s1 x with|some true=>aC tb rc lc b s1|some false=>R.ok x s1|Option.none=>R.stuck)=_;rw[ht];cases t<;>exact h
noncomputable def MB(tb:Tab)(rc:RC)(lc:Lc)(t:Bool)(x:AV)(b:E)(st:St):R AV:=match t with|true=>R.ok x st|false=>aC tb rc lc b st
theorem orT:MB tb rc lc true x b st=R.ok x st:=rfl
theorem orF(h:aC tb rc lc b st=r):MB tb rc lc false x b st=r:=h
theorem orr(ha:aC tb rc lc a st=R.ok x s1)(ht:truthy s1 x=some t)(h:MB tb rc lc t x b s1=r):aC tb rc lc (.or a b) st=r:=by
 show(aC tb rc lc a st).bind _=_;rw[ha];show(match truthy s1 x with|some true=>R.ok x s1|some false=>aC tb rc lc b s1|Option.none=>R.stuck)=_;rw[ht];cases t<;>exact h
theorem cmpp(ha:aC tb rc lc a st=R.ok x s1)(hb:aC tb rc lc b s1=R.ok y s2)(h:bB s2 op x y=some v):aC tb rc lc (.cmp op a b) st=R.ok (AV.bool v) s2:=by
 show(aC tb rc lc a st).bind _=_;rw[ha];show(aC tb rc lc b s1).bind _=_;rw[hb];show R.ei s2 ((bB s2 op x y).map AV.bool)=_;rw[h];rfl
noncomputable def E0(tb:Tab)(rc:RC)(lc:Lc)(t:Bool)(o2:pC)(y:AV)(c:E)(st:St):R AV:=match t with
 |true=>(aC tb rc lc c st).bind fun z st=>R.ei st ((bB st o2 y z).map AV.bool)
 |false=>R.ok (AV.bool false) st
theorem cmp2T(hc:aC tb rc lc c st=R.ok z s1)(h:bB s1 o2 y z=some v):E0 tb rc lc true o2 y c st=R.ok (AV.bool v) s1:=by
 show(aC tb rc lc c st).bind _=_;rw[hc];show R.ei s1 ((bB s1 o2 y z).map AV.bool)=_;rw[h];rfl
theorem cmp22(ha:aC tb rc lc a st=R.ok x s1)(hb:aC tb rc lc b s1=R.ok y s2)(h1:bB s2 o1 x y=some t)(h:E0 tb rc lc t o2 y c s2=r):aC tb rc lc (.tf o1 o2 a b c) st=r:=by
 show(aC tb rc lc a st).bind _=_;rw[ha];show(aC tb rc lc b s1).bind _=_;rw[hb]
 show(match bB s2 o1 x y with|some true=>(aC tb rc lc c s2).bind fun z st=>R.ei st ((bB st o2 y z).map AV.bool)|some false=>R.ok (AV.bool false) s2|Option.none=>R.stuck)=_
 rw[h1];cases t<;>exact h
noncomputable def Io(tb:Tab)(rc:RC)(lc:Lc)(t:Bool)(a b:E)(st:St):R AV:=match t with|true=>aC tb rc lc a st|false=>aC tb rc lc b st
theorem iteT(h:aC tb rc lc a st=r):Io tb rc lc true a b st=r:=h
theorem iteF(h:aC tb rc lc b st=r):Io tb rc lc false a b st=r:=h
theorem itt(hc:aC tb rc lc c st=R.ok x s1)(ht:truthy s1 x=some t)(h:Io tb rc lc t a b s1=r):aC tb rc lc (.ite c a b) st=r:=by
 show(aC tb rc lc c st).bind _=_;rw[hc];show(match truthy s1 x with|some true=>aC tb rc lc a s1|some false=>aC tb rc lc b s1|Option.none=>R.stuck)=_;rw[ht];cases t<;>exact h
theorem slott(ha:aC tb rc lc a st=R.ok x s1)(h:ah s1 i x=some v):aC tb rc lc (.slot a i) st=R.ok v s1:=by
 show(aC tb rc lc a st).bind _=_;rw[ha];show R.ei s1 (ah s1 i x)=_;rw[h];rfl
theorem cattrr{a:E}{i:Nat}{C:Addr}{v:AV}{s1:St}(ha:aC tb rc lc a st=R.ok (.ba (.ref C)) s1)(h:tb.aQ C i=some v):aC tb rc lc (.aQ a i) st=R.ok v s1:=by
 show(aC tb rc lc a st).bind _=_;rw[ha];show R.ei s1 (tb.aQ C i)=_;rw[h];rfl
theorem subb(ha:aC tb rc lc a st=R.ok x s1)(hb:aC tb rc lc i s1=R.ok y s2)(h:cX s2 x y=some v):aC tb rc lc (.sub a i) st=R.ok v s2:=by
 show(aC tb rc lc a st).bind _=_;rw[ha];show(aC tb rc lc i s1).bind _=_;rw[hb];show R.ei s2 (cX s2 x y)=_;rw[h];rfl
theorem oN:u5 tb rc lc Option.none st=R.ok Option.none st:=rfl
theorem oS(h:aC tb rc lc e st=R.ok v s1):u5 tb rc lc (some e) st=R.ok (some v) s1:=by
 show(aC tb rc lc e st).bind _=_;rw[h]
theorem slicee(ha:aC tb rc lc a st=R.ok x s1)(hl:u5 tb rc lc l s1=R.ok y s2)(hu:u5 tb rc lc u s2=R.ok z s3)(h:cw s3 x y z rev=some v):aC tb rc lc (.slice a l u rev) st=R.ok v s3:=by
 show(aC tb rc lc a st).bind _=_;rw[ha];show(u5 tb rc lc l s1).bind _=_;rw[hl];show(u5 tb rc lc u s2).bind _=_;rw[hu];show R.ei s3 (cw s3 x y z rev)=_;rw[h];rfl
theorem esN:cT tb rc lc .nil st=R.ok [] st:=rfl
theorem esC(h:aC tb rc lc e st=R.ok v s1)(hs:cT tb rc lc r s1=R.ok vs s2):cT tb rc lc (.cons e r) st=R.ok (v::vs) s2:=by
 show(aC tb rc lc e st).bind _=_;rw[h];show(cT tb rc lc r s1).bind _=_;rw[hs]
theorem tupp(h:cT tb rc lc es st=R.ok vs s1):aC tb rc lc (.tup es) st=R.ok (.tup vs) s1:=by
 show(cT tb rc lc es st).bind _=_;rw[h]
theorem lst(h:cT tb rc lc es st=R.ok vs s1):aC tb rc lc (.list es) st=R.ok (.lst vs) s1:=by
 show(cT tb rc lc es st).bind _=_;rw[h]
theorem newl:aC tb rc lc .dw st=R.ok (AV.obj st.length) (st++[.list []]):=rfl
theorem Mo(h:aC tb rc lc a st=R.ok (.int n) s1)(h0:0≤n∧n≤10000):aC tb rc lc (.kg a) st=R.ok (AV.obj s1.length) (s1++[.list (List.replicate n.toNat (.int 0))]):=by
 show(aC tb rc lc a st).bind _=_;rw[h];show(if 0≤n∧n≤10000 then _ else _)=_;rw[if_pos h0]
theorem cllF(h:cT tb rc lc es st=R.ok vs s1)(hc:rc f vs Option.none s1=r):aC tb rc lc (.aY f es Option.none Option.none) st=r:=by
 show(cT tb rc lc es st).bind _=_;rw[h];show rc f (vs++[]) Option.none s1=r;rw[List.append_nil];exact hc
theorem RA(ho:aC tb rc lc o st=R.ok (AV.obj j) s1)(h1:s1[j]?=some (.inst sl))(h2:s1[j+1]?=some (.aj []))(h:cT tb rc lc es s1=R.ok vs s2)(hc:rc f (AV.obj j::vs) Option.none s2=r) :
 aC tb rc lc (.aA o f es Option.none Option.none) st=r:=by
 show(aC tb rc lc o st).bind _=_;rw[ho]
 show(R.ei s1 (nL s1 (.obj j))).bind _=_
 rw[qz h1 h2];show(cT tb rc lc es s1).bind _=_;rw[h];show rc f (AV.obj j::vs++[]) Option.none s2=r;rw[List.append_nil];exact hc
theorem J0(ho:aC tb rc lc o st=R.ok (AV.obj j) s1)(h1:s1[j]?=some (.inst sl))(h2:s1[j+1]?=some (.aj []))(h:cT tb rc lc es s1=R.ok vs s2)(hk:aC tb rc lc k s2=R.ok w s3)(hc:rc f (AV.obj j::vs) (some (i,w)) s3=r) :
 aC tb rc lc (.aA o f es Option.none (some (i,k))) st=r:=by
 show(aC tb rc lc o st).bind _=_;rw[ho]
 show(R.ei s1 (nL s1 (.obj j))).bind _=_
 rw[qz h1 h2];show(cT tb rc lc es s1).bind _=_;rw[h]
 show((aC tb rc lc k s2).bind fun v st=>R.ok (some (i,v)) st).bind _=_;rw[hk];show rc f (AV.obj j::vs++[]) (some (i,w)) s3=r;rw[List.append_nil];exact hc
theorem QR(h:cT tb rc lc es st=R.ok vs s1)(hc:rc tb.init (AV.obj s1.length::vs) Option.none (s1++[.inst (List.replicate tb.nV Option.none),.aj []])=R.ok .none s2):aC tb rc lc (.oU es) st=R.ok (AV.obj s1.length) s2:=by
 show(cT tb rc lc es st).bind _=_;rw[h];show(rc tb.init _ _ _).bind _=_;rw[hc]
theorem bcl(h:cT tb rc lc es st=R.ok vs s1)(hc:Sv.bcall f vs s1=r):aC tb rc lc (.bcall f es) st=r:=by
 show(cT tb rc lc es st).bind _=_;rw[h];exact hc
theorem bmt(ho:aC tb rc lc o st=R.ok x s1)(hk:c6 s1 m x=true)(h:cT tb rc lc es s1=R.ok vs s2)(hc:Sv.aD tb m x vs s2=r):aC tb rc lc (.aD o m es) st=r:=by
 show(aC tb rc lc o st).bind _=_;rw[ho];show(if c6 s1 m x then _ else _)=_;rw[if_pos hk];show(cT tb rc lc es s1).bind _=_;rw[h];exact hc
theorem cpr(h:Ce tb rc lc c st=R.ok vs s1):aC tb rc lc (.comp c) st=R.ok (.lst vs) s1:=by
 show(Ce tb rc lc c st).bind _=_;rw[h]
theorem sExpr(h:aC tb rc lc e st=.ok v s1):eK tb rc (.expr e) lc st=.ok .next lc s1:=by
 show(aC tb rc lc e st).gy lc _=_;rw[h]
theorem Dm(h:aC tb rc lc e st=.ok v s1):eK tb rc (.assign i e) lc st=.ok .next (lc.set i (some v)) s1:=by
 show(aC tb rc lc e st).gy lc _=_;rw[h]
theorem sExprX(h:aC tb rc lc e st=.ok v s1):eK tb rc (.fp e) lc st=.ok .next lc s1:=by
 show(aC tb rc lc e st).Fs lc _=_;rw[h]
theorem AA(h:aC tb rc lc e st=.ok v s1):eK tb rc (.cy i e) lc st=.ok .next (lc.set i (some v)) s1:=by
 show(aC tb rc lc e st).Fs lc _=_;rw[h]
theorem sAssignT(h:aC tb rc lc e st=.ok v s1)(hb:fH (.tup is) v lc=some aK):eK tb rc (.bA is e) lc st=.ok .next aK s1:=by
 show(aC tb rc lc e st).gy lc _=_;rw[h];show(match fH (.tup is) v lc with|some lc=>X.ok .next lc s1|Option.none=>.stuck)=_;rw[hb]
theorem sSlot(h:aC tb rc lc e st=.ok v s1)(ho:aC tb rc lc o s1=.ok x s2)(hs:ak s2 x i v=some s3):eK tb rc (.setSlot o i e) lc st=.ok .next lc s3:=by
 show(aC tb rc lc e st).gy lc _=_;rw[h];show(aC tb rc lc o s1).gy lc _=_;rw[ho];show X.ei lc (ak s2 x i v)=_;rw[hs];rfl
theorem sSub(h:aC tb rc lc e st=.ok v s1)(ho:aC tb rc lc o s1=.ok x s2)(hi:aC tb rc lc i s2=.ok k s3)(hs:cP s3 x k v=some s4):eK tb rc (.eZ o i e) lc st=.ok .next lc s4:=by
 show(aC tb rc lc e st).gy lc _=_;rw[h];show(aC tb rc lc o s1).gy lc _=_;rw[ho];show(aC tb rc lc i s2).gy lc _=_;rw[hi];show X.ei lc (cP s3 x k v)=_;rw[hs];rfl
theorem sSlice(h:aC tb rc lc e st=.ok v s1)(ho:aC tb rc lc o s1=.ok x s2)(hl:u5 tb rc lc l s2=.ok a s3)(hu:u5 tb rc lc u s3=.ok b s4)(hs:bU s4 x a b v=some s5) :
 eK tb rc (.cE o l u e) lc st=.ok .next lc s5:=by
 show(aC tb rc lc e st).gy lc _=_;rw[h];show(aC tb rc lc o s1).gy lc _=_;rw[ho];show(u5 tb rc lc l s2).gy lc _=_;rw[hl];show(u5 tb rc lc u s3).gy lc _=_;rw[hu];show X.ei lc (bU s4 x a b v)=_;rw[hs];rfl
theorem L8(hx:lc[i]?=some (some x))(h:aC tb rc lc e st=.ok v s1)(hw:fi op x v=some w):eK tb rc (.aug i op e) lc st=.ok .next (lc.set i (some w)) s1:=by
 show(match (lc[i]?).join with|some x=>(aC tb rc lc e st).gy lc fun v st=>(match fi op x v with|some w=>X.ok .next (lc.set i (some w)) st|Option.none=>.stuck)|Option.none=>.stuck)=_
 rw[hx];show(aC tb rc lc e st).gy lc _=_;rw[h];show(match fi op x v with|some w=>X.ok .next (lc.set i (some w)) s1|Option.none=>.stuck)=_;rw[hw]
noncomputable def AW(tb:Tab)(rc:RC)(t:Bool)(a b:Ss)(lc:Lc)(st:St):X:=match t with|true=>aT tb rc a lc st|false=>aT tb rc b lc st
theorem sIteT(h:aT tb rc a lc st=r):AW tb rc true a b lc st=r:=h
theorem sIteF(h:aT tb rc b lc st=r):AW tb rc false a b lc st=r:=h
theorem sIte(hc:aC tb rc lc c st=.ok v s1)(ht:truthy s1 v=some t)(h:AW tb rc t a b lc s1=r):eK tb rc (.ite c a b) lc st=r:=by
 show(aC tb rc lc c st).gy lc _=_;rw[hc];show(match truthy s1 v with|some true=>aT tb rc a lc s1|some false=>aT tb rc b lc s1|Option.none=>.stuck)=_;rw[ht];cases t<;>exact h
theorem sWhile(h:bF (fun lc st=>aC tb rc lc c st) (fun lc st=>aT tb rc b lc st) 1000 lc st=r):eK tb rc (.gN c b) lc st=r:=h
theorem sFor(hs:jj tb rc lc s st=.ok (o,l) s1)(h:loopF o t (fun lc st=>aT tb rc b lc st) l lc s1=r):eK tb rc (.mi t s b) lc st=r:=by
 show(jj tb rc lc s st).gy lc _=_;rw[hs];exact h
theorem sRet0:eK tb rc (.ret Option.none) lc st=.ok (.ret .none) lc st:=rfl
theorem sRet(h:aC tb rc lc e st=.ok v s1):eK tb rc (.ret (some e)) lc st=.ok (.ret v) lc s1:=by
 show(aC tb rc lc e st).gy lc _=_;rw[h]
theorem sCont:eK tb rc .cont lc st=.ok .cont lc st:=rfl
theorem ssN:aT tb rc .nil lc st=.ok .next lc st:=rfl
noncomputable def LW(tb:Tab)(rc:RC)(f:Fl)(r:Ss)(lc:Lc)(st:St):X:=match f with|.next=>aT tb rc r lc st|f=>.ok f lc st
theorem ssKn(h:aT tb rc r lc st=x):LW tb rc .next r lc st=x:=h
theorem ssKr:LW tb rc (.ret v) r lc st=.ok (.ret v) lc st:=rfl
theorem ssKc:LW tb rc .cont r lc st=.ok .cont lc st:=rfl
theorem ssC(h:eK tb rc s lc st=.ok f lc1 s1)(hr:LW tb rc f r lc1 s1=x):aT tb rc (.cons s r) lc st=x:=by
 show(eK tb rc s lc st).next _=_;rw[h];cases f<;>exact hr
theorem DY(h:eK tb rc s lc st=.exc k lc1 s1):aT tb rc (.cons s r) lc st=.exc k lc1 s1:=by
 show(eK tb rc s lc st).next _=_;rw[h]
theorem M0(hb:aT tb rc b lc st=.ok f lc1 s1):eK tb rc (.n8 b k h) lc st=.ok f lc1 s1:=by
 show(match aT tb rc b lc st with|.exc j lc st=>if j=k then aT tb (Sv.jc tb rc) h lc st else .stuck|x=>x)=_;rw[hb]
theorem Js(hb:aT tb rc b lc st=.exc k lc1 s1)(hh:aT tb (Sv.jc tb rc) h lc1 s1=x):eK tb rc (.n8 b k h) lc st=x:=by
 show(match aT tb rc b lc st with|.exc j lc st=>if j=k then aT tb (Sv.jc tb rc) h lc st else .stuck|x=>x)=_;rw[hb];show(if k=k then _ else _)=_;rw[if_pos rfl];exact hh
theorem rch(hf:tb.oz f=true)(h:rc f as kw st=r):Sv.jc tb rc f as kw st=r:=by
 unfold Sv.jc;rw[if_pos hf];exact h
noncomputable def Ho:Fl→AV
 |.ret v=>v
 |_=>.none
theorem Er(hf:fns f=some (fn,m))(hb:fS fn as kw=some l)(h:aT tb (if tb.oz f then Sv.jc tb (Sv.run tb fns n) else Sv.run tb fns n) m l st=.ok fl l' s1) :
 Sv.run tb fns (n+1) f as kw st=.ok (Ho fl) s1:=by
 rw[Sv.run];simp only[hf,hb,h];cases fl<;>rfl
theorem MH(hf:fns f=some (fn,m))(hb:fS fn as kw=some l)(h:aT tb (if tb.oz f then Sv.jc tb (Sv.run tb fns n) else Sv.run tb fns n) m l st=.exc k l' s1) :
 Sv.run tb fns (n+1) f as kw st=.exc k s1:=by
 rw[Sv.run];simp only[hf,hb,h]
theorem nF(h:a+b=c):aq .add (.int a) (.int b)=some (.int c):=h▸rfl
theorem mw(h:a-b=c):aq .sub (.int a) (.int b)=some (.int c):=h▸rfl
theorem KO(h:a.length+b.length≤10000):aq .add (.bytes a) (.bytes b)=some (.bytes (a++b)):=by show(gd (decide (a.length+b.length≤10000)) _).or _=_;rw[decide_eq_true h];rfl
theorem Ki(h0:0≤n)(h:n≤10000):aq .mul (.bytes [x]) (.int n)=some (.bytes (List.replicate n.toNat x)):=by show gd (decide ([x].length=1∧0≤n∧n≤10000)) _=_;rw[decide_eq_true ⟨rfl,h0,h⟩];rfl
theorem mulR(h:oH b=true):aq .mul (.int a) (.int b)=some (.int (a*b)):=by show(gd (oH a||oH b) _).or _=_;rw[h,Bool.or_true];rfl
theorem mulL(h:oH a=true):aq .mul (.int a) (.int b)=some (.int (a*b)):=by show(gd (oH a||oH b) _).or _=_;rw[h,Bool.true_or];rfl
theorem fdiv(h0:b≠0)(h:oH b=true):aq .floordiv (.int a) (.int b)=some (.int (a.fdiv b)):=by show gd (!(b==0)&&oH b) _=_;rw[h,beq_eq_false_iff_ne.mpr h0];rfl
theorem fmod(h0:b≠0):aq .mod (.int a) (.int b)=some (.int (a.fmod b)):=by show gd (!(b==0)) _=_;rw[beq_eq_false_iff_ne.mpr h0];rfl
theorem fA(hf:fns f=some (fn,m))(hH:tb.oz f=true)(hb:fS fn as kw=some l)(h:aT tb (Sv.jc tb (Sv.run tb fns n)) m l st=.ok fl l' s1) :
 Sv.run tb fns (n+1) f as kw st=.ok (Ho fl) s1:=Er hf hb (by rw[if_pos hH];exact h)
theorem runN(hf:fns f=some (fn,m))(hH:tb.oz f=false)(hb:fS fn as kw=some l)(h:aT tb (Sv.run tb fns n) m l st=.ok fl l' s1) :
 Sv.run tb fns (n+1) f as kw st=.ok (Ho fl) s1:=Er hf hb (by rw[if_neg (by rw[hH];exact Bool.false_ne_true)];exact h)
theorem vV(hf:fns f=some (fn,m))(hH:tb.oz f=false)(hb:fS fn as kw=some l)(h:aT tb (Sv.run tb fns n) m l st=.exc k l' s1) :
 Sv.run tb fns (n+1) f as kw st=.exc k s1:=MH hf hb (by rw[if_neg (by rw[hH];exact Bool.false_ne_true)];exact h)
theorem eqT(h:a=b):bB st .eq (.int a) (.int b)=some true:=congrArg some (beq_iff_eq.mpr h)
theorem eqF(h:a≠b):bB st .eq (.int a) (.int b)=some false:=congrArg some (beq_eq_false_iff_ne.mpr h)
theorem neT(h:a≠b):bB st .ne (.int a) (.int b)=some true:=congrArg (fun c=>some !c) (beq_eq_false_iff_ne.mpr h)
theorem neF(h:a=b):bB st .ne (.int a) (.int b)=some false:=congrArg (fun c=>some !c) (beq_iff_eq.mpr h)
theorem ltT(h:a<b):bB st .lt (.int a) (.int b)=some true:=congrArg some (decide_eq_true h)
theorem ltF(h:¬a<b):bB st .lt (.int a) (.int b)=some false:=congrArg some (decide_eq_false h)
theorem leT(h:a≤b):bB st .le (.int a) (.int b)=some true:=congrArg some (decide_eq_true h)
theorem leF(h:¬a≤b):bB st .le (.int a) (.int b)=some false:=congrArg some (decide_eq_false h)
theorem gtT(h:b<a):bB st .gt (.int a) (.int b)=some true:=congrArg some (decide_eq_true h)
theorem gtF(h:¬b<a):bB st .gt (.int a) (.int b)=some false:=congrArg some (decide_eq_false h)
theorem geT(h:b≤a):bB st .ge (.int a) (.int b)=some true:=congrArg some (decide_eq_true h)
theorem geF(h:¬b≤a):bB st .ge (.int a) (.int b)=some false:=congrArg some (decide_eq_false h)
theorem not(h:truthy st x=some b):vM st .not x=some (.bool (!b)):=by show(truthy st x).map _=_;rw[h];rfl
theorem vJ{l:List AV}{i:Int}{k:Nat}{v:AV}(hl:l.length≤1000000)(hi:i=k)(h:l[k]?=some v):cX st (.lst l) (.int i)=some v:=by
 haveI hk:k<l.length:=(List.getElem?_eq_some_iff.mp h).1;subst hi
 show(gd (decide _) _).bind _=_
 rw[decide_eq_true ⟨hl,by exact aZ 0x10800893,by exact(aZ 0x1080084100019) hk⟩];show l[if 0≤(k:Int) then (k:Int).toNat else _]?=_;rw[if_pos (by exact aO 0x80023)];exact h
theorem uo{β:Type}{i:Nat}{o:ao}{f:ao→Option β}{r:Option β}(h:st[i]?=some o)(hf:f o=r):(st[i]?).bind f=r:=by rw[h];exact hf
theorem Hn{i:Nat}{l:List ((Str⊕List UInt8)×AV)}(h:st[i]?=some (.bR l))(hl:l.length≤1000000):truthy st (.obj i)=some (!l.isEmpty):=uo h (by show gd (decide (l.length≤1000000)) _=_;rw[decide_eq_true hl];rfl)
theorem Qs{i:Nat}{w:AV}{l:List AV}{r:Bool}(h:st[i]?=some (.list l))(hr:jI w l=some r):jS st w (.obj i)=some r:=by
 show((st[i]?).bind _).or _=_
 rw[uo h (r:=some r) (by show(jI w l).or _=_;rw[hr];rfl)];rfl
theorem Q9(h:st[i]?=some (.aj l)):jS st (.int k) (.obj i)=some (aN l k).isSome:=by
 show((st[i]?).bind _).or _=_
 rw[h];rfl
theorem OH{i:Nat}{w:AV}{k:Str⊕List UInt8}{l:List ((Str⊕List UInt8)×AV)}(h:st[i]?=some (.bR l))(hk:iG w=some k):jS st w (.obj i)=some (aN l k).isSome:=by
 show((st[i]?).bind _).or _=_
 rw[uo h (r:=some (aN l k).isSome) (by show(iG w).map _=_;rw[hk];rfl)];rfl
theorem Q4{i:Nat}{w:AV}{k:Str⊕List UInt8}{l:List ((Str⊕List UInt8)×AV)}(h:st[i]?=some (.bR l))(hk:iG w=some k):cX st (.obj i) w=aN l k:=uo h (by show(iG w).bind _=_;rw[hk];rfl)
theorem Ry{i:Nat}{k:Int}{v:AV}{l:List (Int×AV)}(h:st[i]?=some (.aj l))(hk:aN l k=some v):cX st (.obj i) (.int k)=some v:=uo h (by show(aN l k).or _=_;rw[hk];rfl)
theorem M4{i:Int}{k n:Nat}(hi:i=k)(hk:k<n)(hn:n≤1000000):idx i n=some k:=by
 subst hi;unfold idx;rw[decide_eq_true ⟨hn,by exact aZ 0x10800893,by exact(aZ 0x1080084100019) hk⟩,if_pos (by exact aO 0x80023)];rfl
theorem MA{i:Nat}{j:Int}{k:Nat}{v:AV}{l:List AV}(h:st[i]?=some (.list l))(hl:l.length≤1000000)(hj:j=k)(hk:l[k]?=some v):cX st (.obj i) (.int j)=some v:=
 uo h (by show((idx j l.length).bind _).or _=_;rw[M4 hj (List.getElem?_eq_some_iff.mp hk).1 hl];show(l[k]?).or _=_;rw[hk];rfl)
theorem QX{i:Nat}{b:List UInt8}{x y:Option AV}{l u:Option Int}(h:st[i]?=some (.aJ b))(h1:fB x=some l)(h2:fB y=some u)(hl:b.length≤1000000):cw st (.obj i) x y false=some (.aJ (cut b l u)):=by
 unfold cw;rw[h1,h2];exact uo h (by show gd (true&&decide (b.length≤1000000)) _=_;rw[decide_eq_true hl];rfl)
theorem Ml(h1:fB x=some l)(h2:fB y=some u)(hl:xs.length≤1000000):cw st (.lst xs) x y false=some (.lst (cut xs l u)):=by
 unfold cw;rw[h1,h2];show(gd (decide (xs.length≤1000000)) _).or _=_;rw[decide_eq_true hl];rfl
theorem NS{i:Nat}{xs:List AV}(h:st[i]?=some (.list xs))(hl:xs.length≤1000000):cw st (.obj i) none none true=some (.lst xs.reverse):=
 uo h (by show(gd (decide (xs.length≤1000000)) _).or _=_;rw[decide_eq_true hl];rfl)
theorem KR(h:st[i]?=some (.list l)):c6 st .append (.obj i)=true:=by show((st[i]?).any _||_||_)=true;rw[h];rfl
theorem Og(h:st[i]?=some (.bo l)):c6 st .get (.obj i)=true:=by show((st[i]?).any _||_||_)=true;rw[h];rfl
theorem Kn(h:st[i]?=some (.aj l)):c6 st .get (.obj i)=true∧c6 st .setdefault (.obj i)=true:=by
 constructor<;>(show((st[i]?).any _||_||_)=true;rw[h];rfl)
theorem app{i:Nat}{l:List AV}{v:AV}(h:st[i]?=some (.list l))(hl:l.length<10000):Sv.aD tb .append (.obj i) [v] st=.ok .none (st.set i (.list (l++[v]))):=by
 show(R.ei st ((st[i]?).bind _)).bind _=_
 rw[uo h (r:=some (i,l)) (by show gd (decide (l.length<10000)) _=_;rw[decide_eq_true hl];rfl)];rfl
theorem Jc(h:st[i]?=some (.aj l)):Sv.aD tb .get (.obj i) [.int k] st=.ok ((aN l k).getD .none) st:=by
 show R.ei st ((st[i]?).bind _)=_;rw[h];rfl
theorem JX{i:Nat}{k:AV}{ks:List Int}{l:List (List Int×AV)}(h:st[i]?=some (.bo l))(hk:rf k=some ks):Sv.aD tb .get (.obj i) [k] st=.ok ((aN l ks).getD .none) st:=by
 show R.ei st ((st[i]?).bind _)=_;rw[uo h (r:=some ((aN l ks).getD .none)) (by show((rf k).map _).map _=_;rw[hk];rfl)];rfl
theorem Ek{i:Nat}{k:Int}{v w:AV}{l:List (Int×AV)}(h:st[i]?=some (.aj l))(hl:l.length<10000)(hw:aN l k=some w):Sv.aD tb .setdefault (.obj i) [.int k,v] st=.ok w st:=by
 show(R.ei st ((st[i]?).bind _)).bind _=_
 rw[uo h (r:=some (w,st)) (by show gd (!false&&decide (l.length<10000)) ((xn (ao.aj l) (.int k)).bind _)=_;rw[decide_eq_true hl,show xn (ao.aj l) (.int k)=some (some w) from congrArg some hw];rfl)];rfl
theorem Eu{i:Nat}{k:Int}{v:AV}{l:List (Int×AV)}(h:st[i]?=some (.aj l))(hl:l.length<10000)(hw:aN l k=Option.none):Sv.aD tb .setdefault (.obj i) [.int k,v] st=.ok v (st.set i (.aj (fy l k v))):=by
 show(R.ei st ((st[i]?).bind _)).bind _=_
 rw[uo h (r:=some (v,st.set i (.aj (fy l k v)))) (by show gd (!false&&decide (l.length<10000)) ((xn (ao.aj l) (.int k)).bind _)=_;rw[decide_eq_true hl,show xn (ao.aj l) (.int k)=some Option.none from congrArg some hw];rfl)];rfl
theorem JW{i:Nat}{k v:AV}{ks:List Int}{l l':List (List Int×AV)}(h:st[i]?=some (.bo l))(hl:l.length<10000)(hk:rf k=some ks)(hp:fy l ks v=l'):cP st (.obj i) k v=some (st.set i (.bo l')):=
 uo h (by show gd (decide (l.length<10000)) _=_;rw[decide_eq_true hl];show((rf k).map _).map _=_;rw[hk,←hp];rfl)
theorem Mm{i:Nat}{k v:AV}{ks:Str⊕List UInt8}{l l':List ((Str⊕List UInt8)×AV)}(h:st[i]?=some (.bR l))(hl:l.length<10000)(hk:iG k=some ks)(hp:fy l ks v=l'):cP st (.obj i) k v=some (st.set i (.bR l')):=
 uo h (by show gd (decide (l.length<10000)) _=_;rw[decide_eq_true hl];show((iG k).map _).map _=_;rw[hk,←hp];rfl)
theorem Ka{i k:Nat}{v:AV}{l:List AV}(h:st[i]?=some (.list l))(hk:k<l.length)(hl:l.length≤1000000):cP st (.obj i) (.int (k:Int)) v=some (st.set i (.list (l.set k v))):=
 uo h (by show(gd (decide _) _).or _=_;rw[decide_eq_true ⟨by exact aO 0x80023,by exact(aZ 0x1080084100019) hk,by exact(aZ 0xf42400520084f42400511009100019) hk hl⟩];rfl)
theorem EJ{j:Nat}{b c:List UInt8}{x y:Option AV}{l u:Option Int}{v:AV}{lo hi:Nat}(h:st[j]?=some (.aJ b))(h1:fB x=some l)(h2:fB y=some u)(hv:xh st j v=some c)(uj:l.elim 0 (clipAt b.length)=lo)(tS:u.elim b.length (clipAt b.length)=hi)(hle:lo≤hi)(hc:c.length=hi-lo)(hb:b.length≤1000000) :
  bU st (.obj j) x y v=some (st.set j (.aJ (b.take lo++c++b.drop hi))):=by
 subst uj tS;exact uo h (by show(fB x).bind _=_;rw[h1];show(fB y).bind _=_;rw[h2];show(xh st j v).bind _=_;rw[hv];show gd (decide _) _=_;rw[decide_eq_true ⟨hle,hc,hb⟩];rfl)
theorem NL(h:a+b=c):fi .add (.int a) (.int b)=some (.int c):=h▸rfl
theorem bLen1(h:d7 st x=r):Sv.bcall .len [x] st=r:=h
theorem notT(h:truthy st x=some true):vM st .not x=some (.bool false):=not h
theorem notF(h:truthy st x=some false):vM st .not x=some (.bool true):=not h
end V
end Sv
end
namespace Sv.L2
open PySem Sv
section
structure Bq where
 jb:Nat
 jv:Nat
 pre:List UInt8
 tail:List UInt8
 ma:Int
 ne:Bool
 fin:Bool
 cv:Option (Nat×List Int)
 oe:AV
 sh:Option (Nat×List ((Str⊕List UInt8)×AV))
 vn:Option AV
 vt:List (List Int×AV)
noncomputable def oV{α:Type}:Option (Nat×α)→AV
 |none=>.none
 |some p=>.obj p.1
noncomputable def oI{α:Type}:Option (Nat×α)→List Nat
 |none=>[]
 |some p=>[p.1]
noncomputable def Bq.sl(q:Bq):List (Option AV):=[some (.obj q.jb),some (oV q.cv),some (.bool q.fin),some (.bool false),some (.int q.pre.length),some (.int q.ma),some (.bool q.ne),some q.oe,some (oV q.sh),q.vn,some (.obj q.jv)]
noncomputable def Bq.own(q:Bq)(b:Nat):List Nat:=[b,b+1,q.jb,q.jv]++oI q.cv++oI q.sh
structure BI(st:St)(b:Nat)(q:Bq):Prop where
 inst:st[b]?=some (.inst q.sl)
 yW:st[b+1]?=some (.aj [])
 bytes:st[q.jb]?=some (.aJ (q.pre++q.tail))
 tM:st[q.jv]?=some (.bo q.vt)
 rV:∀p,q.cv=some p→st[p.1]?=some (.list (p.2.map .int))
 uu:∀p,q.sh=some p→st[p.1]?=some (.bR p.2)
 nodup:(q.own b).Nodup
 sz:q.pre.length+q.tail.length≤32000
 mu:q.oe.b7=false
 me:∀v,q.vn=some v→v.b7=false
structure Fr(b:Nat)(st:St)(q:Bq)(st':St)(q':Bq):Prop where
 len:st.length≤st'.length
 keep:∀i,i<st.length→i∉q.own b→st'[i]?=st[i]?∧i∉q'.own b
theorem Fr.refl:Fr b st q st q:=⟨Nat.le_refl _,fun j j h=>⟨rfl,h⟩⟩
theorem Fr.trans(x:Fr b s1 q1 s2 q2)(y:Fr b s2 q2 s3 q3):Fr b s1 q1 s3 q3:=
 ⟨Nat.le_trans x.len y.len,fun i hi hn=>by
  obtain⟨e1,n1⟩:=x.keep i hi hn;obtain⟨e2,n2⟩:=y.keep i (Nat.lt_of_lt_of_le hi x.len) n1;exact⟨e2.trans e1,n2⟩⟩
section
variable {st:St}{b:Nat}{q:Bq}
theorem BI.lt(I:BI st b q):b<st.length:=(List.getElem?_eq_some_iff.mp I.inst).1
theorem BI.g0(I:BI st b q):ah st 0 (.obj b)=some (.obj q.jb):=by simp[ah,I.inst,Bq.sl,AV.b7]
theorem BI.g1(I:BI st b q):ah st 1 (.obj b)=some (oV q.cv):=by
 cases h:q.cv<;>simp[ah,I.inst,Bq.sl,AV.b7,h,oV]
theorem BI.g2(I:BI st b q):ah st 2 (.obj b)=some (.bool q.fin):=by simp[ah,I.inst,Bq.sl,AV.b7]
theorem BI.g4(I:BI st b q):ah st 4 (.obj b)=some (.int q.pre.length):=by simp[ah,I.inst,Bq.sl,AV.b7]
theorem BI.g5(I:BI st b q):ah st 5 (.obj b)=some (.int q.ma):=by simp[ah,I.inst,Bq.sl,AV.b7]
theorem BI.g6(I:BI st b q):ah st 6 (.obj b)=some (.bool q.ne):=by simp[ah,I.inst,Bq.sl,AV.b7]
theorem BI.g7(I:BI st b q):ah st 7 (.obj b)=some q.oe:=by simp[ah,I.inst,Bq.sl,I.mu]
theorem BI.g8(I:BI st b q):ah st 8 (.obj b)=some (oV q.sh):=by
 cases h:q.sh<;>simp[ah,I.inst,Bq.sl,AV.b7,h,oV]
theorem BI.g9(I:BI st b q)(h:q.vn=some v):ah st 9 (.obj b)=some v:=by simp[ah,I.inst,Bq.sl,h,I.me v h]
theorem BI.g10(I:BI st b q):ah st 10 (.obj b)=some (.obj q.jv):=by simp[ah,I.inst,Bq.sl,AV.b7]
theorem BI.gD(I:BI st b q)(i:Nat)(v:AV)(hi:i<11):ak st (.obj b) i v=some (st.set b (.inst (q.sl.set i (some v)))):=by
 simp[ak,I.inst,Bq.sl,hi]
theorem BI.gl0(I:BI st b q):d7 st (.obj q.jb)=.ok (.int ((q.pre.length+q.tail.length:Nat):Int)) st:=by
 haveI:=I.sz
 simp[d7,I.bytes,List.length_append];exact(aZ 0xf42400511000407d000411000409) this
theorem BI.put(I:BI st b q)(h1:q'.jb=q.jb)(h2:q'.jv=q.jv)(h3:q'.pre++q'.tail=q.pre++q.tail)(h4:q'.cv=q.cv)(h5:q'.sh=q.sh)(h6:q'.vt=q.vt)(h7:q'.oe.b7=false)(h8:∀v,q'.vn=some v→v.b7=false) :
 BI (st.set b (.inst q'.sl)) b q'∧Fr b st q (st.set b (.inst q'.sl)) q':=by
 have lu:q'.own b=q.own b:=by unfold Bq.own;rw[h1,h2,h4,h5]
 have nd:=I.nodup;have lt:=I.lt;haveI ne:∀{i:Nat},i∈q.own b→i≠b→(st.set b (.inst q'.sl))[i]?=st[i]?:=fun j hi=>List.getElem?_set_ne (Ne.symm hi)
 have nb:∀i∈[b+1,q.jb,q.jv]++oI q.cv++oI q.sh,i≠b:=fun i hi e=>by
  subst e;exact(List.nodup_cons.mp (show(i::([i+1,q.jb,q.jv]++oI q.cv++oI q.sh)).Nodup from nd)).1 hi
 refine⟨⟨List.getElem?_set_self lt,?_,?_,?_,fun p hp=>?_,fun p hp=>?_,by rw[lu];exact nd,?_,h7,h8⟩,by simp,fun i hi hn=>⟨List.getElem?_set_ne fun e=>hn (by subst e;simp[Bq.own]),by rw[lu];exact hn⟩⟩
 ·rw[List.getElem?_set_ne (Ne.symm (nb _ (by simp)))];exact I.yW
 ·rw[h1,List.getElem?_set_ne (Ne.symm (nb _ (by simp))),h3];exact I.bytes
 ·rw[h2,List.getElem?_set_ne (Ne.symm (nb _ (by simp))),h6];exact I.tM
 ·rw[h4] at hp
  rw[List.getElem?_set_ne (Ne.symm (nb _ (by simp[hp,oI])))];exact I.rV p hp
 ·rw[h5] at hp
  rw[List.getElem?_set_ne (Ne.symm (nb _ (by simp[hp,oI])))];exact I.uu p hp
 ·haveI:=I.sz
  haveI e:=congrArg List.length h3;simp only[List.length_append] at e;exact(gk 0x7d000411000403020410004297d000413020409) this e
end
theorem V.mthI(ho:aC tb rc lc o st=.ok (.obj j) s1)(I:BI s1 j q)(h:cT tb rc lc es s1=.ok vs s2)(hc:rc f (.obj j::vs) Option.none s2=r) :
 aC tb rc lc (.aA o f es Option.none Option.none) st=r:=V.RA ho I.inst I.yW h hc
theorem V.mthKwI(ho:aC tb rc lc o st=.ok (.obj j) s1)(I:BI s1 j q)(h:cT tb rc lc es s1=.ok vs s2)(hk:aC tb rc lc k s2=.ok w s3)(hc:rc f (.obj j::vs) (some (i,w)) s3=r) :
 aC tb rc lc (.aA o f es Option.none (some (i,k))) st=r:=V.J0 ho I.inst I.yW h hk hc
theorem cx65:tb.aQ 65 0=some (.int 1):=rfl
theorem cx93:tb.aQ 93 0=some (.int 4):=rfl
theorem cx121:tb.aQ 121 0=some (.int 4):=rfl
theorem cx133:tb.aQ 133 0=some (.int 4):=rfl
theorem cx145:tb.aQ 145 0=some (.int 2):=rfl
theorem V.newd0:aC tb rc lc (.cz 0) st=.ok (.obj st.length) (st++[.aj []]):=rfl
theorem V.newd1:aC tb rc lc (.cz 1) st=.ok (.obj st.length) (st++[.bo []]):=rfl
theorem V.newd2:aC tb rc lc (.cz 2) st=.ok (.obj st.length) (st++[.bR []]):=rfl
set_option tactic.hygienic true in
theorem V.Ej(hc:c lc st=.ok v af)(ht:truthy af v=some false):bF c b (n+1) lc st=.ok .next lc af:=by
 show(c lc st).gy lc (fun v st=>match truthy st v with|some true=>(match b lc st with|X.ok .next lc st=>bF c b n lc st|X.ok .cont lc st=>bF c b n lc st|x=>x)|some false=>X.ok .next lc st|Option.none=>X.stuck)=_
 rw[hc];show(match truthy af v with|some true=>(match b lc af with|X.ok .next lc st=>bF c b n lc st|X.ok .cont lc st=>bF c b n lc st|x=>x)|some false=>X.ok .next lc af|none=>X.stuck)=_;rw[ht]
theorem V.loopFn:loopF o t f [] lc st=.ok .next lc st:=rfl
theorem V.srcR(h:aC tb rc lc e st=.ok (.obj i) s1)(hi:s1[i]?=some (.list l)):jj tb rc lc (.rev e) st=.ok (some i,l.reverse) s1:=by
 show(aC tb rc lc e st).bind _=_;rw[h];show(match s1[i]? with|some (.list l)=>R.ok (some i,l.reverse) s1|_=>.stuck)=_;rw[hi]
theorem V.srcE(h:aC tb rc lc e st=.ok (.lst l) s1):jj tb rc lc (.yV e) st=.ok (none,l) s1:=by
 show(aC tb rc lc e st).bind _=_;rw[h]
theorem V.src1(h:aC tb rc lc e st=.ok (.int n) s1)(hn:-10000≤n∧n≤10000):jj tb rc lc (.dM e) st=.ok (none,dD 0 n true) s1:=by
 show(aC tb rc lc e st).bind _=_;rw[h];show(if -10000≤n∧n≤10000 then _ else _)=_;rw[if_pos hn]
noncomputable def V.mR(o:Option Nat)(t:T)(f:Lc→St→X)(eo:St)(fl:Fl)(r:List AV)(lc:Lc)(st:St):X:=match fl with
 |.next=>open Classical in if Sv.same o eo st then loopF o t f r lc st else .stuck
 |.cont=>open Classical in if Sv.same o eo st then loopF o t f r lc st else .stuck
 |.ret v=>.ok (.ret v) lc st
theorem V.loopFKn(hs:Sv.same o eo st)(h:loopF o t f r lc st=y):V.mR o t f eo .next r lc st=y:=by
 unfold V.mR;simp only[if_pos hs];exact h
theorem V.loopFKc(hs:Sv.same o eo st)(h:loopF o t f r lc st=y):V.mR o t f eo .cont r lc st=y:=by
 unfold V.mR;simp only[if_pos hs];exact h
theorem V.loopFg{o:Option Nat}{t:T}{f:Lc→St→X}{x:AV}{r:List AV}{lc lc1 uk:Lc}{st aU:St}{fl:Fl}{y:X}(hb:fH t x lc=some lc1)(hf:f lc1 st=.ok fl uk aU)(h:V.mR o t f st fl r uk aU=y):loopF o t f (x::r) lc st=y:=by
 rw[loopF,hb];simp only[hf];cases fl<;>exact h
noncomputable def V.uZ(c:Lc→St→R AV)(b:Lc→St→X)(n:Nat)(fl:Fl)(lc:Lc)(st:St):X:=match fl with
 |.next=>bF c b n lc st
 |.cont=>bF c b n lc st
 |.ret v=>.ok (.ret v) lc st
theorem V.loopWKn(h:bF c b n lc st=y):V.uZ c b n .next lc st=y:=h
theorem V.loopWKc(h:bF c b n lc st=y):V.uZ c b n .cont lc st=y:=h
noncomputable def V.vg(c:Lc→St→R AV)(b:Lc→St→X)(n:Nat)(t:Bool)(lc:Lc)(st:St):X:=match t with
 |true=>(match b lc st with|X.ok .next lc st=>bF c b n lc st|X.ok .cont lc st=>bF c b n lc st|x=>x)
 |false=>.ok .next lc st
set_option tactic.hygienic true in
theorem V.loopWT{c:Lc→St→R AV}{b:Lc→St→X}{n:Nat}{lc uk:Lc}{st aU:St}{fl:Fl}{y:X}(hb:b lc st=.ok fl uk aU)(h:V.uZ c b n fl uk aU=y):V.vg c b n true lc st=y:=by
 show(match b lc st with|X.ok .next lc st=>bF c b n lc st|X.ok .cont lc st=>bF c b n lc st|x=>x)=_;rw[hb];cases fl<;>exact h
theorem V.loopWF:V.vg c b n false lc st=.ok .next lc st:=rfl
set_option tactic.hygienic true in
theorem V.loopWg(hc:c lc st=.ok v af)(ht:truthy af v=some t)(h:V.vg c b n t lc af=y):bF c b (n+1) lc st=y:=by
 cases t
 ·exact(V.Ej hc ht).trans h
 ·show(c lc st).gy lc (fun v st=>match truthy st v with|some true=>(match b lc st with|X.ok .next lc st=>bF c b n lc st|X.ok .cont lc st=>bF c b n lc st|x=>x)|some false=>X.ok .next lc st|Option.none=>X.stuck)=_
  rw[hc];show(match truthy af v with|some true=>(match b lc af with|X.ok .next lc st=>bF c b n lc st|X.ok .cont lc st=>bF c b n lc st|x=>x)|some false=>X.ok .next lc af|none=>X.stuck)=_;rw[ht];exact h
theorem V.sAssignN(h:aC tb rc lc e st=.ok v s1)(hl:lc.set i (some v)=aK):eK tb rc (.assign i e) lc st=.ok .next aK s1:=by subst hl;exact V.Dm h
theorem V.sAssignXN(h:aC tb rc lc e st=.ok v s1)(hl:lc.set i (some v)=aK):eK tb rc (.cy i e) lc st=.ok .next aK s1:=by subst hl;exact V.AA h
theorem V.sAugN(hx:lc[i]?=some (some x))(h:aC tb rc lc e st=.ok v s1)(hw:fi op x v=some w)(hl:lc.set i (some w)=aK):eK tb rc (.aug i op e) lc st=.ok .next aK s1:=by subst hl;exact V.L8 hx h hw
theorem V.bindN(hl:lc.set i (some x)=aK):fH (.name i) x lc=some aK:=by subst hl;rfl
theorem V.isNN:bB st .is .none .none=some true:=rfl
theorem V.isNotNN:bB st .qp .none .none=some false:=rfl
theorem V.bind2N(hl:(lc.set i (some x)).set j (some y)=aK):fH (.tup [i,j]) (.tup [x,y]) lc=some aK:=by subst hl;rfl
theorem V.bind3N(hl:((lc.set i (some x)).set j (some y)).set k (some z)=aK):fH (.tup [i,j,k]) (.tup [x,y,z]) lc=some aK:=by subst hl;rfl
theorem V.neNN:bB st .ne .none .none=some false:=rfl
theorem bK(I:BI st b q):run tb fns (n+1) bJ [.obj b] none st=.ok (.int (q.tail.length:Int)) st:=by
 haveI h:aq .sub (.int ((q.pre.length+q.tail.length:Nat):Int)) (.int (q.pre.length:Int))=some (.int (q.tail.length:Int)):=V.mw (by exact aZ 0x10800810004855);apply V.fA (l:=[some (.obj b)]) rfl rfl rfl (fl:=.ret _);unfold rb
 repeat walk_at "ev"
theorem A5(I:BI st b q):run tb fns (n+1) sP [.obj b] none st=.ok (.int q.pre.length) st:=by
 apply V.fA (l:=[some (.obj b)]) rfl rfl rfl (fl:=.ret _);unfold Ay
 repeat walk_at "ev"
theorem fJ{n:Nat}{st:St}{C w s:Nat}{lo hi x:Int}(hC:wC C=some (w,lo,hi,s))(h1:lo≤x)(h2:x≤hi):run tb fns (n+1) eC [.int x,.ba (.ref C)] none st=.ok .none st:=by
 have c1:tb.aQ C 1=some (.int lo):=kP (l:=jU) (fun r=>AV.int r.2.1) hC;haveI c2:tb.aQ C 2=some (.int hi):=kP (l:=jU) (fun r=>AV.int r.2.2.1) hC;apply V.fA (l:=[some (.int x),some (.ba (.ref C))]) rfl rfl rfl (fl:=.next);unfold ew
 repeat walk_at "ev"
theorem BI.write(I:BI st b q)(hl:t.length=q.tail.length) :
 BI (st.set q.jb (.aJ (q.pre++t))) b { q with tail:=t }∧Fr b st q (st.set q.jb (.aJ (q.pre++t))) { q with tail:=t }:=by
 have nd:=I.nodup;haveI lt:q.jb<st.length:=(List.getElem?_eq_some_iff.mp I.bytes).1;haveI e1:b≠q.jb:=fun e=>by
  haveI:=(List.nodup_cons.mp (show(b::([b+1,q.jb,q.jv]++oI q.cv++oI q.sh)).Nodup from nd)).1
  exact this (by rw[e];simp)
 have n2:=(List.nodup_cons.mp (show(b::([b+1,q.jb,q.jv]++oI q.cv++oI q.sh)).Nodup from nd)).2;haveI e2:b+1≠q.jb:=fun e=>by
  haveI:=(List.nodup_cons.mp (show((b+1)::([q.jb,q.jv]++oI q.cv++oI q.sh)).Nodup from n2)).1
  exact this (by rw[e];simp)
 haveI n3:=(List.nodup_cons.mp (show((b+1)::([q.jb,q.jv]++oI q.cv++oI q.sh)).Nodup from n2)).2;have n4:∀i∈[q.jv]++oI q.cv++oI q.sh,i≠q.jb:=fun i hi e=>by
  subst e;exact(List.nodup_cons.mp (show(q.jb::([q.jv]++oI q.cv++oI q.sh)).Nodup from n3)).1 hi
 refine⟨⟨?_,?_,List.getElem?_set_self lt,?_,fun p hp=>?_,fun p hp=>?_,nd,by haveI:=I.sz;simp only[];exact(cM 0x7d000411000407d000412000409201029) hl this,I.mu,I.me⟩,by simp,fun i hi hn=>⟨List.getElem?_set_ne fun e=>hn (by subst e;simp[Bq.own]),hn⟩⟩
 ·rw[List.getElem?_set_ne (Ne.symm e1)];exact I.inst
 ·rw[List.getElem?_set_ne (Ne.symm e2)];exact I.yW
 ·rw[List.getElem?_set_ne (Ne.symm (n4 _ (by simp)))];exact I.tM
 ·haveI qV:q.cv=some p:=hp
  rw[List.getElem?_set_ne (Ne.symm (n4 _ (by simp[qV,oI])))];exact I.rV p hp
 ·haveI qV:q.sh=some p:=hp
  rw[List.getElem?_set_ne (Ne.symm (n4 _ (by simp[qV,oI])))];exact I.uu p hp
structure yO(C w s:Nat)(sg:Bool):Prop where
 row:wC C=some (w,(if sg then -(2^(8*w-1)) else 0),(if sg then 2^(8*w-1)-1 else 2^(8*w)-1),s)
 pack:E1 s=some (w,sg,false)
theorem ai(w:Nat)(x:Int):(leB w x).length=w:=by simp[leB]
theorem eO{n:Nat}{st:St}{C w s:Nat}{sg:Bool}(hF:yO C w s sg){j:Nat}{buf:List UInt8}{p x:Int}(hj:st[j]?=some (.aJ buf))(hz:buf.length≤1000000)(h0:0≤p)(h1:p+w≤buf.length)
  (uj:(if sg then -(2^(8*w-1)) else 0)≤x) (tS:x≤(if sg then 2^(8*w-1)-1 else 2^(8*w)-1)) :
  run tb fns (n+1) lE [.ba (.ref s),.obj j,.int p,.int x] none st=.ok .none (st.set j (.aJ (putAt buf p.toNat (leB w x)))):=by
 haveI hx:x<(if sg=true then 2^(8*w-1) else 2^(8*w)):=by split at tS<;>simp_all<;>exact(It 0x1000410121050039) tS
 haveI hp:aD tb .packInto (.ba (.ref s)) [.obj j,.int p,.int x] st=.ok .none (st.set j (.aJ (putAt buf p.toNat (leB w x)))):=by
  show(R.ei st (we tb st s j p (.int x))).bind _=_
  rw[show we tb st s j p (.int x)=some (st.set j (.aJ (putAt buf p.toNat (leB w x)))) by
   unfold we;rw[show tb.pack s=_ from hF.pack]
   show(st[j]?).bind _=_
   rw[hj];show gd _ (gd _ _)=_;rw[decide_eq_true ⟨h0,h1,hz⟩,decide_eq_true ⟨uj,hx⟩];rfl]
  rfl
 apply V.fA (l:=[some (.ba (.ref s)),some (.obj j),some (.int p),some (.int x)]) rfl rfl rfl (fl:=.next);unfold vj
 repeat walk_at "ev"
theorem pv{pre t x:List UInt8}{w:Nat}(hw:w≤pre.length)(hx:x.length=w):putAt (pre.take (pre.length-w)++(pre.drop (pre.length-w)++t)) (pre.length-w) x=pre.take (pre.length-w)++(x++t):=by
 have h1:(pre.take (pre.length-w)).length=pre.length-w:=by simp
 have h2:(pre.drop (pre.length-w)).length=w:=by simp;exact(aZ 0x10100050052001009) hw
 unfold putAt;rw[List.take_append_of_le_length (by exact(cM 0x20100050100052029) h1),List.take_of_length_le (by exact(cM 0x20105000201050029) h1),List.append_assoc]
 congr 1
 rw[hx,List.drop_append,h1,List.drop_eq_nil_of_le (by exact(cM 0x20201054000201050029) h1),List.nil_append,show pre.length-w+w-(pre.length-w)=w by exact aZ 0x10100051010005452,List.drop_append,h2,Nat.sub_self,List.drop_eq_nil_of_le (by exact(aZ 0x10000100029) h2)];rfl
theorem pre_split(k:Nat)(t:List UInt8):pre.take k++(pre.drop k++t)=pre++t:=by rw[←List.append_assoc,List.take_append_drop]
noncomputable def Bq.put(q:Bq)(x:List UInt8):Bq:={ q with pre:=q.pre.take (q.pre.length-x.length),tail:=x++q.tail }
theorem BI.place{st:St}{b:Nat}{q:Bq}(I:BI st b q){x:List UInt8}(hw:x.length≤q.pre.length){Pz:Prop}(kz:∀af,ak st (.obj b) 4 (.int ((q.pre.length:Int)-x.length))=some af→af[q.jb]?=some (.aJ (q.pre++q.tail))→(q.pre++q.tail).length≤1000000→(∀q',ah af 0 (.obj b)=some q'↔q'=.obj q.jb)→BI (af.set q.jb (.aJ (putAt (q.pre++q.tail) ((q.pre.length:Int)-x.length).toNat x))) b (q.put x)→Fr b st q (af.set q.jb (.aJ (putAt (q.pre++q.tail) ((q.pre.length:Int)-x.length).toNat x))) (q.put x)→Pz):Pz:=by
 let q1:Bq:={ q with pre:=q.pre.take (q.pre.length-x.length),tail:=q.pre.drop (q.pre.length-x.length)++q.tail }
 have J1:q1.pre++q1.tail=q.pre++q.tail:=pre_split _ _;haveI hlen:((q.pre.take (q.pre.length-x.length)).length:Int)=(q.pre.length:Int)-x.length:=by simp;exact(aZ 0x10800851000585001009) hw
 haveI hn:((q.pre.length:Int)-x.length).toNat=q.pre.length-x.length:=aZ 0x100051080085a2;obtain⟨I1,F1⟩:=I.put (q':=q1) rfl rfl J1 rfl rfl rfl I.mu I.me;haveI xM:q.sl.set 4 (some (.int ((q.pre.length:Int)-x.length)))=q1.sl:=by rw[←hlen];rfl
 refine And.elim (kz (st.set b (.inst q1.sl)) (by rw[I.gD 4 _ (by decide),xM]) (by haveI:=I1.bytes;rw[J1] at this;exact this) (by haveI:=I.sz;simp;exact(aZ 0xf42400511000407d000411000409) this) (fun q'=>?_)) ?_
 ·haveI:=I1.g0
  rw[this];exact⟨fun h=>(cQ h).symm,fun h=>by rw[h]⟩
 ·haveI e:putAt (q.pre++q.tail) ((q.pre.length:Int)-x.length).toNat x=q1.pre++(x++q.tail):=by
   rw[hn,←pre_split (q.pre.length-x.length) q.tail];exact pv hw rfl
  rw[e];obtain⟨I2,F2⟩:=I1.write (t:=x++q.tail) (by show _=(q.pre.drop _++q.tail).length;simp;exact(aZ 0x105105002100009) hw);exact⟨I2,F1.trans F2⟩
theorem qd{n:Nat}{st:St}{b:Nat}{q:Bq}(I:BI st b q){C w s:Nat}{sg:Bool}(hF:yO C w s sg){x:Int}(hw:w≤q.pre.length)
  (uj:(if sg then -(2^(8*w-1)) else 0)≤x) (tS:x≤(if sg then 2^(8*w-1)-1 else 2^(8*w)-1))  {Pz:Prop} (kz:∀st',run tb fns (n+2) vi [.obj b,.int x,.ba (.ref C)] none st=.ok .none st'→BI st' b (q.put (leB w x))→Fr b st q st' (q.put (leB w x))→Pz):Pz:=by
 refine I.place (x:=leB w x) (by rw[ai];exact hw) fun af e1 e2 e3 e4 I2 F2=>?_
 haveI c0:tb.aQ C 0=some (.int w):=kP (l:=jU) (fun r=>AV.int (r.1:Int)) hF.row;haveI c3:tb.aQ C 3=some (.ba (.ref s)):=kP (l:=jU) (fun r=>AV.ba (.ref r.2.2.2)) hF.row;rw[ai] at e1;haveI e5:=(e4 _).mpr rfl;haveI OL:=eO (n:=n) (st:=af) hF (p:=(q.pre.length:Int)-w) (x:=x) e2 e3 (by exact(aZ 0x10800850023001009) hw) (by rw[List.length_append];exact cM 0x200048108108008543) uj tS;haveI Pa:=fJ (n:=n) (st:=st) hF.row uj tS;rw[ai] at I2 F2;refine kz _ ?_ I2 F2;apply V.fA (l:=[some (.obj b),some (.int x),some (.ba (.ref C)),none]) rfl rfl rfl (fl:=.next);unfold vw
 repeat walk_at "ev"
end
end Sv.L2
namespace Sv.L2
open PySem Sv PyProof.Rows
theorem BI.same{st st':St}{b:Nat}{q:Bq}(I:BI st b q)(h:∀i∈q.own b,st'[i]?=st[i]?):BI st' b q:=
 ⟨by rw[h _ (by simp[Bq.own])];exact I.inst,by rw[h _ (by simp[Bq.own])];exact I.yW,by rw[h _ (by simp[Bq.own])];exact I.bytes,by rw[h _ (by simp[Bq.own])];exact I.tM,
  fun p hp=>by rw[h _ (by simp[Bq.own,oI,hp])];exact I.rV p hp,fun p hp=>by rw[h _ (by simp[Bq.own,oI,hp])];exact I.uu p hp,I.nodup,I.sz,I.mu,I.me⟩
theorem BI.EP{st:St}{b:Nat}{q:Bq}(I:BI st b q):∀i∈q.own b,i<st.length:=fun i hi=>by
 have f:∀{o:ao},st[i]?=some o→i<st.length:=fun e=>(List.getElem?_eq_some_iff.mp e).1
 simp only[Bq.own,List.mem_append,List.mem_cons,List.not_mem_nil,or_false] at hi;rcases hi with ((h|h|h|h)|h)|h
 ·subst h;exact f I.inst
 ·subst h;exact f I.yW
 ·subst h;exact f I.bytes
 ·subst h;exact f I.tM
 ·cases hc:q.cv with
  |none=>rw[hc] at h;simp[oI] at h
  |some p=>rw[hc] at h;simp[oI] at h;subst h;exact f (I.rV p hc)
 ·cases hc:q.sh with
  |none=>rw[hc] at h;simp[oI] at h
  |some p=>rw[hc] at h;simp[oI] at h;subst h;exact f (I.uu p hc)
theorem BI.app{st:St}{b:Nat}{q:Bq}(I:BI st b q)(l:List ao):BI (st++l) b q:=
 I.same fun i hi=>List.getElem?_append_left (I.EP i hi)
theorem Fr.app{st:St}{b:Nat}{q:Bq}(l:List ao):Fr b st q (st++l) q:=
 ⟨by simp,fun i hi hn=>⟨List.getElem?_append_left hi,hn⟩⟩
theorem BI.uQ{st:St}{b:Nat}{q:Bq}(I:BI st b q){i:Nat}(hi:i∉q.own b)(o:ao):BI (st.set i o) b q:=
 I.same fun k hk=>List.getElem?_set_ne fun e=>hi (by rw[e];exact hk)
theorem BI.Hy{st:St}{b:Nat}{q:Bq}(I:BI st b q){p t:List UInt8}(hp:p.length=q.pre.length)(hl:t.length=q.tail.length) :
  BI (st.set q.jb (.aJ (p++t))) b { q with pre:=p,tail:=t }∧Fr b st q (st.set q.jb (.aJ (p++t))) { q with pre:=p,tail:=t }:=by
 obtain⟨I1,F1⟩:=I.write (t:=t) hl;haveI lt:q.jb<st.length:=(List.getElem?_eq_some_iff.mp I.bytes).1;haveI vI:(Bq.sl { q with pre:=p,tail:=t })=Bq.sl { q with tail:=t }:=by simp[Bq.sl,hp]
 have e:∀{i:Nat},i≠q.jb→(st.set q.jb (.aJ (p++t)))[i]?=(st.set q.jb (.aJ (q.pre++t)))[i]?:=fun hi=>by
  rw[List.getElem?_set_ne (Ne.symm hi),List.getElem?_set_ne (Ne.symm hi)]
 have nd:=I.nodup;have n2:=(List.nodup_cons.mp (show(b::([b+1,q.jb,q.jv]++oI q.cv++oI q.sh)).Nodup from nd)).2;haveI n3:=(List.nodup_cons.mp (show((b+1)::([q.jb,q.jv]++oI q.cv++oI q.sh)).Nodup from n2)).2;haveI e1:b≠q.jb:=fun e=>by
  haveI:=(List.nodup_cons.mp (show(b::([b+1,q.jb,q.jv]++oI q.cv++oI q.sh)).Nodup from nd)).1
  exact this (by rw[e];simp)
 haveI e2:b+1≠q.jb:=fun e=>by
  haveI:=(List.nodup_cons.mp (show((b+1)::([q.jb,q.jv]++oI q.cv++oI q.sh)).Nodup from n2)).1
  exact this (by rw[e];simp)
 have n4:∀i∈[q.jv]++oI q.cv++oI q.sh,i≠q.jb:=fun i hi e=>by
  subst e;exact(List.nodup_cons.mp (show(q.jb::([q.jv]++oI q.cv++oI q.sh)).Nodup from n3)).1 hi
 refine⟨⟨?_,?_,List.getElem?_set_self lt,?_,fun x hx=>?_,fun x hx=>?_,nd,by haveI:=I.sz;simp only[];exact(gk 0x7d000411000407d000413020409301029200029) hp hl this,I.mu,I.me⟩,by simp,fun i hi hn=>⟨List.getElem?_set_ne fun e=>hn (by subst e;simp[Bq.own]),hn⟩⟩
 ·rw[vI,e e1];exact I1.inst
 ·rw[e e2];exact I1.yW
 ·rw[e (n4 _ (by simp))];exact I1.tM
 ·haveI qV:q.cv=some x:=hx
  rw[e (n4 _ (by simp[qV,oI]))];exact I1.rV x hx
 ·haveI qV:q.sh=some x:=hx
  rw[e (n4 _ (by simp[qV,oI]))];exact I1.uu x hx
theorem BI.oU{st:St}{b:Nat}{q:Bq}(I:BI st b q){j:Nat}{p t:List UInt8}(hj:st[j]?=some (.aJ (p++t)))(hn:j∉q.own b)(hp:p.length=q.pre.length)(hc:p.length+t.length≤32000) :
  BI (st.set b (.inst (q.sl.set 0 (some (.obj j))))) b { q with jb:=j,pre:=p,tail:=t }:=by
 have lt:=I.lt;haveI jb:j≠b:=fun e=>hn (by subst e;simp[Bq.own])
 haveI vI:q.sl.set 0 (some (.obj j))=Bq.sl { q with jb:=j,pre:=p,tail:=t }:=by simp[Bq.sl,hp]
 have nd:=I.nodup;haveI n1:=(List.nodup_cons.mp (show(b::([b+1,q.jb,q.jv]++oI q.cv++oI q.sh)).Nodup from nd)).1;have nb:∀i∈[b+1,q.jb,q.jv]++oI q.cv++oI q.sh,b≠i:=fun i hi e=>n1 (e▸hi)
 refine⟨by rw[vI];exact List.getElem?_set_self lt,?_,?_,?_,fun x hx=>?_,fun x hx=>?_,?_,hc,I.mu,I.me⟩
 ·rw[List.getElem?_set_ne (nb _ (by simp))];exact I.yW
 ·rw[List.getElem?_set_ne jb.symm];exact hj
 ·rw[List.getElem?_set_ne (nb _ (by simp))];exact I.tM
 ·haveI qV:q.cv=some x:=hx
  rw[List.getElem?_set_ne (nb _ (by simp[qV,oI]))];exact I.rV x hx
 ·haveI qV:q.sh=some x:=hx
  rw[List.getElem?_set_ne (nb _ (by simp[qV,oI]))];exact I.uu x hx
 ·have wI:j≠b∧j≠b+1∧j≠q.jv∧j∉oI q.cv∧j∉oI q.sh:=by
   refine⟨fun e=>hn ?_,fun e=>hn ?_,fun e=>hn ?_,fun e=>hn ?_,fun e=>hn ?_⟩<;>simp[Bq.own,e]
  simp only[Bq.own,List.cons_append,List.nil_append,List.nodup_cons,List.mem_cons,List.mem_append,not_or] at nd ⊢;obtain⟨⟨a1,a2,a3,a4⟩,⟨b1,b2,b3⟩,c1,d1,rest⟩:=nd;obtain⟨h1,h2,h3,h4,h5⟩:=wI;exact⟨⟨a1,h1.symm,a3,a4⟩,⟨h2.symm,b2,b3⟩,⟨h3,h4,h5⟩,d1,rest⟩
theorem i6(h:a≤n):clipAt n (a:Int)=a:=by
 haveI:=clipAt_cast n (a:Int)
 rw[if_neg (by exact aO 0x200846)] at this;exact(cM 0x10002208108c002b00859201009) h this
theorem i8{m:Nat}(h:m≤1000000):fB (some (.int (m:Int)))=some (some (m:Int)):=by
 unfold fB;exact if_pos ⟨by exact aO 0x840000000000000001034,by exact(aO 0x40000000000000001020084f42400510009) h⟩
theorem Fg{st:St}{j:Nat}{buf x:List UInt8}{v:AV}{a c:Int}{m:Nat}(hj:st[j]?=some (.aJ buf))(hz:buf.length≤1000000)(ha:a=m)(hc:c=((m+x.length:Nat):Int))(hl:m+x.length≤buf.length)(hv:v=.bytes x) :
  bU st (.obj j) (some (.int a)) (some (.int c)) v=some (st.set j (.aJ (buf.take m++x++buf.drop (m+x.length)))):=by
 subst ha;subst hc;subst hv;haveI c1:=i6 (show m≤buf.length by exact(cM 0x10000102000409) hl);haveI c2:=i6 hl;haveI o1:=i8 (show m≤1000000 by exact(cM 0xf4240051000102000409f42400511009) hz hl);haveI o2:=i8 (show m+x.length≤1000000 by exact(cM 0xf4240051100040201000409f42400512009) hz hl);haveI h3:x.length=m+x.length-m:=aZ 0x10001045002;exact V.EJ hj o1 o2 rfl c1 c2 (by exact aZ 0x10004000) h3 hz
theorem HF{st:St}{j k:Nat}{buf x:List UInt8}{a:Int}{m:Nat}(hj:st[j]?=some (.aJ buf))(hk:st[k]?=some (.aJ x))(cS:k≠j)(hz:buf.length≤1000000)(ha:a=m)(hl:m+x.length=buf.length) :
  bU st (.obj j) (some (.int a)) none (.obj k)=some (st.set j (.aJ (buf.take m++x))):=by
 subst ha;haveI c1:=i6 (show m≤buf.length by exact(cM 0x10000102000429) hl);haveI o1:=i8 (show m≤1000000 by exact(cM 0xf4240051000102000429f42400511009) hz hl);haveI h3:x.length=buf.length-m:=(cM 0x20105002100020429) hl;haveI o2:fB none=some none:=rfl;rw[V.EJ hj o1 o2 (c:=x) (hi:=buf.length) (by show gd (!(k==j)) ((st[k]?).bind _)=_;rw[beq_eq_false_iff_ne.mpr cS,hk];rfl) c1 rfl (by exact(cM 0x10000102000429) hl) h3 hz,List.drop_length,List.append_nil]
theorem Dt{n:Nat}{st:St}{b:Nat}{q:Bq}(I:BI st b q){k:Nat}(hk:k≤q.pre.length)(EZ:k≤10000){Pz:Prop}(kz:∀st',run tb fns (n+1) Ip [.obj b,.int k] none st=.ok .none st'→BI st' b (q.put (List.replicate k 0))→Fr b st q st' (q.put (List.replicate k 0))→Pz):Pz:=by
 by_cases h0:k=0
 ·subst h0
  refine kz st ?_ (by simpa[Bq.put] using I) (by simpa[Bq.put] using Fr.refl);apply V.fA (l:=[some (.obj b),some (.int (0:Nat)),none]) rfl rfl rfl (fl:=.ret .none);unfold Co
  repeat walk_at "ev"
 ·haveI r6:=I.sz
  obtain⟨I1,F1⟩:=I.Hy (p:=q.pre.take (q.pre.length-k)++List.replicate k 0) (t:=q.tail) (by simp;exact(aZ 0x101000542001009) hk) rfl;haveI e1:aq .mul (.bytes [0]) (.int (k:Int))=some (.bytes (List.replicate k 0)):=V.Ki (by exact aO 0x80023) (by exact(aO 0x2710042008327100410009) EZ);haveI e2:=Fg (x:=List.replicate k 0) (v:=.bytes (List.replicate k 0)) (a:=(q.pre.length:Int)-k) (c:=(q.pre.length:Int)) (m:=q.pre.length-k) I.bytes (by simp;exact(aZ 0xf42400511000407d000411000409) r6) (by exact(aZ 0x10005810800855001009) hk) (by simp;exact(aZ 0x10810005840085001009) hk) (by simp;exact(cM 0x20004101000540001009) hk) rfl;haveI e3:(q.pre++q.tail).take (q.pre.length-k)++List.replicate k 0++(q.pre++q.tail).drop (q.pre.length-k+(List.replicate k (0:UInt8)).length)=q.pre.take (q.pre.length-k)++List.replicate k 0++q.tail:=by
   rw[List.length_replicate,show q.pre.length-k+k=q.pre.length by exact(aZ 0x101000542001009) hk,List.drop_left,List.take_append_of_le_length (by exact aZ 0x100050)]
  rw[e3] at e2;obtain⟨I2,F2⟩:=I1.put (q':=q.put (List.replicate k 0)) rfl rfl (by simp[Bq.put]) rfl rfl rfl I.mu I.me;haveI e4:=I1.gD 4 (.int ((q.pre.length:Int)-k)) (by decide);haveI e5:(Bq.sl { q with pre:=q.pre.take (q.pre.length-k)++List.replicate k 0,tail:=q.tail }).set 4 (some (.int ((q.pre.length:Int)-k)))=(q.put (List.replicate k 0)).sl:=by
   simp[Bq.sl,Bq.put];exact(aZ 0x10005810800855001009) hk
  rw[e5] at e4;refine kz _ ?_ I2 (F1.trans F2);apply V.fA (l:=[some (.obj b),some (.int k),none]) rfl rfl rfl (fl:=.next);unfold Co
  repeat walk_at "ev"
noncomputable def gr(n:Nat):Nat:=if n=0 then 1 else n
theorem EA(h:n≤m)(h0:1≤m):gr n≤m∧n≤gr n:=by
 cases n with
 |zero=>exact⟨h0,Nat.zero_le _⟩
 |succ k=>exact⟨h,Nat.le_refl _⟩
theorem GZ(n:Nat):0<gr n:=by cases n<;>exact Nat.succ_pos _
theorem z6{n:Nat}{st:St}{b:Nat}{q:Bq}(I:BI st b q)(hc:q.pre.length+q.tail.length≤16000){p t:List UInt8}(hp:p.length=q.pre.length)
  (he:p++t=List.replicate (gr (q.pre.length+q.tail.length)) 0++(q.pre++q.tail))  {Pz:Prop} (kz:∀st' j,run tb fns (n+1) eA [.obj b] none st=.ok .none st'→BI st' b { q with jb:=j,pre:=p,tail:=t }→Fr b st q st' { q with jb:=j,pre:=p,tail:=t }→Pz):Pz:=by
 have hg:gr (q.pre.length+q.tail.length)≤16000∧q.pre.length+q.tail.length≤gr (q.pre.length+q.tail.length):=EA hc (by decide);have hlen:p.length+t.length=gr (q.pre.length+q.tail.length)+(q.pre.length+q.tail.length):=by
  haveI:=congrArg List.length he;simpa using this
 generalize hG:gr (q.pre.length+q.tail.length)=g at *;have Mz:st.length∉q.own b:=fun h=>absurd (I.EP _ h) (by exact aO 0x16)
 have Ia:=I.app [.aJ (List.replicate (g+(q.pre.length+q.tail.length)) 0)];haveI hz:(st++[ao.aJ (List.replicate (g+(q.pre.length+q.tail.length)) 0)])[st.length]?=some (.aJ (List.replicate (g+(q.pre.length+q.tail.length)) 0)):=by simp
 haveI Qn:q.jb≠st.length:=fun e=>Mz (by rw[←e];simp[Bq.own])
 have e1:=HF (a:=((g+(q.pre.length+q.tail.length):Nat):Int)-((q.pre.length+q.tail.length:Nat):Int)) (m:=g) hz Ia.bytes Qn (by simp;exact(cM 0xf4240051201040040002010403e8004100079) hg) (by exact cM 0x820104820104004855) (by simp);have e2:(List.replicate (g+(q.pre.length+q.tail.length)) (0:UInt8)).take g++(q.pre++q.tail)=p++t:=by rw[he,List.take_replicate];congr 2;exact cM 0x2010400400c2
 rw[e2] at e1;have Ib:=Ia.uQ Mz (.aJ (p++t));haveI Pl:((st++[ao.aJ (List.replicate (g+(q.pre.length+q.tail.length)) 0)]).set st.length (.aJ (p++t)))[st.length]?=some (.aJ (p++t)):=List.getElem?_set_self (by simp);haveI Ic:=Ib.oU Pl Mz hp (by exact(xg 0x7d00041100040302044041000429403020403e8004140079) hg hlen);have e3:=Ib.gD 0 (.obj st.length) (by decide);have fP:Sv.bcall .bytearray [.int ((g+(q.pre.length+q.tail.length):Nat):Int)] st=.ok (.obj st.length) (st++[.aJ (List.replicate (g+(q.pre.length+q.tail.length)) 0)]):=by
  haveI h0:(0:Int)≤((g+(q.pre.length+q.tail.length):Nat):Int)∧((g+(q.pre.length+q.tail.length):Nat):Int)≤1000000:=(cM 0xf4240052201040048320104004800237002010403e8004100079) hg
  show(if (0:Int)≤((g+(q.pre.length+q.tail.length):Nat):Int)∧((g+(q.pre.length+q.tail.length):Nat):Int)≤1000000 then R.ok _ _ else _)=_
  rw[if_pos h0];rfl
 have JS:Sv.bcall .min2 [.int (((q.pre.length+q.tail.length:Nat):Int)*2),.int 2147483648] st=.ok (.int (((q.pre.length+q.tail.length:Nat):Int)*2)) st:=by
  show R.ok (AV.int (if (2147483648:Int)<_ then _ else _)) _=_;rw[if_neg (by exact(aZ 0x100048201780000000082463e800411000409) hc)]
 haveI PV:Fr b st q (((st++[ao.aJ (List.replicate (g+(q.pre.length+q.tail.length)) 0)]).set st.length (.aJ (p++t))).set b (.inst (q.sl.set 0 (some (.obj st.length))))) { q with jb:=st.length,pre:=p,tail:=t }:=by
  refine⟨by simp,fun i hi hn=>⟨?_,fun hm=>?_⟩⟩
  ·rw[List.getElem?_set_ne (fun e=>hn (by subst e;simp[Bq.own])),List.getElem?_set_ne (by exact(aZ 0x100026001019) hi),List.getElem?_append_left hi]
  ·simp only[Bq.own,List.mem_append,List.mem_cons,List.not_mem_nil,or_false] at hm hn
   rcases hm with ((h|h|h|h)|h)|h
   ·exact hn (by simp[h])
   ·exact hn (by simp[h])
   ·exact(aZ 0x100026100019) hi h
   ·exact hn (by simp[h])
   ·exact hn (by simp[h])
   ·exact hn (by simp[h])
 refine kz _ st.length ?_ Ic PV;have RT:∃f:Int,f=((g+(q.pre.length+q.tail.length):Nat):Int):=⟨_,rfl⟩
 by_cases Lr:q.pre.length+q.tail.length=0
 ·have KC:g=1:=by rw[←hG];unfold gr;rw[if_pos Lr]
  haveI GW:Sv.bcall .bytearray [.int 1] st=.ok (.obj st.length) (st++[.aJ (List.replicate (g+(q.pre.length+q.tail.length)) 0)]):=by
   rw[←fP];congr 3;exact(cM 0x20104004810125101100290012010429) Lr KC
  haveI PF:bU (st++[ao.aJ (List.replicate (g+(q.pre.length+q.tail.length)) 0)]) (.obj st.length) (some (.int (1-((q.pre.length+q.tail.length:Nat):Int)))) none (.obj q.jb)=some ((st++[ao.aJ (List.replicate (g+(q.pre.length+q.tail.length)) 0)]).set st.length (.aJ (p++t))):=by
   rw[←e1];congr 3;exact(cM 0x1000481000420485100048101255101120290011000429) Lr KC
  apply V.fA (l:=[some (.obj b),none,none,none]) rfl rfl rfl (fl:=.next);unfold dy
  repeat walk_at "ev"
 ·have KC:g=q.pre.length+q.tail.length:=by rw[←hG];unfold gr;rw[if_neg Lr]
  haveI GW:Sv.bcall .bytearray [.int (((q.pre.length+q.tail.length:Nat):Int)*2)] st=.ok (.obj st.length) (st++[.aJ (List.replicate (g+(q.pre.length+q.tail.length)) 0)]):=by
   rw[←fP];congr 3;exact(cM 0x10004204810004820175100042029) KC
  haveI PF:bU (st++[ao.aJ (List.replicate (g+(q.pre.length+q.tail.length)) 0)]) (.obj st.length) (some (.int (((q.pre.length+q.tail.length:Nat):Int)*2-((q.pre.length+q.tail.length:Nat):Int)))) none (.obj q.jb)=some ((st++[ao.aJ (List.replicate (g+(q.pre.length+q.tail.length)) 0)]).set st.length (.aJ (p++t))):=by
   rw[←e1];congr 3;exact(cM 0x1000481000420485100048100048201755100042029) KC
  apply V.fA (l:=[some (.obj b),none,none,none]) rfl rfl rfl (fl:=.next);unfold dy
  repeat walk_at "ev"
set_option tactic.hygienic true in
theorem V.Lf{c:Lc→St→R AV}{b:Lc→St→X}{n:Nat}{lc uk:Lc}{st af aU:St}{v:AV}{r:X}(hc:c lc st=.ok v af)(ht:truthy af v=some true)(hb:b lc af=.ok .next uk aU)(h:bF c b n uk aU=r):bF c b (n+1) lc st=r:=by
 rw[bF,hc];show(match truthy af v with|some true=>(match b lc af with|X.ok .next lc st=>bF c b n lc st|X.ok .cont lc st=>bF c b n lc st|x=>x)|some false=>X.ok .next lc af|none=>X.stuck)=_;rw[ht];show(match b lc af with|X.ok .next lc st=>bF c b n lc st|X.ok .cont lc st=>bF c b n lc st|x=>x)=_;rw[hb];exact h
noncomputable def pd(s m:Nat):Nat:=(s-m%s)%s
noncomputable def qt:E:=.cmp .lt (.var 3) (.var 6)
noncomputable def wQ:Ss:=(.cons (.assign 7 (.var 4)) (.cons (.expr (.aA (.var 0) 297 .nil Option.none Option.none)) (.cons (.assign 4 (.bcall .len (.cons (.slot (.var 0) 0) .nil))) (.cons (.aug 3 .add (.bin .sub (.var 4) (.var 7))) .nil))))
theorem pV{n:Nat}{b:Nat}{q:Bq}{s a al:AV}{nd:Nat}(jO:nd≤900)(ht:q.tail.length≤10000)(hq:q.pre.length+q.tail.length≤32000){Pz:Prop}:∀(m:Nat)(st:St)(j d:Nat)(p t:List UInt8)(x:Option AV),
  BI st b { q with jb:=j,pre:=p,tail:=t }→p++t=List.replicate d 0++(q.pre++q.tail)→p.length=q.pre.length→nd<q.pre.length+d+m∧0<m →
  (∀st' j' d' p' t' x',bF (fun lc st=>aC tb (Sv.jc tb (Sv.run tb fns (n+1))) lc qt st) (fun lc st=>aT tb (Sv.jc tb (Sv.run tb fns (n+1))) wQ lc st) m
    [some (.obj b),some s,some a,some (.int ((q.pre.length+d:Nat):Int)),some (.int ((q.pre.length+q.tail.length+d:Nat):Int)),some al,some (.int (nd:Int)),x] st =
    .ok .next [some (.obj b),some s,some a,some (.int ((q.pre.length+d':Nat):Int)),some (.int ((q.pre.length+q.tail.length+d':Nat):Int)),some al,some (.int (nd:Int)),x'] st'→BI st' b { q with jb:=j',pre:=p',tail:=t' }→p'++t'=List.replicate d' 0++(q.pre++q.tail)→p'.length=q.pre.length→nd≤q.pre.length+d'→Fr b st { q with jb:=j,pre:=p,tail:=t } st' { q with jb:=j',pre:=p',tail:=t' }→Pz)→Pz
 |0,st,j,d,p,t,x,I,he,hp,hm,kz=>absurd hm.2 (by exact ed 0x100116)
 |m+1,st,j,d,p,t,x,I,he,hp,hm,kz=>by
  have hl:p.length+t.length=d+(q.pre.length+q.tail.length):=by haveI:=congrArg List.length he;simpa using this
  by_cases dh:q.pre.length+d<nd
  ·haveI My:((q.pre.length+d:Nat):Int)<(nd:Int):=(cM 0x2081000484201000419) dh
   haveI hg:gr (p.length+t.length)≤16000∧0<gr (p.length+t.length):=⟨(EA (by omega) (by decide)).1,GZ _⟩;generalize hG:gr (p.length+t.length)=g at *;have OZ:((List.replicate g 0++(p++t)).take p.length).length=p.length:=by simp;exact cM 0x2000410400c2
   refine z6 (n:=n) I (by show p.length+t.length≤16000;exact(LD 0x3e80041100040205040419304045041000429271004130093840312009) jO ht hl dh) (p:=(List.replicate g 0++(p++t)).take p.length) (t:=(List.replicate g 0++(p++t)).drop p.length) OZ (by show _=List.replicate (gr (p.length+t.length)) 0++(p++t);rw[hG,List.take_append_drop]) fun af j1 e1 I1 F1=>?_
   have rh:(List.replicate g 0++(p++t)).take p.length++(List.replicate g 0++(p++t)).drop p.length=List.replicate (d+g) 0++(q.pre++q.tail):=by
    rw[List.take_append_drop,he,←List.append_assoc,List.replicate_append_replicate,Nat.add_comm g d]
   refine pV (n:=n) (s:=s) (a:=a) (al:=al) jO ht hq m af j1 (d+g) _ _ (some (.int ((q.pre.length+q.tail.length+d:Nat):Int))) I1 rh (by rw[OZ,hp]) (by exact(xg 0x4000114030204104400173000113e800413007900201041910114040011101140420104400179) hm dh hg) fun aU j2 d2 p2 t2 x2 e2 r1 r2 r3 r4 r5=>?_
   refine kz aU j2 d2 p2 t2 x2 ?_ r1 r2 r3 r4 (F1.trans r5);haveI hb:aT tb (Sv.jc tb (Sv.run tb fns (n+1))) wQ [some (.obj b),some s,some a,some (.int ((q.pre.length+d:Nat):Int)),some (.int ((q.pre.length+q.tail.length+d:Nat):Int)),some al,some (.int (nd:Int)),x] st =
     .ok .next [some (.obj b),some s,some a,some (.int ((q.pre.length+(d+g):Nat):Int)),some (.int ((q.pre.length+q.tail.length+(d+g):Nat):Int)),some al,some (.int (nd:Int)),some (.int ((q.pre.length+q.tail.length+d:Nat):Int))] af:=by
    haveI b0:d7 af (.obj j1)=.ok (.int ((q.pre.length+q.tail.length+(d+g):Nat):Int)) af:=by
     haveI:=I1.gl0
     rw[this];congr 3
     haveI:=congrArg List.length rh
     simp only[List.length_append,List.length_replicate] at this ⊢;exact(LD 0x50404302044100042302045040441000429) this
    haveI b1:Sv.bcall .len [.obj j1] af=.ok (.int ((q.pre.length+q.tail.length+(d+g):Nat):Int)) af:=b0;haveI b2:fi .add (.int ((q.pre.length+d:Nat):Int)) (.int (((q.pre.length+q.tail.length+(d+g):Nat):Int)-((q.pre.length+q.tail.length+d:Nat):Int)))=some (.int ((q.pre.length+(d+g):Nat):Int)):=by
     exact V.NL (by exact gk 0x301040048102000448301042000448510004845)
    unfold wQ
    repeat walk_at "ev"
   haveI hc:aC tb (Sv.jc tb (Sv.run tb fns (n+1))) [some (.obj b),some s,some a,some (.int ((q.pre.length+d:Nat):Int)),some (.int ((q.pre.length+q.tail.length+d:Nat):Int)),some al,some (.int (nd:Int)),x] qt st=.ok (.bool true) st:=by
    unfold qt
    repeat walk_at "ev"
   exact V.Lf hc rfl hb e2
  ·haveI My:¬((q.pre.length+d:Nat):Int)<(nd:Int):=(cM 0x208100048462010004169) dh
   haveI hc:aC tb (Sv.jc tb (Sv.run tb fns (n+1))) [some (.obj b),some s,some a,some (.int ((q.pre.length+d:Nat):Int)),some (.int ((q.pre.length+q.tail.length+d:Nat):Int)),some al,some (.int (nd:Int)),x] qt st=.ok (.bool false) st:=by
    unfold qt
    repeat walk_at "ev"
   refine kz st j d p t x ?_ I he hp (by exact(cM 0x201040000020104169) dh) Fr.refl;exact V.Ej hc rfl
noncomputable def al(s a:Nat)(t:List UInt8):List UInt8:=List.replicate (pd s (t.length+a)) 0++t
noncomputable def Bq.mv(q:Bq)(j:Nat)(p t:List UInt8)(m:Int):Bq:={ q with jb:=j,pre:=p,tail:=t,ma:=m }
noncomputable def Bq.nE(q:Bq)(v:Bool):Bq:={ q with ne:=v }
noncomputable def Bq.vN(q:Bq)(v:Option AV):Bq:={ q with vn:=v }
theorem wH(h:0<s):pd s m<s:=Nat.mod_lt _ h
theorem H5{s m:Nat}(hs:s=1∨s=2∨s=4):fi .band (.int (-(m:Int))) (.int ((s:Int)-1))=some (.int ((pd s m:Nat):Int)):=by
 show some (AV.int (Builtin.bitAnd (-(m:Int)) ((s:Int)-1)))=_;unfold pd;rcases hs with h|h|h<;>subst h
 ·show some (AV.int (Builtin.bitAnd _ 0))=_
  rw[bitAnd_zero];simp
 ·show some (AV.int (Builtin.bitAnd _ 1))=_
  rw[bitAnd_m1];congr 2;exact(OY 0x20850520112011020115204020164279201110100103020164279201250450002370089506020164579) (im _ 2 rfl) (nm _ 2 rfl) (nm _ 2 rfl)
 ·show some (AV.int (Builtin.bitAnd _ 3))=_
  rw[bitAnd_m2];congr 2;exact(OY 0x20850540112011040115204040164279401110100103040164279401250450002370089506040164579) (im _ 4 rfl) (nm _ 4 rfl) (nm _ 4 rfl)
theorem ek{n:Nat}{st:St}{b:Nat}{q:Bq}(I:BI st b q){s a:Nat}(hs:s=1∨s=2∨s=4)(ha:a≤500)(ht:q.tail.length≤10000){Pz:Prop}(kz:∀st' j p,run tb fns (n+2) ir [.obj b,.int s,.int a] none st=.ok .none st'→s+a≤p.length→q.pre.length≤p.length+pd s (q.tail.length+a)→BI st' b (q.mv j p (al s a q.tail) (max q.ma s))→Fr b st q st' (q.mv j p (al s a q.tail) (max q.ma s))→Pz):Pz:=by
 have DA:pd s (q.tail.length+a)<4:=by haveI:=@wH s (q.tail.length+a) (by exact(aO 0x11401100220110028101100289) hs);exact(aZ 0x4011001100019401110220111028101110289) hs this
 obtain⟨eo,h0,I0,F0⟩:∃eo,(∀x1 x2 x3 x4 x5,eK tb (Sv.jc tb (Sv.run tb fns (n+1))) (.ite (.cmp .gt (.var 1) (.slot (.var 0) 5)) (.cons (.setSlot (.var 0) 5 (.var 1)) .nil) .nil) [some (.obj b),some (.int s),some (.int a),x1,x2,x3,x4,x5] st=.ok .next [some (.obj b),some (.int s),some (.int a),x1,x2,x3,x4,x5] eo)∧BI eo b { q with ma:=max q.ma s }∧Fr b st q eo { q with ma:=max q.ma s }:=by
  by_cases hm:q.ma<(s:Int)
  ·obtain⟨I1,F1⟩:=I.put (q':={ q with ma:=max q.ma s }) rfl rfl rfl rfl rfl rfl I.mu I.me
   haveI e4:=I.gD 5 (.int (s:Int)) (by decide);have e5:q.sl.set 5 (some (.int (s:Int)))=Bq.sl { q with ma:=max q.ma s }:=by simp[Bq.sl];exact(BR 0x810b00850081049) hm
   rw[e5] at e4;refine⟨_,fun x1 x2 x3 x4 x5=>?_,I1,F1⟩
   repeat walk_at "ev"
  ·have e5:{ q with ma:=max q.ma s }=q:=by
    haveI:max q.ma (s:Int)=q.ma:=(BR 0x1000810b500810469) hm
    rw[this]
   refine⟨st,fun x1 x2 x3 x4 x5=>?_,by rw[e5];exact I,by rw[e5];exact Fr.refl⟩
   repeat walk_at "ev"
 refine pV (n:=n) (b:=b) (q:={ q with ma:=max q.ma s }) (s:=.int s) (a:=.int a) (al:=.int (pd s (q.tail.length+a):Nat)) (nd:=pd s (q.tail.length+a)+s+a) (by exact(cM 0x384031201000440401100191f40312009401110220111028101110289) hs ha DA) ht I.sz 1000 eo q.jb 0 q.pre q.tail none I0 (by simp) rfl ⟨by exact(gk 0x3e80310013044201000441401100191f40312009401110220111028101110289) hs ha DA,by exact ed 0x3e80310011⟩ fun af j1 d1 p1 t1 x1 e1 I1 rh Ru Nz F1=>?_
 haveI Q5:p1.length=q.pre.length:=Ru;haveI Qj:pd s (q.tail.length+a)+s+a≤q.pre.length+d1:=Nz;obtain⟨I2,F2⟩:=I1.put (q':={ q with jb:=j1,pre:=List.replicate d1 0++q.pre,tail:=q.tail,ma:=max q.ma s }) rfl rfl (by rw[List.append_assoc];exact rh.symm) rfl rfl rfl I.mu I.me;haveI e2:=I1.gD 4 (.int ((q.pre.length+d1:Nat):Int)) (by decide);haveI e3:(Bq.sl { q with jb:=j1,pre:=p1,tail:=t1,ma:=max q.ma s }).set 4 (some (.int ((q.pre.length+d1:Nat):Int)))=Bq.sl { q with jb:=j1,pre:=List.replicate d1 0++q.pre,tail:=q.tail,ma:=max q.ma s }:=by
  simp[Bq.sl];exact aZ 0x8108410800845
 rw[e3] at e2;refine Dt (n:=n) I2 (k:=pd s (q.tail.length+a)) (by show _≤(List.replicate d1 (0:UInt8)++q.pre).length;simp;exact(xg 0x20104000102043040004409) Nz) (by exact(aO 0x271004100040110019) DA) fun bf e4 I3 F3=>?_
 refine kz bf j1 ((List.replicate d1 0++q.pre).take ((List.replicate d1 (0:UInt8)++q.pre).length-pd s (q.tail.length+a))) ?_ (by simp;exact(xg 0x40302045100040203041000404409) Nz) (by simp;exact cM 0x20200010454000) ?_ ?_
 ·haveI h1:aq .sub (.int ((q.pre.length+q.tail.length:Nat):Int)) (.int (q.pre.length:Int))=some (.int (q.tail.length:Int)):=V.mw (by exact aZ 0x10800810004855)
  haveI h2:aq .add (.int (q.tail.length:Int)) (.int (a:Int))=some (.int ((q.tail.length+a:Nat):Int)):=V.nF (by exact aZ 0x10004810800845);haveI h3:aq .add (.int (Builtin.bitNot ((q.tail.length+a:Nat):Int))) (.int 1)=some (.int (-((q.tail.length+a:Nat):Int))):=V.nF (by unfold Builtin.bitNot;exact aZ 0x1000489101210121000489545);haveI h4:=H5 (m:=q.tail.length+a) hs;haveI h5:aq .add (.int ((pd s (q.tail.length+a):Nat):Int)) (.int (s:Int))=some (.int ((pd s (q.tail.length+a)+s:Nat):Int)):=V.nF (by exact aZ 0x10004810800845);haveI h6:aq .add (.int ((pd s (q.tail.length+a)+s:Nat):Int)) (.int (a:Int))=some (.int ((pd s (q.tail.length+a)+s+a:Nat):Int)):=V.nF (by exact cM 0x20100044820810004845);haveI hw:eK tb (Sv.jc tb (Sv.run tb fns (n+1))) (.gN qt wQ) [some (.obj b),some (.int s),some (.int a),some (.int (q.pre.length:Int)),some (.int ((q.pre.length+q.tail.length:Nat):Int)),some (.int ((pd s (q.tail.length+a):Nat):Int)),some (.int ((pd s (q.tail.length+a)+s+a:Nat):Int)),none] eo=_:=V.sWhile e1;apply V.fA (l:=[some (.obj b),some (.int s),some (.int a),none,none,none,none,none]) rfl rfl rfl (fl:=.next);unfold BN;apply V.ssC (h0 _ _ _ _ _)
  repeat ((fail_if_success (with_reducible show aT _ _ (.cons (.gN _ _) _) _ _=_));walk_at "ev")
  apply V.ssC hw
  repeat walk_at "ev"
 ·simpa[Bq.put,Bq.mv,al] using I3
 ·haveI:=(F0.trans F1).trans (F2.trans F3)
  simpa[Bq.put,Bq.mv,al] using this
section
theorem FP:yO 133 4 54 false:=⟨by decide,rfl⟩
theorem BD:yO 121 4 55 true:=⟨by decide,rfl⟩
theorem Nm:yO 145 2 53 false:=⟨by decide,rfl⟩
theorem Rc:yO 65 1 52 false:=⟨by decide,rfl⟩
theorem V.mI{rc:RC}{lc:Lc}{st s1:St}{e:E}{k:Nat}(h:aC tb rc lc e st=.exc k s1):eK tb rc (.fp e) lc st=.exc k lc s1:=by
 show(aC tb rc lc e st).Fs lc _=_;rw[h]
theorem V.pP{rc:RC}{lc:Lc}{st s1:St}{i:Nat}{e:E}{k:Nat}(h:aC tb rc lc e st=.exc k s1):eK tb rc (.cy i e) lc st=.exc k lc s1:=by
 show(aC tb rc lc e st).Fs lc _=_;rw[h]
section
variable {n:Nat}{st:St}{b:Nat}{q:Bq}
theorem de(I:BI st b q)(h:q.ne=true):run tb fns (n+1) f9 [.obj b] none st=.ok .none st:=by
 haveI g6:=I.g6;rw[h] at g6;apply V.fA (l:=[some (.obj b)]) rfl rfl rfl (fl:=.next);unfold fZ
 repeat walk_at "ev"
theorem d9(I:BI st b q)(h:q.ne=false):run tb fns (n+1) c8 [.obj b] none st=.ok .none st:=by
 haveI g6:=I.g6;rw[h] at g6;apply V.runN (l:=[some (.obj b)]) rfl rfl rfl (fl:=.next);unfold dc
 repeat walk_at "ev"
theorem hU(I:BI st b q)(h:q.ne=true):run tb fns (n+1) c8 [.obj b] none st=.exc 1 st:=by
 haveI g6:=I.g6;rw[h] at g6;apply V.vV (l:=[some (.obj b)]) rfl rfl rfl;unfold dc;exact V.DY (V.sIte (V.slott (V.varr rfl) g6) rfl (V.sIteT (V.DY rfl)))
theorem n6(I:BI st b q){x:Int}(hw:4≤q.pre.length)(uj:0≤x)(tS:x≤4294967295){Pz:Prop}(kz:∀st',run tb fns (n+2) eR [.obj b,.int x] none st=.ok .none st'→BI st' b (q.put (leB 4 x))→Fr b st q st' (q.put (leB 4 x))→Pz):Pz:=by
 refine I.place (x:=leB 4 x) (by rw[ai];exact hw) fun af e1 e2 e3 e4 I2 F2=>?_
 rw[ai] at e1
 change ak st (.obj b) 4 (.int ((q.pre.length:Int)-4))=some af at e1
 haveI e5:=(e4 _).mpr rfl;haveI OL:=eO (n:=n) (st:=af) FP (p:=(q.pre.length:Int)-4) (x:=x) e2 e3 (by exact(aO 0x40120085002300401109) hw) (by rw[List.length_append];exact aZ 0x10004840124012008543) uj tS;haveI Pa:=fJ (n:=n) (st:=st) FP.row (x:=x) uj tS;rw[ai] at I2 F2;refine kz _ ?_ I2 F2;apply V.runN (l:=[some (.obj b),some (.int x),none]) rfl rfl rfl (fl:=.next);unfold fo
 repeat walk_at "ev"
theorem u1(I:BI st b q){x:Int}(hw:4≤q.pre.length)(uj:-2147483648≤x)(tS:x≤2147483647){Pz:Prop}(kz:∀st',run tb fns (n+2) fq [.obj b,.int x] none st=.ok .none st'→BI st' b (q.put (leB 4 x))→Fr b st q st' (q.put (leB 4 x))→Pz):Pz:=by
 refine I.place (x:=leB 4 x) (by rw[ai];exact hw) fun af e1 e2 e3 e4 I2 F2=>?_
 rw[ai] at e1
 change ak st (.obj b) 4 (.int ((q.pre.length:Int)-4))=some af at e1
 haveI e5:=(e4 _).mpr rfl;haveI OL:=eO (n:=n) (st:=af) BD (p:=(q.pre.length:Int)-4) (x:=x) e2 e3 (by exact(aO 0x40120085002300401109) hw) (by rw[List.length_append];exact aZ 0x10004840124012008543) (by simpa using uj) (by simpa using tS);haveI Pa:=fJ (n:=n) (st:=st) BD.row (x:=x) (by simpa using uj) (by simpa using tS);rw[ai] at I2 F2;refine kz _ ?_ I2 F2;apply V.fA (l:=[some (.obj b),some (.int x),none]) rfl rfl rfl (fl:=.next);unfold fb
 repeat walk_at "ev"
theorem Bc(hs:s=1∨s=2∨s=4):pd s m<4:=by haveI:=@wH s m (by exact(aO 0x11401100220110028101100289) hs);exact(aZ 0x4011001100019401110220111028101110289) hs this
theorem qW:(al s a t).length=pd s (t.length+a)+t.length:=by simp[al]
theorem kx(I:BI st b q){off:Nat}(ht:q.tail.length≤9000)(ho:off≤q.tail.length){Pz:Prop}(kz:∀st' j p,run tb fns (n+3) bj [.obj b,.int off] none st=.ok .none st'→q.pre.length≤p.length+4+pd 4 q.tail.length→BI st' b (q.mv j p (leB 4 ((al 4 0 q.tail).length-off+4:Nat)++al 4 0 q.tail) (max q.ma 4))→Fr b st q st' (q.mv j p (leB 4 ((al 4 0 q.tail).length-off+4:Nat)++al 4 0 q.tail) (max q.ma 4))→Pz):Pz:=by
 refine ek (n:=n) I (s:=4) (a:=0) (by exact ed 0x40114011220114011281011401128) (by exact ed 0x1f40310010) (by exact(aO 0x271004100023280410009) ht) fun af j p e1 h1 h2 I1 F1=>?_
 change run tb fns (n+2) ir [.obj b,.int 4,.int 0] none st=_ at e1
 haveI DA:=Bc (s:=4) (m:=q.tail.length+0) (by exact ed 0x40114011220114011281011401128);have lS:(al 4 0 q.tail).length=pd 4 (q.tail.length+0)+q.tail.length:=qW;have e2:run tb fns (n+2) bJ [.obj b] none af=.ok (.int ((al 4 0 q.tail).length:Int)) af:=bK (n:=n+1) I1;refine n6 (n:=n) I1 (x:=(((al 4 0 q.tail).length-off+4:Nat):Int)) (by show 4≤p.length;omega) (by exact aZ 0x401110005480023) (by exact(gk 0xffffffff0824011100054832030400294011301923280412009) ht DA lS) fun aU e3 I2 F2=>?_
 haveI e4:aq .sub (.int ((al 4 0 q.tail).length:Int)) (.int (off:Int))=some (.int (((al 4 0 q.tail).length-off:Nat):Int)):=V.mw (by exact(gk 0x10005810800855203040029201009) ho lS);haveI e5:aq .add (.int (((al 4 0 q.tail).length-off:Nat):Int)) (.int 4)=some (.int (((al 4 0 q.tail).length-off+4:Nat):Int)):=V.nF (by exact aZ 0x40111000548401210005845);haveI e6:(off:Int)≤((al 4 0 q.tail).length:Int):=(gk 0x1080083203041029200009) ho lS;refine kz aU j (p.take (p.length-(leB 4 (((al 4 0 q.tail).length-off+4:Nat):Int)).length)) ?_ (by rw[ai,List.length_take];simp at h2;exact(cM 0x204011104011105c44000201040009) h2) I2 (F1.trans F2);apply V.runN (l:=[some (.obj b),some (.int off),none,none]) rfl rfl rfl (fl:=.next);unfold bY
 repeat walk_at "ev"
end
end
section
section
variable {n:Nat}{st:St}{b:Nat}{q:Bq}
theorem BI.hB(I:BI st b q)(v:Bool){Pz:Prop}(kz:∀st',ak st (.obj b) 6 (.bool v)=some st'→BI st' b (q.nE v)→Fr b st q st' (q.nE v)→Pz):Pz:=by
 obtain⟨I1,F1⟩:=I.put (q':=(q.nE v)) rfl rfl rfl rfl rfl rfl I.mu I.me;exact kz _ (I.gD 6 (.bool v) (by decide)) I1 F1
theorem BI.nX(I:BI st b q)(v:AV)(hv:v.b7=false){Pz:Prop}(kz:∀st',ak st (.obj b) 9 v=some st'→BI st' b (q.vN (some v))→Fr b st q st' (q.vN (some v))→Pz):Pz:=by
 obtain⟨I1,F1⟩:=I.put (q':=(q.vN (some v))) rfl rfl rfl rfl rfl rfl I.mu (fun j h=>by cases h;exact hv);exact kz _ (I.gD 9 v (by decide)) I1 F1
theorem gc(I:BI st b q){k:Nat}(cS:q.ne=true)(hv:q.vn=some (.int k))(hw:4≤q.pre.length)(hk:k≤100000){Pz:Prop}(kz:∀st',run tb fns (n+3) dz [.obj b] none st=.ok (.int ((q.tail.length+4:Nat):Int)) st'→BI st' b (((q.put (leB 4 k)).nE false).vN (some .none))→Fr b st q st' (((q.put (leB 4 k)).nE false).vN (some .none))→Pz):Pz:=by
 haveI a1:=de (n:=n+1) I cS;refine I.hB false fun af a2 I1 F1=>?_
 haveI a3:=I1.g9 (v:=.int k) hv;refine n6 (n:=n) I1 (x:=(k:Int)) hw (by exact aO 0x80023) (by exact(aO 0xffffffff0820083186a00510009) hk) fun aU a4 I2 F2=>?_
 refine I2.nX .none rfl fun bf a5 I3 F3=>?_
 haveI a6:=bK (n:=n+1) I3;haveI a7:(((q.nE false).put (leB 4 (k:Int))).vN (some .none)).tail.length=q.tail.length+4:=by
  simp[Bq.put,Bq.vN,Bq.nE,ai];exact aO 0x401100400401142
 rw[a7] at a6;refine kz bf ?_ I3 (F1.trans (F2.trans F3));apply V.runN (l:=[some (.obj b),some .none]) rfl rfl rfl (fl:=.ret _);unfold jJ
 repeat walk_at "ev"
theorem BI.lay(I:BI st b q){x:List UInt8}(hw:x.length≤q.pre.length){Pz:Prop}(kz:∀af aU q1,ak st (.obj b) 4 (.int ((q.pre.length:Int)-x.length))=some af→BI af b q1→q1.jb=q.jb→bU af (.obj q.jb) (some (.int ((q.pre.length:Int)-x.length))) (some (.int ((q.pre.length:Int)-x.length+x.length))) (.bytes x)=some aU→BI aU b (q.put x)→Fr b st q aU (q.put x)→Pz):Pz:=by
 let q1:Bq:={ q with pre:=q.pre.take (q.pre.length-x.length),tail:=q.pre.drop (q.pre.length-x.length)++q.tail }
 have J1:q1.pre++q1.tail=q.pre++q.tail:=pre_split _ _;haveI hlen:((q.pre.take (q.pre.length-x.length)).length:Int)=(q.pre.length:Int)-x.length:=by simp;exact(aZ 0x10800851000585001009) hw
 obtain⟨I1,F1⟩:=I.put (q':=q1) rfl rfl J1 rfl rfl rfl I.mu I.me;haveI xM:q.sl.set 4 (some (.int ((q.pre.length:Int)-x.length)))=q1.sl:=by rw[←hlen];rfl
 haveI r6:=I.sz;haveI hb:(st.set b (.inst q1.sl))[q.jb]?=some (.aJ (q.pre++q.tail)):=by haveI:=I1.bytes;rw[J1] at this;exact this
 haveI e2:=Fg (x:=x) (v:=.bytes x) (a:=(q.pre.length:Int)-x.length) (c:=(q.pre.length:Int)-x.length+x.length) (m:=q.pre.length-x.length) hb (by simp;exact(aZ 0xf42400511000407d000411000409) r6) (by exact(aZ 0x10005810800855001009) hw) (by exact(aZ 0x101000548108108008545001009) hw) (by simp;exact(cM 0x20004101000540001009) hw) rfl;haveI e:(q.pre++q.tail).take (q.pre.length-x.length)++x++(q.pre++q.tail).drop (q.pre.length-x.length+x.length)=q1.pre++(x++q.tail):=by
  rw[show q.pre.length-x.length+x.length=q.pre.length by exact(aZ 0x101000542001009) hw,List.drop_left,List.take_append_of_le_length (by exact aZ 0x100050),List.append_assoc]
 obtain⟨I2,F2⟩:=I1.write (t:=x++q.tail) (by show _=(q.pre.drop _++q.tail).length;simp;exact(aZ 0x105105002100009) hw);rw[e] at e2;exact kz _ _ q1 (by rw[I.gD 4 _ (by decide),xM]) I1 rfl e2 I2 (F1.trans F2)
noncomputable def bu(x:List UInt8)(t:List UInt8):List UInt8:=leB 4 (x.length:Int)++(x++(leB 1 0++al 4 (x.length+1) t))
noncomputable def gW(x:List UInt8)(t:List UInt8):List UInt8:=leB 4 (x.length:Int)++(x++al 4 x.length t)
noncomputable def Ea:AV→Option (List UInt8)
 |.str s=>so s
 |.bytes b=>some b
 |_=>none
theorem gg(I:BI st b q){w:AV}{x:List UInt8}(hw:Ea w=some x)(hx:x.length≤400)(cS:q.ne=false)(ht:q.tail.length≤9000){Pz:Prop}(kz:∀st' j p,run tb fns (n+4) bQ [.obj b,w] none st=.ok (.int ((bu x q.tail).length:Int)) st'→BI st' b (((q.mv j p (bu x q.tail) (max q.ma 4)).nE false).vN (some .none))→Fr b st q st' (((q.mv j p (bu x q.tail) (max q.ma 4)).nE false).vN (some .none))→Pz):Pz:=by
 have a1:=d9 (n:=n+2) I cS;refine I.hB true fun af a2 I1 F1=>?_
 refine ek (n:=n+1) I1 (s:=4) (a:=x.length+1) (by exact ed 0x40114011220114011281011401128) (by exact(aO 0x1f4031101100401900310009) hx) (by show q.tail.length≤_;exact(aO 0x271004100023280410009) ht) fun aU j p a3 h1 h2 I2 F2=>?_
 refine qd (n:=n+1) I2 Rc (x:=0) (by show 1≤p.length;exact(aZ 0x101100010111044011409) h1) (by simp) (by simp) fun bf a4 I3 F3=>?_
 have L3:(Bq.pre (Bq.put ((q.nE true).mv j p (al 4 (x.length+1) q.tail) (max q.ma 4)) (leB 1 0))).length=p.length-1:=by
  simp[Bq.put,Bq.mv,ai]
 refine I3.lay (x:=x) (Nat.le_trans (by exact(aZ 0x10111050001010110044011409) h1:x.length≤p.length-1) (Nat.le_of_eq L3.symm)) fun cI dO q4 a5 I4 Nh a6 I5 F5=>?_
 refine I5.nX (.int x.length) rfl fun et a7 I6 F6=>?_
 refine gc (n:=n) I6 (k:=x.length) rfl rfl (by simp[Bq.put,Bq.mv,Bq.vN,ai];exact(aZ 0x1010110055401100010111044011409) h1) (by exact(aO 0x186a00510001900310009) hx) fun gz a8 I7 F7=>?_
 have hlen:(Bq.tail (Bq.vN (Bq.put (Bq.put ((q.nE true).mv j p (al 4 (x.length+1) q.tail) (max q.ma 4)) (leB 1 0)) x) (some (.int (x.length:Int))))).length+4=(bu x q.tail).length:=by
  simp[Bq.put,Bq.mv,Bq.vN,bu,ai];exact aZ 0x1010114004401144011101011400442
 have Rb:run tb fns (n+3) dz [.obj b] none et=.ok (.int ((bu x q.tail).length:Int)) gz:=by rw[←hlen];exact a8
 have b1:Sv.bcall .len [.bytes x] af=.ok (.int x.length) af:=by
  show(if x.length≤1000000 then _ else _)=_
  rw[if_pos (by exact(aO 0xf42400510001900310009) hx)]
 haveI g4:=I3.g4;haveI g0:=I4.g0;have QQ:ah cI 0 (.obj b)=some (.obj j):=by rw[g0,Nh];rfl
 have QV:ah bf 4 (.obj b)=some (.int ((p.length-1:Nat):Int)):=by rw[←L3];exact g4
 have PS:ak bf (.obj b) 4 (.int (((p.length-1:Nat):Int)-x.length))=some cI:=by rw[←L3];exact a5
 have Qv:bU cI (.obj j) (some (.int (((p.length-1:Nat):Int)-x.length))) (some (.int (((p.length-1:Nat):Int)-x.length+x.length))) (.bytes x)=some dO:=by rw[←L3];exact a6
 have Rh:run tb fns (n+3) ir [.obj b,.int 4,.int (((x.length:Int)+1)*1)] none af=.ok .none aU:=by
  rw[←a3];congr 4;simp
 clear a3 a5 a6 a8 g4 g0;haveI key:run tb fns (n+4) bQ [.obj b,w] none st=.ok (.int ((bu x q.tail).length:Int)) gz:=by
  cases w with
  |str s=>
   haveI u:so s=some x:=hw;haveI b2:aD tb .encode (.str s) [.str (Str.ofString "utf-8")] af=.ok (.bytes x) af:=by
    show(if (Str.ofString "utf-8"=="utf-8")=true then R.ei af ((so s).map AV.bytes) else R.stuck)=_
    rw[if_pos (by simp),u];rfl
   apply V.runN (l:=[some (.obj b),some (.str s),none,none,none]) rfl rfl rfl (fl:=.ret _);unfold dp
   repeat walk_at "ev"
  |bytes s=>
   haveI u:s=x:=cQ hw;subst u;apply V.runN (l:=[some (.obj b),some (.bytes s),none,none,none]) rfl rfl rfl (fl:=.ret _);unfold dp
   repeat walk_at "ev"
  |_=>cases hw
 refine kz gz j _ key ?_ (F1.trans (F2.trans (F3.trans (F5.trans (F6.trans F7)))));exact I7
theorem iz(I:BI st b q){x:List UInt8}(hx:x.length≤400)(cS:q.ne=false)(ht:q.tail.length≤9000){Pz:Prop}(kz:∀st' j p,run tb fns (n+4) bI [.obj b,.bytes x] none st=.ok (.int ((gW x q.tail).length:Int)) st'→BI st' b (((q.mv j p (gW x q.tail) (max q.ma 4)).nE false).vN (some .none))→Fr b st q st' (((q.mv j p (gW x q.tail) (max q.ma 4)).nE false).vN (some .none))→Pz):Pz:=by
 haveI a1:=d9 (n:=n+2) I cS;refine I.hB true fun af a2 I1 F1=>?_
 refine ek (n:=n+1) I1 (s:=4) (a:=x.length) (by exact ed 0x40114011220114011281011401128) (by exact(aO 0x1f40310001900310009) hx) (by show q.tail.length≤_;exact(aO 0x271004100023280410009) ht) fun aU j p a3 h1 h2 I2 F2=>?_
 refine I2.lay (x:=x) (by show x.length≤p.length;exact(aZ 0x1000010004011409) h1) fun cI dO q4 a5 I4 Nh a6 I5 F5=>?_
 refine I5.nX (.int x.length) rfl fun et a7 I6 F6=>?_
 refine gc (n:=n) I6 (k:=x.length) rfl rfl (by simp[Bq.put,Bq.mv,Bq.vN,ai];exact(aZ 0x100054011000104011409) h1) (by exact(aO 0x186a00510001900310009) hx) fun gz a8 I7 F7=>?_
 haveI hlen:(Bq.tail (Bq.vN (Bq.put ((q.nE true).mv j p (al 4 x.length q.tail) (max q.ma 4)) x) (some (.int (x.length:Int))))).length+4=(gW x q.tail).length:=by
  simp[Bq.put,Bq.mv,Bq.vN,gW,ai];exact aZ 0x100044011440111000442
 haveI Rb:run tb fns (n+3) dz [.obj b] none et=.ok (.int ((gW x q.tail).length:Int)) gz:=by rw[←hlen];exact a8
 haveI b1:Sv.bcall .len [.bytes x] af=.ok (.int x.length) af:=by
  show(if x.length≤1000000 then _ else _)=_
  rw[if_pos (by exact(aO 0xf42400510001900310009) hx)]
 haveI QV:ah aU 4 (.obj b)=some (.int (p.length:Int)):=I2.g4;haveI g0:=I4.g0;haveI QQ:ah cI 0 (.obj b)=some (.obj j):=by rw[g0,Nh];rfl
 haveI PS:ak aU (.obj b) 4 (.int ((p.length:Int)-x.length))=some cI:=a5;haveI Qv:bU cI (.obj j) (some (.int ((p.length:Int)-x.length))) (some (.int ((p.length:Int)-x.length+x.length))) (.bytes x)=some dO:=a6;haveI Rh:run tb fns (n+3) ir [.obj b,.int 4,.int ((x.length:Int)*1)] none af=.ok .none aU:=by
  rw[←a3];congr 4;simp
 clear a3 a5 a6 a8 g0;refine kz gz j _ ?_ I7 (F1.trans (F2.trans (F5.trans (F6.trans F7))));apply V.runN (l:=[some (.obj b),some (.bytes x),none,none]) rfl rfl rfl (fl:=.ret _);unfold cO
 repeat walk_at "ev"
theorem fE(I:BI st b q)(cS:q.ne=true):run tb fns (n+2) bQ [.obj b,w] none st=.exc 1 st:=by
 haveI a1:=hU (n:=n) I cS;apply V.vV (l:=[some (.obj b),some w,none,none,none]) rfl rfl rfl;unfold dp;apply V.DY;apply V.mI
 repeat walk_at "ev"
theorem gV(I:BI st b q)(cS:q.ne=true):run tb fns (n+2) bI [.obj b,w] none st=.exc 1 st:=by
 haveI a1:=hU (n:=n) I cS;apply V.vV (l:=[some (.obj b),some w,none,none]) rfl rfl rfl;unfold cO;apply V.DY;apply V.mI
 repeat walk_at "ev"
end
end
section
section
variable {n:Nat}{st:St}{b:Nat}{q:Bq}
structure Apart(b:Nat)(q:Bq):Prop where
 d1:∀i∈[b+1,q.jb,q.jv]++oI q.cv++oI q.sh,i≠b
 d2:∀i∈[q.jb,q.jv]++oI q.cv++oI q.sh,i≠b+1
 d3:∀i∈[q.jv]++oI q.cv++oI q.sh,i≠q.jb
 d4:∀i∈oI q.cv++oI q.sh,i≠q.jv
 d5:∀i∈oI q.cv,∀k∈oI q.sh,i≠k
theorem tw(nd:(q.own b).Nodup):Apart b q:=by
 have n1:=List.nodup_cons.mp (show(b::([b+1,q.jb,q.jv]++oI q.cv++oI q.sh)).Nodup from nd);have n2:=List.nodup_cons.mp (show((b+1)::([q.jb,q.jv]++oI q.cv++oI q.sh)).Nodup from n1.2);have n3:=List.nodup_cons.mp (show(q.jb::([q.jv]++oI q.cv++oI q.sh)).Nodup from n2.2);have n4:=List.nodup_cons.mp (show(q.jv::(oI q.cv++oI q.sh)).Nodup from n3.2);refine⟨fun i h e=>n1.1 (e▸h),fun i h e=>n2.1 (e▸h),fun i h e=>n3.1 (e▸h),fun i h e=>n4.1 (e▸h),fun i h k hk e=>?_⟩;exact(List.nodup_append.mp n4.2).2.2 i h k hk e
theorem BI.ap(I:BI st b q):Apart b q:=tw I.nodup
theorem BI.re(I:BI st b q)(i:Nat)(v:AV)(vI:q.sl.set i (some v)=q'.sl)(hj:q'.jb=q.jb)(hb:q'.pre++q'.tail=q.pre++q.tail)(hv:st[q'.jv]?=some (.bo q'.vt))
(hc:∀p,q'.cv=some p→st[p.1]?=some (.list (p.2.map .int)))(hs:∀p,q'.sh=some p→st[p.1]?=some (.bR p.2))(nd:(q'.own b).Nodup)(ho:q'.oe.b7=false)(RB:∀v,q'.vn=some v→v.b7=false) :
 BI (st.set b (.inst (q.sl.set i (some v)))) b q':=by
 haveI A:=tw nd;have e:∀{k:Nat}{o:ao},k≠b→st[k]?=some o→(st.set b (.inst (q.sl.set i (some v))))[k]?=some o:=fun hk h=>by
  rw[List.getElem?_set_ne (Ne.symm hk)];exact h
 refine⟨by rw[vI];exact List.getElem?_set_self I.lt,e (A.d1 _ (by simp)) I.yW,e (A.d1 _ (by simp)) (by rw[hj,hb];exact I.bytes),e (A.d1 _ (by simp)) hv,
  fun p hp=>e (A.d1 _ (by simp[hp,oI])) (hc p hp),fun p hp=>e (A.d1 _ (by simp[hp,oI])) (hs p hp),nd,?_,ho,RB⟩
 haveI:=I.sz
 have e:=congrArg List.length hb;simp only[List.length_append] at e;exact(gk 0x7d000411000403020410004297d000413020409) this e
noncomputable def Bq.sH(q:Bq)(d:Nat)(l:List ((Str⊕List UInt8)×AV)):Bq:={ q with sh:=some (d,l) }
noncomputable def Bq.cV(q:Bq)(c:Option (Nat×List Int)):Bq:={ q with cv:=c }
noncomputable def gX:Option (Nat×List ((Str⊕List UInt8)×AV))→List ((Str⊕List UInt8)×AV)
 |none=>[]
 |some p=>p.2
theorem zM(nd:(q.own b).Nodup)(hd:d∉q.own b):((q.sH d l).own b).Nodup:=by
 haveI h1:([b,b+1,q.jb,q.jv]++oI q.cv).Nodup:=(List.nodup_append.mp nd).1
 show([b,b+1,q.jb,q.jv]++oI q.cv++[d]).Nodup
 refine List.nodup_append.mpr ⟨h1,by simp,fun a ha k hk e=>?_⟩;simp at hk;subst hk;subst e;exact hd (List.mem_append_left _ ha)
theorem BI.Kl(I:BI st b q){Pz:Prop}(kz:∀st',ak (st++[.bR []]) (.obj b) 8 (.obj st.length)=some st'→BI st' b (q.sH st.length [])→Fr b st q st' (q.sH st.length [])→Pz):Pz:=by
 haveI hn:st.length∉q.own b:=fun h=>absurd (I.EP _ h) (by exact aO 0x16)
 have Ia:=I.app [.bR []];refine kz _ (Ia.gD 8 _ (by decide)) (Ia.re (q':=q.sH st.length []) 8 (.obj st.length) rfl rfl rfl Ia.tM Ia.rV (fun p hp=>?_) (zM I.nodup hn) I.mu I.me) ⟨ by simp,fun i hi gZ=>⟨?_,fun hm=>?_⟩⟩
 ·cases hp;simp
 ·rw[List.getElem?_set_ne (fun e=>gZ (by subst e;simp[Bq.own])),List.getElem?_append_left hi]
 ·rcases List.mem_append.mp hm with h|h
  ·exact gZ (List.mem_append_left _ h)
  ·simp[oI,Bq.sH] at h;exact(aZ 0x100026100019) hi h
theorem BI.KP(I:BI st b q)(hq:q.sh=some (d,l)):BI (st.set d (.bR l')) b (q.sH d l')∧Fr b st q (st.set d (.bR l')) (q.sH d l'):=by
 have A:=I.ap;have hd:d∈oI q.sh:=by simp[hq,oI]
 have lt:d<st.length:=(List.getElem?_eq_some_iff.mp (I.uu _ hq)).1;have ho:(q.sH d l').own b=q.own b:=by simp[Bq.own,Bq.sH,oI,hq]
 have e:∀{k:Nat},k≠d→(st.set d (.bR l'))[k]?=st[k]?:=fun hk=>List.getElem?_set_ne (Ne.symm hk)
 have vI:(q.sH d l').sl=q.sl:=by simp[Bq.sl,Bq.sH,oV,hq]
 refine⟨⟨by rw[vI,e (A.d1 d (by simp[hd])).symm];exact I.inst,by rw[e (A.d2 d (by simp[hd])).symm];exact I.yW,(e (A.d3 d (by simp[hd])).symm).trans I.bytes,(e (A.d4 d (by simp[hd])).symm).trans I.tM,fun p hp=>?_,fun p hp=>?_,by rw[ho];exact I.nodup,I.sz,I.mu,I.me⟩,by simp,fun i hi hn=>⟨e fun h=>hn ?_,by rw[ho];exact hn⟩⟩
 ·haveI qV:q.cv=some p:=hp
  rw[e (A.d5 p.1 (by simp[qV,oI]) d hd)];exact I.rV p hp
 ·cases hp;exact List.getElem?_set_self lt
 ·subst h;simp[Bq.own,hd]
theorem any_none{l:List ((Str⊕List UInt8)×AV)}{k:Str⊕List UInt8}(h:aN l k=none):l.any (fun kv=>decide (kv.1=k))=false:=by
 simp only[aN,Option.map_eq_none_iff,List.find?_eq_none] at h;simp only[List.any_eq_false];intro x hx;simpa using h x hx
theorem fw(I:BI st b q)(hk:iG w=some k)(hf:aN (gX q.sh) k=some v)(hl:(gX q.sh).length≤1000) :
 run tb fns (n+1) aP [.obj b,w] none st=.ok v st:=by
 obtain⟨d,l,hq⟩:∃d l,q.sh=some (d,l):=by
  cases h:q.sh with
  |none=>rw[h] at hf;simp[gX,aN] at hf
  |some p=>exact⟨p.1,p.2,rfl⟩
 have Lj:aN l k=some v:=by rw[hq] at hf;exact hf
 have Ng:l.length≤1000:=by rw[hq] at hl;exact hl
 haveI cS:l≠[]:=fun e=>by subst e;simp[aN] at Lj
 have g8:ah st 8 (.obj b)=some (.obj d):=by haveI:=I.g8;rw[hq] at this;exact this
 have hd:=I.uu _ hq;haveI t1:truthy st (.obj d)=some true:=by
  rw[V.Hn hd (Nat.le_trans Ng (by decide))];simp[cS]
 haveI t2:bB st .isin w (.obj d)=some true:=by
  show jS st w (.obj d)=_;rw[V.OH hd hk,Lj];rfl
 haveI t3:cX st (.obj d) w=some v:=by
  rw[V.Q4 hd hk];exact Lj
 apply V.runN (l:=[some (.obj b),some w,none]) rfl rfl rfl (fl:=.ret v);unfold bM
 repeat walk_at "ev"
theorem tA(I:BI st b q){w:AV}{k:Str⊕List UInt8}(hk:iG w=some k)(hf:aN (gX q.sh) k=none)(hl:(gX q.sh).length≤1000){rc:RC} :
  ∃af d,eK tb rc (.ite (.un .not (.slot (.var 0) 8)) (.cons (.setSlot (.var 0) 8 (.cz 2)) .nil) (.cons (.ite (.cmp .isin (.var 1) (.slot (.var 0) 8)) (.cons (.ret (some (.sub (.slot (.var 0) 8) (.var 1)))) .nil) .nil) .nil)) [some (.obj b),some w,none] st=.ok .next [some (.obj b),some w,none] af ∧
   BI af b (q.sH d (gX q.sh))∧Fr b st q af (q.sH d (gX q.sh)):=by
 refine I.Kl fun st' e1 I1 F1=>?_
 have g8:=I.g8;cases h:q.sh with
 |none=>
  rw[h] at g8;refine⟨st',_,?_,I1,F1⟩
  repeat walk_at "ev"
 |some p=>
  have hd:=I.uu p h;have RP:ah st 8 (.obj b)=some (.obj p.1):=by rw[h] at g8;exact g8
  rw[h] at hf hl;clear g8
  by_cases cS:p.2=[]
  ·haveI t1:truthy st (.obj p.1)=some false:=by
    rw[V.Hn hd (Nat.le_trans (show p.2.length≤1000 from hl) (by decide)),cS];rfl
   refine⟨st',_,?_,by show BI st' b (q.sH st.length p.2);rw[cS];exact I1,by show Fr b st q st' (q.sH st.length p.2);rw[cS];exact F1⟩
   repeat walk_at "ev"
  ·haveI Ng:p.2.length≤1000:=hl
   haveI t1:truthy st (.obj p.1)=some true:=by
    rw[V.Hn hd (by exact(aO 0xf42400510003e80310009) Ng)];simp[cS]
   haveI t2:bB st .isin w (.obj p.1)=some false:=by
    show jS st w (.obj p.1)=_;haveI Lj:aN p.2 k=none:=hf;rw[V.OH hd hk,Lj];rfl
   have hq:q.sH p.1 p.2=q:=by simp[Bq.sH,h.symm]
   refine⟨st,p.1,?_,by show BI st b (q.sH p.1 p.2);rw[hq];exact I,by show Fr b st q st (q.sH p.1 p.2);rw[hq];exact Fr.refl⟩
   repeat walk_at "ev"
theorem il(I:BI st b q){w:AV}{x:List UInt8}{k:Str⊕List UInt8}(hk:iG w=some k)(hw:Ea w=some x)(hf:aN (gX q.sh) k=none)(hl:(gX q.sh).length≤1000)(hx:x.length≤400)(cS:q.ne=false)(ht:q.tail.length≤9000){Pz:Prop}(kz:∀st' j p d,run tb fns (n+5) aP [.obj b,w] none st=.ok (.int ((bu x q.tail).length:Int)) st'→BI st' b ((((q.mv j p (bu x q.tail) (max q.ma 4)).nE false).vN (some .none)).sH d (gX q.sh++[(k,.int ((bu x q.tail).length:Int))]))→Fr b st q st' ((((q.mv j p (bu x q.tail) (max q.ma 4)).nE false).vN (some .none)).sH d (gX q.sh++[(k,.int ((bu x q.tail).length:Int))]))→Pz):Pz:=by
 obtain⟨af,d,e1,I1,F1⟩:=tA I hk hf hl (rc:=run tb fns (n+4));refine gg (n:=n) I1 hw hx cS ht fun aU j p e2 I2 F2=>?_
 haveI Sa:run tb fns (n+4) bQ [.obj b,w] none af=.ok (.int ((bu x q.tail).length:Int)) aU:=e2;haveI hd:=I2.uu (d,gX q.sh) rfl;obtain⟨I3,F3⟩:=I2.KP (l':=gX q.sh++[(k,.int ((bu x q.tail).length:Int))]) (d:=d) (l:=gX q.sh) rfl;haveI g8:ah aU 8 (.obj b)=some (.obj d):=I2.g8;haveI RD:cP aU (.obj d) w (.int ((bu x q.tail).length:Int))=some (aU.set d (.bR (gX q.sh++[(k,.int ((bu x q.tail).length:Int))]))):=by
  haveI CL:aU[d]?=some (.bR (gX q.sh)):=hd;haveI hp:fy (gX q.sh) k (.int ((bu x q.tail).length:Int))=gX q.sh++[(k,.int ((bu x q.tail).length:Int))]:=by
   unfold fy;rw[any_none hf];rfl
  haveI hs:ky (.bR (gX q.sh))<10000:=by show(gX q.sh).length<_;exact(aO 0x27100410013e80310009) hl
  exact V.Mm CL hs hk hp
 clear e2 hd;refine kz _ j p d ?_ I3 (F1.trans (F2.trans F3));apply V.runN (l:=[some (.obj b),some w,none]) rfl rfl rfl (fl:=.ret _);unfold bM;apply V.ssC e1
 repeat walk_at "ev"
theorem rk(I:BI st b q){w:AV}{k:Str⊕List UInt8}(hk:iG w=some k)(hf:aN (gX q.sh) k=none)(hl:(gX q.sh).length≤1000)(cS:q.ne=true){Pz:Prop}(kz:∀st' d,run tb fns (n+3) aP [.obj b,w] none st=.exc 1 st'→BI st' b (q.sH d (gX q.sh))→Fr b st q st' (q.sH d (gX q.sh))→Pz):Pz:=by
 obtain⟨af,d,e1,I1,F1⟩:=tA I hk hf hl (rc:=run tb fns (n+2));haveI e2:=fE (n:=n) (w:=w) I1 cS;refine kz af d ?_ I1 F1;apply V.vV (l:=[some (.obj b),some w,none]) rfl rfl rfl;unfold bM;apply V.ssC e1;apply V.ssKn;apply V.DY;apply V.pP
 repeat walk_at "ev"
end
end
section
section
variable {n:Nat}{st:St}{b:Nat}{q:Bq}
theorem gI(I:BI st b q){x:Nat}(ht:q.tail.length≤9000)(hx:x≤65535){Pz:Prop}(kz:∀st' j p,run tb fns (n+4) aG [.obj b,.int x] none st=.ok .none st'→BI st' b (q.mv j p (leB 2 x++al 2 0 q.tail) (max q.ma 2))→Fr b st q st' (q.mv j p (leB 2 x++al 2 0 q.tail) (max q.ma 2))→Pz):Pz:=by
 refine ek (n:=n) I (s:=2) (a:=0) (by exact ed 0x40112011220112011281011201128) (by exact ed 0x1f40310010) (by exact(aO 0x271004100023280410009) ht) fun af j p e1 h1 h2 I1 F1=>?_
 change run tb fns (n+2) ir [.obj b,.int 2,.int 0] none st=_ at e1
 refine qd (n:=n) I1 Nm (x:=(x:Int)) (by show 2≤p.length;omega) (by simp) (by simp;exact(aO 0xffff0420083ffff0410009) hx) fun aU e2 I2 F2=>?_
 haveI e3:run tb fns (n+3) n7 [.obj b,.ba (.ref 145),.int x] none st=.ok .none aU:=by
  apply V.fA (l:=[some (.obj b),some (.ba (.ref 145)),some (.int x)]) rfl rfl rfl (fl:=.next);unfold nU
  repeat walk_at "ev"
 refine kz aU j _ ?_ I2 (F1.trans F2);apply V.fA (l:=[some (.obj b),some (.int x)]) rfl rfl rfl (fl:=.next);unfold dW
 repeat walk_at "ev"
theorem km(I:BI st b q)(ht:q.tail.length≤9000){Pz:Prop}(kz:∀st' j p,run tb fns (n+3) aX [.obj b,.int 0] none st=.ok .none st'→BI st' b (q.mv j p (leB 4 (((al 4 0 q.tail).length:Int)+4)++al 4 0 q.tail) (max q.ma 4))→Fr b st q st' (q.mv j p (leB 4 (((al 4 0 q.tail).length:Int)+4)++al 4 0 q.tail) (max q.ma 4))→Pz):Pz:=by
 refine ek (n:=n) I (s:=4) (a:=0) (by exact ed 0x40114011220114011281011401128) (by exact ed 0x1f40310010) (by exact(aO 0x271004100023280410009) ht) fun af j p e1 h1 h2 I1 F1=>?_
 change run tb fns (n+2) ir [.obj b,.int 4,.int 0] none st=_ at e1
 haveI DA:=Bc (s:=4) (m:=q.tail.length+0) (by exact ed 0x40114011220114011281011401128);haveI lS:(al 4 0 q.tail).length=pd 4 (q.tail.length+0)+q.tail.length:=qW;have e2:run tb fns (n+2) bJ [.obj b] none af=.ok (.int ((al 4 0 q.tail).length:Int)) af:=bK (n:=n+1) I1;refine u1 (n:=n) I1 (x:=(((al 4 0 q.tail).length:Int)+4)) (by show 4≤p.length;omega) (by exact aO 0x40120084800000000833) (by exact(cM 0x7fffffff0824012008431020400294011201923280411009) ht DA lS) fun aU e3 I2 F2=>?_
 haveI e4:aq .sub (.int ((al 4 0 q.tail).length:Int)) (.int 0)=some (.int ((al 4 0 q.tail).length:Int)):=V.mw (by exact aO 0x800200855);haveI e6:(0:Int)≤((al 4 0 q.tail).length:Int):=aO 0x80023;refine kz aU j _ ?_ I2 (F1.trans F2);apply V.fA (l:=[some (.obj b),some (.int 0),none,none]) rfl rfl rfl (fl:=.next);unfold bZ
 repeat walk_at "ev"
noncomputable def Bq.oE(q:Bq)(v:AV):Bq:={ q with oe:=v }
noncomputable def Bq.vT(q:Bq)(v:List (List Int×AV)):Bq:={ q with vt:=v }
theorem BI.zQ(I:BI st b q)(v:AV)(hv:v.b7=false){Pz:Prop}(kz:∀st',ak st (.obj b) 7 v=some st'→BI st' b (q.oE v)→Fr b st q st' (q.oE v)→Pz):Pz:=by
 obtain⟨I1,F1⟩:=I.put (q':=q.oE v) rfl rfl rfl rfl rfl rfl hv I.me;exact kz _ (I.gD 7 v (by decide)) I1 F1
theorem BI.xb(I:BI st b q)(v:Bool){Pz:Prop}(kz:∀st',ak st (.obj b) 2 (.bool v)=some st'→BI st' b { q with fin:=v }→Fr b st q st' { q with fin:=v }→Pz):Pz:=by
 obtain⟨I1,F1⟩:=I.put (q':={ q with fin:=v }) rfl rfl rfl rfl rfl rfl I.mu I.me;exact kz _ (I.gD 2 (.bool v) (by decide)) I1 F1
theorem BI.Gz(I:BI st b q)(v:Int){Pz:Prop}(kz:∀st',ak st (.obj b) 5 (.int v)=some st'→BI st' b { q with ma:=v }→Fr b st q st' { q with ma:=v }→Pz):Pz:=by
 obtain⟨I1,F1⟩:=I.put (q':={ q with ma:=v }) rfl rfl rfl rfl rfl rfl I.mu I.me;exact kz _ (I.gD 5 (.int v) (by decide)) I1 F1
theorem Bp(nd:(q.own b).Nodup)(hd:d∉q.own b):((q.cV (some (d,l))).own b).Nodup:=by
 have h1:([b,b+1,q.jb,q.jv]++(oI q.cv++oI q.sh)).Nodup:=by rw[←List.append_assoc];exact nd
 obtain⟨k1,k2,k3⟩:=List.nodup_append.mp h1;obtain⟨m1,m2,m3⟩:=List.nodup_append.mp k2
 show([b,b+1,q.jb,q.jv]++[d]++oI q.sh).Nodup
 rw[List.append_assoc];refine List.nodup_append.mpr ⟨k1,?_,fun a ha k hk e=>?_⟩
 ·refine List.nodup_append.mpr ⟨by simp,m2,fun a ha k hk e=>?_⟩
  simp at ha;subst ha;subst e;exact hd (List.mem_append_right _ hk)
 ·subst e
  rcases List.mem_append.mp hk with h|h
  ·simp at h;subst h
   exact hd (List.mem_append_left _ (List.mem_append_left _ ha))
  ·exact k3 a ha a (List.mem_append_right _ h) rfl
theorem yH(nd:(q.own b).Nodup):((q.cV none).own b).Nodup:=by
 have h1:([b,b+1,q.jb,q.jv]++(oI q.cv++oI q.sh)).Nodup:=by rw[←List.append_assoc];exact nd
 obtain⟨k1,k2,k3⟩:=List.nodup_append.mp h1;obtain⟨m1,m2,m3⟩:=List.nodup_append.mp k2
 show([b,b+1,q.jb,q.jv]++[]++oI q.sh).Nodup
 rw[List.append_nil];exact List.nodup_append.mpr ⟨k1,m2,fun a ha k hk e=>k3 a ha k (List.mem_append_right _ hk) e⟩
theorem BI.Ko(I:BI st b q)(l:List Int){Pz:Prop}(kz:∀st',ak (st++[.list (l.map .int)]) (.obj b) 1 (.obj st.length)=some st'→BI st' b (q.cV (some (st.length,l)))→Fr b st q st' (q.cV (some (st.length,l)))→Pz):Pz:=by
 haveI hn:st.length∉q.own b:=fun h=>absurd (I.EP _ h) (by exact aO 0x16)
 have Ia:=I.app [.list (l.map .int)];refine kz _ (Ia.gD 1 _ (by decide)) (Ia.re (q':=q.cV (some (st.length,l))) 1 (.obj st.length) rfl rfl rfl Ia.tM (fun p hp=>?_) Ia.uu (Bp I.nodup hn) I.mu I.me) ⟨ by simp,fun i hi gZ=>⟨?_,fun hm=>?_⟩⟩
 ·cases hp;simp
 ·rw[List.getElem?_set_ne (fun e=>gZ (by subst e;simp[Bq.own])),List.getElem?_append_left hi]
 ·simp only[Bq.own,Bq.cV,oI,List.mem_append,List.mem_cons,List.not_mem_nil,or_false] at hm gZ
  rcases hm with (h|h)|h
  ·exact gZ (.inl (.inl h))
  ·exact(aZ 0x100026100019) hi h
  ·exact gZ (.inr h)
theorem BI.DE(I:BI st b q){Pz:Prop}(kz:∀st',ak st (.obj b) 1 .none=some st'→BI st' b (q.cV none)→Fr b st q st' (q.cV none)→Pz):Pz:=by
 refine kz _ (I.gD 1 _ (by decide)) (I.re (q':=q.cV none) 1 .none rfl rfl rfl I.tM (fun p hp=>by cases hp) I.uu (yH I.nodup) I.mu I.me) ⟨ by simp,fun i hi gZ=>⟨?_,fun hm=>?_⟩⟩
 ·rw[List.getElem?_set_ne (fun e=>gZ (by subst e;simp[Bq.own]))]
 ·simp only[Bq.own,Bq.cV,oI,List.mem_append,List.mem_cons,List.not_mem_nil,or_false] at hm gZ
  rcases hm with h|h
  ·exact gZ (.inl (.inl h))
  ·exact gZ (.inr h)
theorem BI.EW(I:BI st b q):BI (st.set q.jv (.bo l')) b (q.vT l')∧Fr b st q (st.set q.jv (.bo l')) (q.vT l'):=by
 have A:=I.ap;haveI lt:q.jv<st.length:=(List.getElem?_eq_some_iff.mp I.tM).1;have e:∀{k:Nat},k≠q.jv→(st.set q.jv (.bo l'))[k]?=st[k]?:=fun hk=>List.getElem?_set_ne (Ne.symm hk)
 refine⟨⟨by rw[e (A.d1 q.jv (by simp)).symm];exact I.inst,by rw[e (A.d2 q.jv (by simp)).symm];exact I.yW,(e (A.d3 q.jv (by simp)).symm).trans I.bytes,List.getElem?_set_self lt,fun p hp=>?_,fun p hp=>?_,I.nodup,I.sz,I.mu,I.me⟩,by simp,fun i hi hn=>⟨e fun h=>hn (by subst h;simp[Bq.own]),hn⟩⟩
 ·haveI qV:q.cv=some p:=hp
  rw[e (A.d4 p.1 (by simp[qV,oI]))];exact I.rV p hp
 ·haveI qV:q.sh=some p:=hp
  rw[e (A.d4 p.1 (by simp[qV,oI]))];exact I.uu p hp
theorem BI.K5(I:BI st b q)(hq:q.cv=some (d,l)):BI (st.set d (.list (l'.map .int))) b (q.cV (some (d,l')))∧Fr b st q (st.set d (.list (l'.map .int))) (q.cV (some (d,l'))):=by
 have A:=I.ap;have hd:d∈oI q.cv:=by simp[hq,oI]
 have lt:d<st.length:=(List.getElem?_eq_some_iff.mp (I.rV _ hq)).1;have ho:(q.cV (some (d,l'))).own b=q.own b:=by simp[Bq.own,Bq.cV,oI,hq]
 have e:∀{k:Nat},k≠d→(st.set d (.list (l'.map .int)))[k]?=st[k]?:=fun hk=>List.getElem?_set_ne (Ne.symm hk)
 have vI:(q.cV (some (d,l'))).sl=q.sl:=by simp[Bq.sl,Bq.cV,oV,hq]
 refine⟨⟨by rw[vI,e (A.d1 d (by simp[hd])).symm];exact I.inst,by rw[e (A.d2 d (by simp[hd])).symm];exact I.yW,(e (A.d3 d (by simp[hd])).symm).trans I.bytes,(e (A.d4 d (by simp[hd])).symm).trans I.tM,fun p hp=>?_,fun p hp=>?_,by rw[ho];exact I.nodup,I.sz,I.mu,I.me⟩,by simp,fun i hi hn=>⟨e fun h=>hn ?_,by rw[ho];exact hn⟩⟩
 ·cases hp;exact List.getElem?_set_self lt
 ·haveI qV:q.sh=some p:=hp
  rw[e (fun h=>A.d5 d hd p.1 (by simp[qV,oI]) h.symm)];exact I.uu p hp
 ·subst h;simp[Bq.own,hd]
theorem dq(I:BI st b q){k:Nat}(hk:k≤1000)(cS:q.ne=false){Pz:Prop}(kz:∀st' c,run tb fns (n+2) bP [.obj b,.int k] none st=.ok .none st'→BI st' b (((q.cV (some (c,List.replicate k 0))).oE (.int q.tail.length)).nE true)→Fr b st q st' (((q.cV (some (c,List.replicate k 0))).oE (.int q.tail.length)).nE true)→Pz):Pz:=by
 haveI a1:=d9 (n:=n) I cS;refine I.Ko (List.replicate k 0) fun af a2 I1 F1=>?_
 haveI a3:run tb fns (n+1) bJ [.obj b] none af=.ok (.int (q.tail.length:Int)) af:=(bK (n:=n) I1 :);refine I1.zQ (.int q.tail.length) rfl fun aU a4 I2 F2=>?_
 refine I2.hB true fun bf a5 I3 F3=>?_
 haveI hr:aC tb (run tb fns (n+1)) [some (.obj b),some (.int (k:Int))] (.kg (.var 1)) st=.ok (.obj st.length) (st++[.list ((List.replicate k (0:Int)).map .int)]):=by
  rw[V.Mo (n:=(k:Int)) (V.varr rfl) ⟨by exact aO 0x80023,by exact(aO 0x271004200833e80310009) hk⟩];simp
 refine kz bf st.length ?_ I3 (F1.trans (F2.trans F3));apply V.runN (l:=[some (.obj b),some (.int (k:Int))]) rfl rfl rfl (fl:=.next);unfold gJ
 repeat walk_at "ev"
end
end
section
section
variable {n:Nat}{st:St}{b:Nat}{q:Bq}
theorem BX(h:a%4=0)(h2:b%4=0):(a+b)%4=0:=by rw[Nat.add_mod,h,h2]
theorem lM(h:(t.length+a)%s=0)(hs:0<s):al s a t=t:=by
 simp[al,pd,h]
theorem BI.mid(I:BI st b q)(ht:q.tail=y++(z++u))(hx:x.length=z.length) :
 putAt (q.pre++q.tail) (q.pre.length+y.length) x=q.pre++(y++(x++u)) ∧
 BI (st.set q.jb (.aJ (q.pre++(y++(x++u))))) b { q with tail:=y++(x++u) }∧Fr b st q (st.set q.jb (.aJ (q.pre++(y++(x++u))))) { q with tail:=y++(x++u) }:=by
 obtain⟨I1,F1⟩:=I.write (t:=y++(x++u)) (by rw[ht];simp[hx]);refine⟨?_,I1,F1⟩;haveI h1:q.pre++q.tail=(q.pre++y)++(z++u):=by rw[ht,List.append_assoc]
 haveI h2:q.pre.length+y.length=(q.pre++y).length:=by simp
 rw[h1,h2,putAt,List.take_left,hx,List.drop_append,List.drop_eq_nil_of_le (by exact aZ 0x10004000),List.nil_append,show(q.pre++y).length+z.length-(q.pre++y).length=z.length by exact aZ 0x10001000452,List.drop_left];simp[List.append_assoc]
def oW(vt:List (List Int×AV)):Prop:=vt=[]∨∃v:Nat,v≤9000∧vt=[([4],.int v)]
theorem Lg(h:st[j]?=some (.bo l))(k:Int):aD tb .get (.obj j) [.tup [.int k]] st=.ok ((aN l [k]).getD .none) st:=by
 exact V.JX h rfl
theorem Hb{st af bf cI dO et gz qM:St}{b c j5 jv:Nat}{q0 q1 q3 q4 q5 q6:Bq}{l:List AV}{T T4 T8 p5:Int}(hl:l=[]∨l=[.int 0])
  (I0:BI st b q0) (e1:run tb fns (n+4) aX [.obj b,.int 0] none st=.ok .none af) (I1:BI af b q1) (e2:run tb fns (n+4) bJ [.obj b] none af=.ok (.int T4) af)
  (Im:ah (af++[.list []]) 1 (.obj b)=some (.obj c)) (um:(af++[ao.list []])[c]?=some (.list l)) (g7:ah (af++[.list []]) 7 (.obj b)=some (.int T)) (s1:aq .sub (.int T4) (.int T)=some (.int 4))
  (k3:c6 (af++[.list []]) .append (.obj af.length)=true) (e3:aD tb .append (.obj af.length) [.int 4] (af++[.list []])=.ok .none bf) (I3:BI bf b q3)
  (e4:Sv.bcall .tuple [.obj af.length] bf=.ok (.tup [.int 4]) bf) (g10:ah bf 10 (.obj b)=some (.obj jv)) (k5:c6 bf .get (.obj jv)=true) (e5:aD tb .get (.obj jv) [.tup [.int 4]] bf=.ok .none bf)
  (Je:ah bf 1 (.obj b)=some (.obj c)) (Cd:bf[c]?=some (.list l)) (e6:run tb fns (n+4) aG [.obj b,.int 4] none bf=.ok .none cI) (I4:BI cI b q4)
  (Ot:ah cI 1 (.obj b)=some (.obj c)) (LB:cI[c]?=some (.list l)) (e7:run tb fns (n+4) aG [.obj b,.int 4] none cI=.ok .none dO) (I5:BI dO b q5)
  (Pb:ah dO 0 (.obj b)=some (.obj j5)) (b5:Sv.bcall .len [.obj j5] dO=.ok (.int T8) dO) (s5:aq .sub (.int T8) (.int T4)=some (.int p5)) {T9:Int} (o5:run tb fns (n+4) bJ [.obj b] none dO=.ok (.int T9) dO) (s6:aq .sub (.int T9) (.int T4)=some (.int 4))
  (e8:run tb fns (n+4) lE [.ba (.ref 55),.obj j5,.int p5,.int 4] none dO=.ok .none et) (I6:BI et b q6) (o6:run tb fns (n+4) bJ [.obj b] none et=.ok (.int T9) et) (KG:ah et 10 (.obj b)=some (.obj jv))
  (e9:cP et (.obj jv) (.tup [.int 4]) (.int T9)=some gz) (zI:ak gz (.obj b) 1 .none=some qM) :
  run tb fns (n+5) bx [.obj b] none st=.ok (.int T4) qM:=by
 have f2:aq .add (.int 0) (.int 2)=some (.int 2):=rfl;have f3:fi .mul (.int 2) (.int 2)=some (.int 4):=rfl;rcases hl with hl|hl
 ·subst hl
  haveI ON:Sv.bcall .len [.obj c] bf=.ok (.int 0) bf:=by show d7 bf (.obj c)=_;simp[d7,Cd]
  haveI Qb:Sv.bcall .len [.obj c] cI=.ok (.int 0) cI:=by show d7 cI (.obj c)=_;simp[d7,LB]
  haveI f1:aq .sub (.int 0) (.int 0)=some (.int 0):=rfl;apply V.fA (l:=[some (.obj b),none,none,none,none,none,none,none,none,none,none,none]) rfl rfl rfl (fl:=.ret _);unfold cx
  repeat walk_at "ev"
 ·subst hl
  haveI ON:Sv.bcall .len [.obj c] bf=.ok (.int 1) bf:=by show d7 bf (.obj c)=_;simp[d7,Cd]
  haveI Qb:Sv.bcall .len [.obj c] cI=.ok (.int 1) cI:=by show d7 cI (.obj c)=_;simp[d7,LB]
  have f0:aq .sub (.int 1) (.int 1)=some (.int 0):=rfl;haveI f4:fi .add (.int 0) (.int 1)=some (.int 1):=rfl;haveI f5:cX bf (.obj c) (.int 0)=some (.int 0):=V.MA Cd (by decide) rfl rfl;apply V.fA (l:=[some (.obj b),none,none,none,none,none,none,none,none,none,none,none]) rfl rfl rfl (fl:=.ret _);unfold cx
  repeat walk_at "ev"
theorem FT{st af bf cI dO qM:St}{b c j1 jv:Nat}{q0 q1 q3 q4 q5:Bq}{l:List AV}{T T4 T8 p1 v w:Int}(hl:l=[]∨l=[.int 0])
  (I0:BI st b q0) (e1:run tb fns (n+4) aX [.obj b,.int 0] none st=.ok .none af) (I1:BI af b q1) (e2:run tb fns (n+4) bJ [.obj b] none af=.ok (.int T4) af)
  (Im:ah (af++[.list []]) 1 (.obj b)=some (.obj c)) (um:(af++[ao.list []])[c]?=some (.list l)) (g7:ah (af++[.list []]) 7 (.obj b)=some (.int T)) (s1:aq .sub (.int T4) (.int T)=some (.int 4))
  (k3:c6 (af++[.list []]) .append (.obj af.length)=true) (e3:aD tb .append (.obj af.length) [.int 4] (af++[.list []])=.ok .none bf) (I3:BI bf b q3)
  (e4:Sv.bcall .tuple [.obj af.length] bf=.ok (.tup [.int 4]) bf) (g10:ah bf 10 (.obj b)=some (.obj jv)) (k5:c6 bf .get (.obj jv)=true) (e5:aD tb .get (.obj jv) [.tup [.int 4]] bf=.ok (.int v) bf)
  (Pg:ah bf 0 (.obj b)=some (.obj j1)) (b3:Sv.bcall .len [.obj j1] bf=.ok (.int T8) bf) (s3:aq .sub (.int T8) (.int T4)=some (.int p1)) (e6:ak bf (.obj b) 4 (.int p1)=some cI) (I4:BI cI b q4)
  (O6:ah cI 0 (.obj b)=some (.obj j1)) (e7:run tb fns (n+4) sP [.obj b] none cI=.ok (.int p1) cI) (s4:aq .sub (.int v) (.int T4)=some (.int w)) (e8:run tb fns (n+4) lE [.ba (.ref 55),.obj j1,.int p1,.int w] none cI=.ok .none dO) (I5:BI dO b q5)
  (zI:ak dO (.obj b) 1 .none=some qM) :
  run tb fns (n+5) bx [.obj b] none st=.ok (.int T4) qM:=by
 rcases hl with hl|hl
 ·subst hl
  apply V.fA (l:=[some (.obj b),none,none,none,none,none,none,none,none,none,none,none]) rfl rfl rfl (fl:=.ret _);unfold cx
  repeat walk_at "ev"
 ·subst hl
  apply V.fA (l:=[some (.obj b),none,none,none,none,none,none,none,none,none,none,none]) rfl rfl rfl (fl:=.ret _);unfold cx
  repeat walk_at "ev"
theorem rl(I:BI st b q){c:Nat}{l:List Int}(mz:q.cv=some (c,l))(hl:l=[]∨l=[0])(AP:q.oe=.int q.tail.length)(h4:q.tail.length%4=0)(ht:q.tail.length≤8000)(hv:oW q.vt){Pz:Prop}(kz:∀st' j p x kW m,run tb fns (n+5) bx [.obj b] none st=.ok (.int ((q.tail.length+4:Nat):Int)) st'→BI st' b (((q.mv j p (x++q.tail) m).vT kW).cV none)→Fr b st q st' (((q.mv j p (x++q.tail) m).vT kW).cV none)→x.length%4=0∧x.length≤8∧oW kW∧m=max q.ma 4→Pz):Pz:=by
 have lS:al 4 0 q.tail=q.tail:=lM (by omega) (by exact ed 0x40110011);refine km (n:=n+1) I (by exact(aO 0x23280410001f400410009) ht) fun af j1 p1 e1 I1 F1=>?_
 rw[lS] at I1 F1;have e2:run tb fns (n+4) bJ [.obj b] none af=.ok (.int ((q.tail.length+4:Nat):Int)) af:=by
  haveI:=bK (n:=n+3) I1
  rw[this];congr 3<;>simp[Bq.mv,ai]<;>omega
 haveI hL:af.length∉(q.mv j1 p1 (leB 4 ((q.tail.length:Int)+4)++q.tail) (max q.ma 4)).own b:=fun h=>absurd (I1.EP _ h) (by exact aO 0x16)
 have I2:=I1.app [.list []];have F2:Fr b af (q.mv j1 p1 (leB 4 ((q.tail.length:Int)+4)++q.tail) (max q.ma 4)) (af++[.list []]) (q.mv j1 p1 (leB 4 ((q.tail.length:Int)+4)++q.tail) (max q.ma 4)):=Fr.app _;have Ll:(af++[ao.list []])[af.length]?=some (.list []):=by simp
 have g1:∀{s:St}{q':Bq},BI s b q'→q'.cv=some (c,l)→ah s 1 (.obj b)=some (.obj c):=fun J hJ=>by haveI:=J.g1;rw[hJ] at this;exact this
 have Im:=g1 I2 mz;have um:(af++[ao.list []])[c]?=some (.list (l.map .int)):=I2.rV (c,l) mz;have g7:ah (af++[ao.list []]) 7 (.obj b)=some (.int (q.tail.length:Int)):=by haveI:=I2.g7;rw[show(q.mv j1 p1 (leB 4 ((q.tail.length:Int)+4)++q.tail) (max q.ma 4)).oe=_ from AP] at this;exact this
 have s1:aq .sub (.int ((q.tail.length+4:Nat):Int)) (.int (q.tail.length:Int))=some (.int 4):=V.mw (by exact aO 0x40120084011004855);have e3:aD tb .append (.obj af.length) [.int 4] (af++[ao.list []])=.ok .none ((af++[ao.list []]).set af.length (.list [.int 4])):=by
  exact V.app Ll (by decide)
 have k3:c6 (af++[ao.list []]) .append (.obj af.length)=true:=V.KR Ll;have I3:=I2.uQ hL (.list [.int 4]);have F3:Fr b st (q) ((af++[ao.list []]).set af.length (.list [.int 4])) (q.mv j1 p1 (leB 4 ((q.tail.length:Int)+4)++q.tail) (max q.ma 4)):=by
  refine⟨by simp;haveI:=F1.len;exact(aZ 0x1011104000100009) this,fun i hi hn=>?_⟩;obtain⟨f1,f2⟩:=(F1.trans F2).keep i hi hn;exact⟨by rw[List.getElem?_set_ne (by haveI:=F1.len;exact(cM 0x100026002009201019) hi this)];exact f1,f2⟩
 generalize KS:(af++[ao.list []]).set af.length (.list [.int 4])=bf at *;haveI Nk:bf[af.length]?=some (.list [.int 4]):=by rw[←KS];exact List.getElem?_set_self (by simp)
 have e4:Sv.bcall .tuple [.obj af.length] bf=.ok (.tup [.int 4]) bf:=by
  show(match bf[af.length]? with|some (.list l)=>if l.length≤1000000 then R.ok (AV.tup l) bf else R.stuck|_=>R.stuck)=_
  rw[Nk];simp
 have zc:bf[q.jv]?=some (.bo q.vt):=I3.tM;have e5:=Lg zc 4;have k5:c6 bf .get (.obj q.jv)=true:=V.Og zc;have g10:ah bf 10 (.obj b)=some (.obj q.jv):=I3.g10;rcases hv with hv|⟨v,OM,hv⟩
 ·-- it R8 not told
  haveI Nj:aD tb .get (.obj q.jv) [.tup [.int 4]] bf=.ok .none bf:=by rw[e5,hv];rfl
  clear e5;refine gI (n:=n) I3 (x:=4) (by show(leB 4 _++q.tail).length≤_;simp[ai];exact(aO 0x2328041004011401f400410009) ht) (by exact ed 0xffff04140110) fun cI j4 p4 e6 I4 F4=>?_
  have Mb:al 2 0 (leB 4 ((q.tail.length:Int)+4)++q.tail)=leB 4 ((q.tail.length:Int)+4)++q.tail:=lM (by simp[ai];exact(xg 0x1102401120100204040164279201110100401141030201642790012029) h4 (nm _ 2 rfl) (nm _ 4 rfl)) (by exact ed 0x20110011);replace I4:BI cI b (q.mv j4 p4 (leB 2 (4:Nat)++al 2 0 (leB 4 ((q.tail.length:Int)+4)++q.tail)) (max (max q.ma 4) 2)):=I4;replace F4:Fr b bf (q.mv j1 p1 (leB 4 ((q.tail.length:Int)+4)++q.tail) (max q.ma 4)) cI (q.mv j4 p4 (leB 2 (4:Nat)++al 2 0 (leB 4 ((q.tail.length:Int)+4)++q.tail)) (max (max q.ma 4) 2)):=F4;rw[Mb] at I4 F4;refine gI (n:=n) I4 (x:=4) (by show(leB 2 _++(leB 4 _++q.tail)).length≤_;simp[ai];exact(aO 0x232804100401142011401f400410009) ht) (by exact ed 0xffff04140110) fun dO j5 p5 e7 I5 F5=>?_
  have Mc:al 2 0 (leB 2 (4:Nat)++(leB 4 ((q.tail.length:Int)+4)++q.tail))=leB 2 (4:Nat)++(leB 4 ((q.tail.length:Int)+4)++q.tail):=lM (by simp[ai];exact(xg 0x1102401120100204040164279201110100401141030201642790012029) h4 (nm _ 2 rfl) (nm _ 4 rfl)) (by exact ed 0x20110011);replace I5:BI dO b (q.mv j5 p5 (leB 2 (4:Nat)++al 2 0 (leB 2 (4:Nat)++(leB 4 ((q.tail.length:Int)+4)++q.tail))) (max (max (max q.ma 4) 2) 2)):=I5;replace F5:Fr b cI (q.mv j4 p4 (leB 2 (4:Nat)++(leB 4 ((q.tail.length:Int)+4)++q.tail)) (max (max q.ma 4) 2)) dO (q.mv j5 p5 (leB 2 (4:Nat)++al 2 0 (leB 2 (4:Nat)++(leB 4 ((q.tail.length:Int)+4)++q.tail))) (max (max (max q.ma 4) 2) 2)):=F5;rw[Mc] at I5 F5
  change run tb fns (n+4) aG [.obj b,.int 4] none bf=_ at e6
  change run tb fns (n+4) aG [.obj b,.int 4] none cI=_ at e7
  obtain⟨w1,I6,F6⟩:=I5.mid (y:=leB 2 (4:Nat)++leB 2 (4:Nat)) (z:=leB 4 ((q.tail.length:Int)+4)) (u:=q.tail) (x:=leB 4 4) (by show leB 2 _++(leB 2 _++_)=_;simp[List.append_assoc]) (by simp[ai]);replace w1:putAt (p5++(leB 2 (4:Nat)++(leB 2 (4:Nat)++(leB 4 ((q.tail.length:Int)+4)++q.tail)))) (p5.length+(leB 2 (4:Nat)++leB 2 (4:Nat)).length) (leB 4 4)=p5++((leB 2 (4:Nat)++leB 2 (4:Nat))++(leB 4 4++q.tail)):=w1;replace I6:BI (dO.set j5 (.aJ (p5++((leB 2 (4:Nat)++leB 2 (4:Nat))++(leB 4 4++q.tail))))) b (q.mv j5 p5 ((leB 2 (4:Nat)++leB 2 (4:Nat))++(leB 4 4++q.tail)) (max (max (max q.ma 4) 2) 2)):=I6;replace F6:Fr b dO (q.mv j5 p5 (leB 2 (4:Nat)++(leB 2 (4:Nat)++(leB 4 ((q.tail.length:Int)+4)++q.tail))) (max (max (max q.ma 4) 2) 2)) (dO.set j5 (.aJ (p5++((leB 2 (4:Nat)++leB 2 (4:Nat))++(leB 4 4++q.tail))))) (q.mv j5 p5 ((leB 2 (4:Nat)++leB 2 (4:Nat))++(leB 4 4++q.tail)) (max (max (max q.ma 4) 2) 2)):=F6;haveI Ro:dO[j5]?=some (.aJ (p5++(leB 2 (4:Nat)++(leB 2 (4:Nat)++(leB 4 ((q.tail.length:Int)+4)++q.tail))))):=I5.bytes;have D5:(leB 2 (4:Nat)++(leB 2 (4:Nat)++(leB 4 ((q.tail.length:Int)+4)++q.tail))).length=q.tail.length+8:=by simp[ai];exact aO 0x8011004004011420114201142
  haveI KL:p5.length+(leB 2 (4:Nat)++(leB 2 (4:Nat)++(leB 4 ((q.tail.length:Int)+4)++q.tail))).length≤32000:=I5.sz;have E4:(p5++(leB 2 (4:Nat)++(leB 2 (4:Nat)++(leB 4 ((q.tail.length:Int)+4)++q.tail)))).length=p5.length+(q.tail.length+8):=by rw[List.length_append,D5]
  haveI e8:=eO (n:=n+3) BD Ro (p:=((p5.length+4:Nat):Int)) (x:=4) (by rw[E4];exact(cM 0xf4240051801110400407d00041200040980111042029) D5 KL) (by exact aO 0x401100480023) (by rw[E4];exact aZ 0x8011104004840124011004843) (by simp) (by simp);haveI w2:(((p5.length+4:Nat):Int)).toNat=p5.length+(leB 2 (4:Nat)++leB 2 (4:Nat)).length:=by simp[ai];exact aO 0x401100440120084a2
  rw[w2,w1] at e8;haveI b5:d7 dO (.obj j5)=.ok (.int ((p5.length+(q.tail.length+8):Nat):Int)) dO:=by haveI:=I5.gl0;rw[←D5];exact this
  haveI PR:Sv.bcall .len [.obj j5] dO=.ok (.int ((p5.length+(q.tail.length+8):Nat):Int)) dO:=b5;haveI Pb:ah dO 0 (.obj b)=some (.obj j5):=I5.g0;haveI s5:aq .sub (.int ((p5.length+(q.tail.length+8):Nat):Int)) (.int ((q.tail.length+4:Nat):Int))=some (.int ((p5.length+4:Nat):Int)):=V.mw (by exact aZ 0x40110048401110488011104004855);haveI o5:run tb fns (n+4) bJ [.obj b] none dO=.ok (.int ((q.tail.length+8:Nat):Int)) dO:=by rw[←D5];exact bK (n:=n+3) I5
  haveI s6:aq .sub (.int ((q.tail.length+8:Nat):Int)) (.int ((q.tail.length+4:Nat):Int))=some (.int 4):=V.mw (by exact aO 0x4012401100488011004855);haveI Mf:((leB 2 (4:Nat)++leB 2 (4:Nat))++(leB 4 4++q.tail)).length=q.tail.length+8:=by simp[ai];exact aO 0x8011004004011420114201142
  generalize RG:dO.set j5 (.aJ (p5++((leB 2 (4:Nat)++leB 2 (4:Nat))++(leB 4 4++q.tail))))=et at *;haveI o6:run tb fns (n+4) bJ [.obj b] none et=.ok (.int ((q.tail.length+8:Nat):Int)) et:=by rw[←Mf];exact bK (n:=n+3) I6
  haveI KG:ah et 10 (.obj b)=some (.obj q.jv):=I6.g10;haveI Mj:et[q.jv]?=some (.bo []):=by haveI:=I6.tM;rw[show(q.mv j5 p5 _ _).vt=q.vt from rfl,hv] at this;exact this
  haveI e9:cP et (.obj q.jv) (.tup [.int 4]) (.int ((q.tail.length+8:Nat):Int))=some (et.set q.jv (.bo [([4],.int ((q.tail.length+8:Nat):Int))])):=by
   exact V.JW Mj (by decide) rfl rfl
  obtain⟨I7,F7⟩:=I6.EW (l':=[([4],.int ((q.tail.length+8:Nat):Int))]);replace I7:BI (et.set q.jv (.bo [([4],.int ((q.tail.length+8:Nat):Int))])) b _:=I7;replace F7:Fr b et _ (et.set q.jv (.bo [([4],.int ((q.tail.length+8:Nat):Int))])) _:=F7;refine I7.DE fun qM zI I8 F8=>?_
  haveI Ot:ah cI 1 (.obj b)=some (.obj c):=g1 I4 mz;haveI Je:ah bf 1 (.obj b)=some (.obj c):=g1 I3 mz;haveI Cd:bf[c]?=some (.list (l.map .int)):=I3.rV (c,l) mz;haveI LB:cI[c]?=some (.list (l.map .int)):=I4.rV (c,l) mz;haveI FU:run tb fns (n+5) bx [.obj b] none st=.ok (.int ((q.tail.length+4:Nat):Int)) qM:=by
   exact Hb (T:=(q.tail.length:Int)) (hl.imp (fun h=>by rw[h];rfl) (fun h=>by rw[h];rfl)) I e1 I1 e2 Im um g7 s1 k3 e3 I3 e4 g10 k5 Nj Je Cd e6 I4 Ot LB e7 I5 Pb PR s5 o5 s6 e8 I6 o6 KG e9 zI
  refine kz qM j5 p5 ((leB 2 (4:Nat)++leB 2 (4:Nat))++leB 4 4) [([4],.int ((q.tail.length+8:Nat):Int))] (max (max (max q.ma 4) 2) 2) FU ?_ ?_ ⟨ by simp[ai],by simp[ai],.inr ⟨q.tail.length+8,by exact(aO 0x2328041801100401f400410009) ht,rfl⟩,by exact fz 0x401200b20122012401200bbb5⟩
  ·haveI:=I8
   rw[←List.append_assoc] at this;exact this
  ·haveI:=F3.trans (F4.trans (F5.trans (F6.trans (F7.trans F8))))
   rw[←List.append_assoc] at this;exact this
 ·haveI Nj:aD tb .get (.obj q.jv) [.tup [.int 4]] bf=.ok (.int (v:Int)) bf:=by rw[e5,hv];rfl
  haveI R5:bf[j1]?=some (.aJ (p1++(leB 4 ((q.tail.length:Int)+4)++q.tail))):=I3.bytes;have r6:p1.length+(leB 4 ((q.tail.length:Int)+4)++q.tail).length≤32000:=I3.sz;have dh:(leB 4 ((q.tail.length:Int)+4)++q.tail).length=q.tail.length+4:=by simp[ai]<;>exact aO 0x401100400401142
  haveI b3:d7 bf (.obj j1)=.ok (.int ((p1.length+(q.tail.length+4):Nat):Int)) bf:=by haveI:=I3.gl0;rw[←dh];exact this
  haveI Rz:Sv.bcall .len [.obj j1] bf=.ok (.int ((p1.length+(q.tail.length+4):Nat):Int)) bf:=b3;haveI Pg:ah bf 0 (.obj b)=some (.obj j1):=I3.g0;haveI s3:aq .sub (.int ((p1.length+(q.tail.length+4):Nat):Int)) (.int ((q.tail.length+4:Nat):Int))=some (.int (p1.length:Int)):=V.mw (by exact aZ 0x8401110484011104004855);obtain⟨I4,F4⟩:=I3.put (q':=q.mv j1 p1 (leB 4 ((q.tail.length:Int)+4)++q.tail) (max q.ma 4)) rfl rfl rfl rfl rfl rfl I3.mu I3.me;haveI e6:=I3.gD 4 (.int (p1.length:Int)) (by decide);replace e6:ak bf (.obj b) 4 (.int (p1.length:Int))=some (bf.set b (.inst (q.mv j1 p1 (leB 4 ((q.tail.length:Int)+4)++q.tail) (max q.ma 4)).sl)):=e6;generalize PJ:bf.set b (.inst (q.mv j1 p1 (leB 4 ((q.tail.length:Int)+4)++q.tail) (max q.ma 4)).sl)=cI at *;haveI O6:ah cI 0 (.obj b)=some (.obj j1):=I4.g0;haveI e7:run tb fns (n+4) sP [.obj b] none cI=.ok (.int (p1.length:Int)) cI:=A5 (n:=n+3) I4;haveI Rv:cI[j1]?=some (.aJ (p1++(leB 4 ((q.tail.length:Int)+4)++q.tail))):=I4.bytes;have EK:(p1++(leB 4 ((q.tail.length:Int)+4)++q.tail)).length=p1.length+(q.tail.length+4):=by rw[List.length_append,dh]
  haveI s4:aq .sub (.int (v:Int)) (.int ((q.tail.length+4:Nat):Int))=some (.int ((v:Int)-((q.tail.length+4:Nat):Int))):=rfl;haveI e8:=eO (n:=n+3) BD Rv (p:=(p1.length:Int)) (x:=(v:Int)-((q.tail.length+4:Nat):Int)) (by rw[EK];exact(cM 0xf424005140111040040401110420297d000412000409) r6 dh) (by exact aO 0x80023) (by rw[EK];exact aZ 0x40111040048401200843) (by simp<;>exact(gk 0x401210840085800000000833401110430297d000413020409) r6 dh) (by simp<;>exact(aZ 0x7fffffff082401210840085323280410009) OM);obtain⟨w1,I6,F6⟩:=I4.mid (y:=[]) (z:=leB 4 ((q.tail.length:Int)+4)) (u:=q.tail) (x:=leB 4 ((v:Int)-((q.tail.length+4:Nat):Int))) rfl (by simp[ai]);replace w1:putAt (p1++(leB 4 ((q.tail.length:Int)+4)++q.tail)) ((p1.length:Int)).toNat (leB 4 ((v:Int)-((q.tail.length+4:Nat):Int)))=p1++(leB 4 ((v:Int)-((q.tail.length+4:Nat):Int))++q.tail):=w1;rw[w1] at e8;replace I6:BI (cI.set j1 (.aJ (p1++(leB 4 ((v:Int)-((q.tail.length+4:Nat):Int))++q.tail)))) b (q.mv j1 p1 (leB 4 ((v:Int)-((q.tail.length+4:Nat):Int))++q.tail) (max q.ma 4)):=I6;replace F6:Fr b cI (q.mv j1 p1 (leB 4 ((q.tail.length:Int)+4)++q.tail) (max q.ma 4)) (cI.set j1 (.aJ (p1++(leB 4 ((v:Int)-((q.tail.length+4:Nat):Int))++q.tail)))) (q.mv j1 p1 (leB 4 ((v:Int)-((q.tail.length+4:Nat):Int))++q.tail) (max q.ma 4)):=F6;refine I6.DE fun qM zI I8 F8=>?_
  haveI FU:run tb fns (n+5) bx [.obj b] none st=.ok (.int ((q.tail.length+4:Nat):Int)) qM:=
   FT (T:=(q.tail.length:Int)) (hl.imp (fun h=>by rw[h];rfl) (fun h=>by rw[h];rfl)) I e1 I1 e2 Im um g7 s1 k3 e3 I3 e4 g10 k5 Nj Pg Rz s3 e6 I4 O6 e7 s4 e8 I6 zI
  exact kz qM j1 p1 (leB 4 ((v:Int)-((q.tail.length+4:Nat):Int))) q.vt (max q.ma 4) FU I8 (F3.trans (F4.trans (F6.trans F8))) ⟨ by simp[ai],by simp[ai],.inr ⟨v,OM,hv⟩,rfl⟩
end
end
section
section
variable {n:Nat}{st:St}{b:Nat}{q:Bq}
theorem ip(I:BI st b q){c:Nat}{l:List Int}(cS:q.ne=true)(mz:q.cv=some (c,l))(hl:l=[]∨l=[0])(AP:q.oe=.int q.tail.length)(h4:q.tail.length%4=0)(ht:q.tail.length≤8000)(hv:oW q.vt){Pz:Prop}(kz:∀st' j p x kW m,run tb fns (n+6) dC [.obj b] none st=.ok (.int ((q.tail.length+4:Nat):Int)) st'→BI st' b ((((q.nE false).mv j p (x++q.tail) m).vT kW).cV none)→Fr b st q st' ((((q.nE false).mv j p (x++q.tail) m).vT kW).cV none)→x.length%4=0∧x.length≤8∧oW kW∧m=max q.ma 4→Pz):Pz:=by
 haveI a1:=de (n:=n+4) I cS;refine I.hB false fun af a2 I1 F1=>?_
 refine rl (n:=n) I1 (c:=c) (l:=l) mz hl AP h4 ht hv fun st' j p x kW m e I2 F2 r=>?_
 replace e:run tb fns (n+5) bx [.obj b] none af=.ok (.int ((q.tail.length+4:Nat):Int)) st':=e;refine kz st' j p x kW m ?_ I2 (F1.trans F2) r;apply V.fA (l:=[some (.obj b)]) rfl rfl rfl (fl:=.ret _);unfold gC
 repeat walk_at "ev"
theorem zC(I:BI st b q){c:Nat}{l:List Int}{i:Nat}(cS:q.ne=true)(mz:q.cv=some (c,l))(hi:i<l.length)(hl:l.length≤1000){Pz:Prop}(kz:∀st',run tb fns (n+2) wN [.obj b,.int i] none st=.ok .none st'→BI st' b (q.cV (some (c,l.set i q.tail.length)))→Fr b st q st' (q.cV (some (c,l.set i q.tail.length)))→Pz):Pz:=by
 haveI a1:=de (n:=n) I cS;haveI a2:=bK (n:=n) I;haveI g1:ah st 1 (.obj b)=some (.obj c):=by haveI:=I.g1;rw[mz] at this;exact this
 haveI hc:=I.rV _ mz;obtain⟨I1,F1⟩:=I.K5 (l':=l.set i q.tail.length) mz;haveI e1:cP st (.obj c) (.int (i:Int)) (.int (q.tail.length:Int))=some (st.set c (.list ((l.set i (q.tail.length:Int)).map .int))):=by
  rw[V.Ka hc (by simpa using hi) (by simp;exact(aO 0xf42400510003e80310009) hl),List.map_set]
 refine kz _ ?_ I1 F1;apply V.runN (l:=[some (.obj b),some (.int (i:Int))]) rfl rfl rfl (fl:=.next);unfold As
 repeat walk_at "ev"
theorem xR(I:BI st b q){c:Nat}{row:Nat}(cS:q.ne=true)(mz:q.cv=some (c,[0]))(h0:0<row)(hr:row≤q.tail.length)(h4:q.tail.length%4=0)(ht:q.tail.length≤8000){Pz:Prop}(kz:∀st' j p,run tb fns (n+4) bl [.obj b,.int 0,.int row,.int 0] none st=.ok .none st'→BI st' b ((q.mv j p (leB 4 (q.tail.length-row+4:Nat)++q.tail) (max q.ma 4)).cV (some (c,[((q.tail.length+4:Nat):Int)])))→Fr b st q st' ((q.mv j p (leB 4 (q.tail.length-row+4:Nat)++q.tail) (max q.ma 4)).cV (some (c,[((q.tail.length+4:Nat):Int)])))→Pz):Pz:=by
 have lS:al 4 0 q.tail=q.tail:=lM (by omega) (by exact ed 0x40110011);refine kx (n:=n) I (off:=row) (by exact(aO 0x23280410001f400410009) ht) hr fun af j p e1 h1 I1 F1=>?_
 rw[lS] at I1 F1;refine zC (n:=n+1) I1 (c:=c) (l:=[0]) (i:=0) cS mz (by simp) (by simp) fun aU e2 I2 F2=>?_
 replace e2:run tb fns (n+3) wN [.obj b,.int 0] none af=.ok .none aU:=e2;haveI hlen:(leB 4 (q.tail.length-row+4:Nat)++q.tail).length=q.tail.length+4:=by simp[ai]<;>exact aO 0x401100400401142
 have hq:(q.mv j p (leB 4 (q.tail.length-row+4:Nat)++q.tail) (max q.ma 4)).cV (some (c,[0].set 0 ((q.mv j p (leB 4 (q.tail.length-row+4:Nat)++q.tail) (max q.ma 4)).tail.length:Int)))=(q.mv j p (leB 4 (q.tail.length-row+4:Nat)++q.tail) (max q.ma 4)).cV (some (c,[((q.tail.length+4:Nat):Int)])):=by
  show Bq.cV _ (some (c,[(((leB 4 (q.tail.length-row+4:Nat)++q.tail).length:Nat):Int)]))=_;rw[hlen]
 haveI RR:((row:Nat):Int)≠0:=(aO 0x2008560000119) h0;refine kz aU j p ?_ (by rw[←hq];exact I2) (by rw[←hq];exact F1.trans F2);apply V.runN (l:=[some (.obj b),some (.int 0),some (.int (row:Int)),some (.int 0)]) rfl rfl rfl (fl:=.next);unfold bL
 repeat walk_at "ev"
theorem DH{st af aU bf cI dO et gz qM Jw:St}{b c j6 jv:Nat}{q0 q1 q3 q4 q5 q6 q7:Bq}{Z T4 T Ph p6 LY:Int}(hZ:Z≠0)
  (I0:BI st b q0) (e1:run tb fns (n+4) aX [.obj b,.int 0] none st=.ok .none af) (I1:BI af b q1) (e2:run tb fns (n+4) bJ [.obj b] none af=.ok (.int T4) af)
  (Im:ah (af++[.list []]) 1 (.obj b)=some (.obj c)) (um:(af++[ao.list []])[c]?=some (.list [.int Z])) (s0:aq .sub (.int T4) (.int Z)=some (.int 4))
  (k2:c6 (af++[.list []]) .append (.obj af.length)=true) (e3:aD tb .append (.obj af.length) [.int 4] (af++[.list []])=.ok .none aU) (B5:aU[c]?=(af++[ao.list []])[c]?)
  (g7:ah aU 7 (.obj b)=some (.int T)) (s1:aq .sub (.int T4) (.int T)=some (.int 8))
  (k3:c6 aU .append (.obj af.length)=true) (e4:aD tb .append (.obj af.length) [.int 8] aU=.ok .none bf) (I3:BI bf b q3)
  (e5:Sv.bcall .tuple [.obj af.length] bf=.ok (.tup [.int 4,.int 8]) bf) (g10:ah bf 10 (.obj b)=some (.obj jv)) (k5:c6 bf .get (.obj jv)=true) (e6:aD tb .get (.obj jv) [.tup [.int 4,.int 8]] bf=.ok .none bf)
  (Je:ah bf 1 (.obj b)=some (.obj c)) (Cd:bf[c]?=some (.list [.int Z])) (e7:run tb fns (n+4) aG [.obj b,.int 4] none bf=.ok .none cI) (I4:BI cI b q4)
  (e8:run tb fns (n+4) aG [.obj b,.int 8] none cI=.ok .none dO) (I5:BI dO b q5)
  (N5:ah dO 1 (.obj b)=some (.obj c)) (MP:dO[c]?=some (.list [.int Z])) (e9:run tb fns (n+4) aG [.obj b,.int 6] none dO=.ok .none et) (I6:BI et b q6)
  (OC:ah et 0 (.obj b)=some (.obj j6)) (b6:Sv.bcall .len [.obj j6] et=.ok (.int Ph) et) (s6:aq .sub (.int Ph) (.int T4)=some (.int p6)) (o6:run tb fns (n+4) bJ [.obj b] none et=.ok (.int LY) et) (s7:aq .sub (.int LY) (.int T4)=some (.int 6))
  (zI:run tb fns (n+4) lE [.ba (.ref 55),.obj j6,.int p6,.int 6] none et=.ok .none gz) (I7:BI gz b q7) (o7:run tb fns (n+4) bJ [.obj b] none gz=.ok (.int LY) gz) (K0:ah gz 10 (.obj b)=some (.obj jv))
  (LM:cP gz (.obj jv) (.tup [.int 4,.int 8]) (.int LY)=some qM) (LX:ak qM (.obj b) 1 .none=some Jw) :
  run tb fns (n+5) bx [.obj b] none st=.ok (.int T4) Jw:=by
 haveI f2:aq .add (.int 1) (.int 2)=some (.int 3):=rfl;haveI f3:fi .mul (.int 3) (.int 2)=some (.int 6):=rfl;haveI ON:Sv.bcall .len [.obj c] bf=.ok (.int 1) bf:=by show d7 bf (.obj c)=_;simp[d7,Cd]
 haveI R1:Sv.bcall .len [.obj c] dO=.ok (.int 1) dO:=by show d7 dO (.obj c)=_;simp[d7,MP]
 haveI f0:aq .sub (.int 1) (.int 1)=some (.int 0):=rfl;haveI f1:aq .sub (.int 1) (.int 0)=some (.int 1):=rfl;haveI f5:cX bf (.obj c) (.int 0)=some (.int Z):=V.MA Cd (show 1≤1000000 by decide) rfl rfl;apply V.fA (l:=[some (.obj b),none,none,none,none,none,none,none,none,none,none,none]) rfl rfl rfl (fl:=.ret _);unfold cx
 repeat walk_at "ev"
end
end
section
section
variable {n:Nat}{st:St}{b:Nat}{q:Bq}
noncomputable def eg(t:List UInt8):List UInt8:=leB 2 (6:Nat)++(leB 2 (8:Nat)++(leB 2 (4:Nat)++(leB 4 6++t)))
theorem fV(I:BI st b q){t:List UInt8}(hq:q.tail=t){x:Nat}(ht:t.length≤9000)(h2:t.length%2=0)(hx:x≤65535)(hm:q.ma=max q.ma 4){Pz:Prop}(kz:∀st' j p,run tb fns (n+4) aG [.obj b,.int x] none st=.ok .none st'→BI st' b (q.mv j p (leB 2 x++t) q.ma)→Fr b st q st' (q.mv j p (leB 2 x++t) q.ma)→Pz):Pz:=by
 subst hq;refine gI (n:=n) I (x:=x) ht hx fun st' j p e I1 F1=>?_
 have lS:al 2 0 q.tail=q.tail:=lM (by omega) (by exact ed 0x20110011);have sx:max q.ma (2:Int)=q.ma:=(fz 0x201200b5401200b0059) hm;rw[lS,sx] at I1 F1;exact kz st' j p e I1 F1
theorem qN(I:BI st b q){c:Nat}(mz:q.cv=some (c,[(q.tail.length:Int)])){T:Nat}(AP:q.oe=.int T)(hT:q.tail.length=T+4)(h4:T%4=0)(ht:q.tail.length≤8000)(hv:oW q.vt)(qh:q.ma=4){Pz:Prop}(kz:∀st' j p kW,run tb fns (n+5) bx [.obj b] none st=.ok (.int ((q.tail.length+4:Nat):Int)) st'→BI st' b (((q.mv j p (eg q.tail) 4).vT kW).cV none)→Fr b st q st' (((q.mv j p (eg q.tail) 4).vT kW).cV none)→Pz):Pz:=by
 have lS:al 4 0 q.tail=q.tail:=lM (by exact(LD 0x12024011301103050401642794011201001004204040164279001302940111040029) hT h4 (nm _ 4 rfl) (nm _ 4 rfl)) (by exact ed 0x40110011);refine km (n:=n+1) I (by exact(aO 0x23280410001f400410009) ht) fun af j1 p1 e1 I1 F1=>?_
 rw[lS,qh] at I1 F1;replace I1:BI af b (q.mv j1 p1 (leB 4 ((q.tail.length:Int)+4)++q.tail) 4):=I1;replace F1:Fr b st q af (q.mv j1 p1 (leB 4 ((q.tail.length:Int)+4)++q.tail) 4):=F1;have FO:(leB 4 ((q.tail.length:Int)+4)++q.tail).length=q.tail.length+4:=by simp[ai]<;>exact aO 0x401100400401142
 haveI e2:run tb fns (n+4) bJ [.obj b] none af=.ok (.int ((q.tail.length+4:Nat):Int)) af:=by rw[←FO];exact bK (n:=n+3) I1
 have hL:af.length∉(q.mv j1 p1 (leB 4 ((q.tail.length:Int)+4)++q.tail) 4).own b:=fun h=>absurd (I1.EP _ h) (by exact aO 0x16)
 have I2:=I1.app [.list []];have Ll:(af++[ao.list []])[af.length]?=some (.list []):=by simp
 have g1:∀{s:St}{q':Bq},BI s b q'→q'.cv=some (c,[(q.tail.length:Int)])→ah s 1 (.obj b)=some (.obj c):=fun J hJ=>by haveI:=J.g1;rw[hJ] at this;exact this
 have Im:=g1 I2 mz;have um:(af++[ao.list []])[c]?=some (.list [.int (q.tail.length:Int)]):=I2.rV (c,[(q.tail.length:Int)]) mz;haveI QE:c≠af.length:=fun e=>hL (by subst e;simp[Bq.own,Bq.mv,mz,oI])
 haveI s0:aq .sub (.int ((q.tail.length+4:Nat):Int)) (.int (q.tail.length:Int))=some (.int 4):=V.mw (by exact aO 0x40120084011004855);haveI k2:c6 (af++[ao.list []]) .append (.obj af.length)=true:=V.KR Ll;haveI e3:aD tb .append (.obj af.length) [.int 4] (af++[ao.list []])=.ok .none ((af++[ao.list []]).set af.length (.list [.int 4])):=by
  exact V.app Ll (by decide)
 haveI B5:((af++[ao.list []]).set af.length (.list [.int 4]))[c]?=(af++[ao.list []])[c]?:=List.getElem?_set_ne (Ne.symm QE);have OF:=I2.uQ hL (.list [.int 4]);have N4:((af++[ao.list []]).set af.length (.list [.int 4]))[af.length]?=some (.list [.int 4]):=List.getElem?_set_self (by simp);have E5:((af++[ao.list []]).set af.length (.list [.int 4])).length=af.length+1:=by simp
 haveI EZ:∀i,i<af.length→((af++[ao.list []]).set af.length (.list [.int 4]))[i]?=af[i]?:=fun i hi=>by
  rw[List.getElem?_set_ne (by exact(aZ 0x100026001019) hi),List.getElem?_append_left hi]
 generalize Qe:(af++[ao.list []]).set af.length (.list [.int 4])=aU at *;haveI g7:ah aU 7 (.obj b)=some (.int (T:Int)):=by haveI:=OF.g7;rw[show(q.mv j1 p1 (leB 4 ((q.tail.length:Int)+4)++q.tail) 4).oe=_ from AP] at this;exact this
 haveI s1:aq .sub (.int ((q.tail.length+4:Nat):Int)) (.int (T:Int))=some (.int 8):=V.mw (by exact(aZ 0x8012108401100485540111040029) hT);haveI k3:c6 aU .append (.obj af.length)=true:=V.KR N4;haveI e4:aD tb .append (.obj af.length) [.int 8] aU=.ok .none (aU.set af.length (.list [.int 4,.int 8])):=by
  exact V.app N4 (by decide)
 have I3:=OF.uQ hL (.list [.int 4,.int 8]);haveI Nk:(aU.set af.length (.list [.int 4,.int 8]))[af.length]?=some (.list [.int 4,.int 8]):=List.getElem?_set_self (by exact(aZ 0x1000110110041029) E5);haveI F3:Fr b st q (aU.set af.length (.list [.int 4,.int 8])) (q.mv j1 p1 (leB 4 ((q.tail.length:Int)+4)++q.tail) 4):=by
  have fl:=F1.len;refine⟨by simp only[List.length_set];exact(cM 0x1000020000910112041029) E5 fl,fun i hi hn=>?_⟩;obtain⟨f1,f2⟩:=F1.keep i hi hn;exact⟨by rw[List.getElem?_set_ne (by exact(cM 0x100026201019002009) fl hi),EZ i (by exact(cM 0x10001200019102009) fl hi)];exact f1,f2⟩
 generalize KS:aU.set af.length (.list [.int 4,.int 8])=bf at *;haveI e5:Sv.bcall .tuple [.obj af.length] bf=.ok (.tup [.int 4,.int 8]) bf:=by
  show(match bf[af.length]? with|some (.list l)=>if l.length≤1000000 then R.ok (AV.tup l) bf else R.stuck|_=>R.stuck)=_
  rw[Nk];simp
 have zc:bf[q.jv]?=some (.bo q.vt):=I3.tM;haveI e6:aD tb .get (.obj q.jv) [.tup [.int 4,.int 8]] bf=.ok .none bf:=by
  rw[V.JX zc (ks:=[4,8]) rfl];rcases hv with hv|⟨v,_,hv⟩<;>rw[hv]<;>rfl
 haveI k5:c6 bf .get (.obj q.jv)=true:=V.Og zc;haveI g10:ah bf 10 (.obj b)=some (.obj q.jv):=I3.g10;haveI Je:=g1 I3 mz;haveI Cd:bf[c]?=some (.list [.int (q.tail.length:Int)]):=I3.rV (c,[(q.tail.length:Int)]) mz;have N9:(leB 2 (4:Nat)++(leB 4 ((q.tail.length:Int)+4)++q.tail)).length=q.tail.length+6:=by simp[ai]<;>exact aO 0x60110040040114201142
 have OU:(leB 2 (8:Nat)++(leB 2 (4:Nat)++(leB 4 ((q.tail.length:Int)+4)++q.tail))).length=q.tail.length+8:=by simp[ai]<;>exact aO 0x8011004004011420114201142
 have LR:(leB 2 (6:Nat)++(leB 2 (8:Nat)++(leB 2 (4:Nat)++(leB 4 ((q.tail.length:Int)+4)++q.tail)))).length=q.tail.length+10:=by simp[ai]<;>exact aO 0xa01100400401142011420114201142
 refine fV (n:=n) I3 rfl (x:=4) (by show(leB 4 _++q.tail).length≤_;exact(aZ 0x2328041000401110400291f400411009) ht FO) (by show(leB 4 _++q.tail).length%2=0;exact(Lw 0x130240114012040604016427920113010030502016427940111040029001402940112041029) hT h4 FO (nm _ 2 rfl) (nm _ 4 rfl)) (by exact ed 0xffff04140110) rfl fun cI j4 p4 e7 I4 F4=>?_
 replace I4:BI cI b (q.mv j4 p4 (leB 2 (4:Nat)++(leB 4 ((q.tail.length:Int)+4)++q.tail)) 4):=I4;replace F4:Fr b bf (q.mv j1 p1 (leB 4 ((q.tail.length:Int)+4)++q.tail) 4) cI (q.mv j4 p4 (leB 2 (4:Nat)++(leB 4 ((q.tail.length:Int)+4)++q.tail)) 4):=F4;refine fV (n:=n) I4 rfl (x:=8) (by show(leB 2 _++(leB 4 _++q.tail)).length≤_;exact(aZ 0x2328041000601110400291f400411009) ht N9) (by show(leB 2 _++(leB 4 _++q.tail)).length%2=0;exact(Lw 0x130240114012040604016427920113010030502016427960111040029001402940112041029) hT h4 N9 (nm _ 2 rfl) (nm _ 4 rfl)) (by exact ed 0xffff04180110) rfl fun dO j5 p5 e8 I5 F5=>?_
 replace I5:BI dO b (q.mv j5 p5 (leB 2 (8:Nat)++(leB 2 (4:Nat)++(leB 4 ((q.tail.length:Int)+4)++q.tail))) 4):=I5;replace F5:Fr b cI (q.mv j4 p4 (leB 2 (4:Nat)++(leB 4 ((q.tail.length:Int)+4)++q.tail)) 4) dO (q.mv j5 p5 (leB 2 (8:Nat)++(leB 2 (4:Nat)++(leB 4 ((q.tail.length:Int)+4)++q.tail))) 4):=F5;refine fV (n:=n) I5 rfl (x:=6) (by show(leB 2 _++(leB 2 _++(leB 4 _++q.tail))).length≤_;exact(aZ 0x2328041000801110400291f400411009) ht OU) (by show(leB 2 _++(leB 2 _++(leB 4 _++q.tail))).length%2=0;exact(Lw 0x130240114012040604016427920113010030502016427980111040029001402940112041029) hT h4 OU (nm _ 2 rfl) (nm _ 4 rfl)) (by exact ed 0xffff04160110) rfl fun et j6 p6 e9 I6 F6=>?_
 replace I6:BI et b (q.mv j6 p6 (leB 2 (6:Nat)++(leB 2 (8:Nat)++(leB 2 (4:Nat)++(leB 4 ((q.tail.length:Int)+4)++q.tail)))) 4):=I6;replace F6:Fr b dO (q.mv j5 p5 (leB 2 (8:Nat)++(leB 2 (4:Nat)++(leB 4 ((q.tail.length:Int)+4)++q.tail))) 4) et (q.mv j6 p6 (leB 2 (6:Nat)++(leB 2 (8:Nat)++(leB 2 (4:Nat)++(leB 4 ((q.tail.length:Int)+4)++q.tail)))) 4):=F6;haveI N5:=g1 I5 mz;haveI MP:dO[c]?=some (.list [.int (q.tail.length:Int)]):=I5.rV (c,[(q.tail.length:Int)]) mz;obtain⟨w1,I7,F7⟩:=I6.mid (y:=leB 2 (6:Nat)++(leB 2 (8:Nat)++leB 2 (4:Nat))) (z:=leB 4 ((q.tail.length:Int)+4)) (u:=q.tail) (x:=leB 4 6) (by show leB 2 _++(leB 2 _++(leB 2 _++(leB 4 _++_)))=_;simp[List.append_assoc]) (by simp[ai]);replace w1:putAt (p6++(leB 2 (6:Nat)++(leB 2 (8:Nat)++(leB 2 (4:Nat)++(leB 4 ((q.tail.length:Int)+4)++q.tail))))) (p6.length+(leB 2 (6:Nat)++(leB 2 (8:Nat)++leB 2 (4:Nat))).length) (leB 4 6)=p6++((leB 2 (6:Nat)++(leB 2 (8:Nat)++leB 2 (4:Nat)))++(leB 4 6++q.tail)):=w1;have hr:(leB 2 (6:Nat)++(leB 2 (8:Nat)++leB 2 (4:Nat)))++(leB 4 6++q.tail)=eg q.tail:=by simp[eg,List.append_assoc]
 rw[hr] at w1;replace I7:BI (et.set j6 (.aJ (p6++((leB 2 (6:Nat)++(leB 2 (8:Nat)++leB 2 (4:Nat)))++(leB 4 6++q.tail))))) b (q.mv j6 p6 ((leB 2 (6:Nat)++(leB 2 (8:Nat)++leB 2 (4:Nat)))++(leB 4 6++q.tail)) 4):=I7;replace F7:Fr b et (q.mv j6 p6 (leB 2 (6:Nat)++(leB 2 (8:Nat)++(leB 2 (4:Nat)++(leB 4 ((q.tail.length:Int)+4)++q.tail)))) 4) (et.set j6 (.aJ (p6++((leB 2 (6:Nat)++(leB 2 (8:Nat)++leB 2 (4:Nat)))++(leB 4 6++q.tail))))) (q.mv j6 p6 ((leB 2 (6:Nat)++(leB 2 (8:Nat)++leB 2 (4:Nat)))++(leB 4 6++q.tail)) 4):=F7;rw[hr] at I7 F7;haveI P0:et[j6]?=some (.aJ (p6++(leB 2 (6:Nat)++(leB 2 (8:Nat)++(leB 2 (4:Nat)++(leB 4 ((q.tail.length:Int)+4)++q.tail)))))):=I6.bytes;haveI JR:p6.length+(leB 2 (6:Nat)++(leB 2 (8:Nat)++(leB 2 (4:Nat)++(leB 4 ((q.tail.length:Int)+4)++q.tail)))).length≤32000:=I6.sz;have Fp:(p6++(leB 2 (6:Nat)++(leB 2 (8:Nat)++(leB 2 (4:Nat)++(leB 4 ((q.tail.length:Int)+4)++q.tail))))).length=p6.length+(q.tail.length+10):=by rw[List.length_append,LR]
 haveI zI:=eO (n:=n+3) BD P0 (p:=((p6.length+6:Nat):Int)) (x:=6) (by rw[Fp];exact(cM 0xf4240051a01110400407d000412000409a0111042029) LR JR) (by exact aO 0x601100480023) (by rw[Fp];exact aZ 0xa011104004840126011004843) (by simp) (by simp);haveI w2:(((p6.length+6:Nat):Int)).toNat=p6.length+(leB 2 (6:Nat)++(leB 2 (8:Nat)++leB 2 (4:Nat))).length:=by simp[ai]<;>exact aO 0x601100460120084a2
 rw[w2,w1] at zI;haveI b6:Sv.bcall .len [.obj j6] et=.ok (.int ((p6.length+(q.tail.length+10):Nat):Int)) et:=by haveI:=I6.gl0;rw[←LR];exact this
 haveI OC:ah et 0 (.obj b)=some (.obj j6):=I6.g0;haveI s6:aq .sub (.int ((p6.length+(q.tail.length+10):Nat):Int)) (.int ((q.tail.length+4:Nat):Int))=some (.int ((p6.length+6:Nat):Int)):=V.mw (by exact aZ 0x6011004840111048a011104004855);haveI o6:run tb fns (n+4) bJ [.obj b] none et=.ok (.int ((q.tail.length+10:Nat):Int)) et:=by rw[←LR];exact bK (n:=n+3) I6
 haveI s7:aq .sub (.int ((q.tail.length+10:Nat):Int)) (.int ((q.tail.length+4:Nat):Int))=some (.int 6):=V.mw (by exact aO 0x601240110048a011004855);haveI Rw:(eg q.tail).length=q.tail.length+10:=by simp[eg,ai]<;>exact aO 0xa01100400401142011420114201142
 generalize QN:et.set j6 (.aJ (p6++eg q.tail))=gz at *;haveI o7:run tb fns (n+4) bJ [.obj b] none gz=.ok (.int ((q.tail.length+10:Nat):Int)) gz:=by rw[←Rw];exact bK (n:=n+3) I7
 haveI K0:ah gz 10 (.obj b)=some (.obj q.jv):=I7.g10;haveI L9:gz[q.jv]?=some (.bo q.vt):=I7.tM;haveI LM:∃kW,cP gz (.obj q.jv) (.tup [.int 4,.int 8]) (.int ((q.tail.length+10:Nat):Int))=some (gz.set q.jv (.bo kW)):=by
  refine⟨fy q.vt [4,8] (.int ((q.tail.length+10:Nat):Int)),?_⟩;haveI hs:ky (.bo q.vt)<10000:=by show q.vt.length<_;rcases hv with hv|⟨v,_,hv⟩<;>rw[hv]<;>simp
  exact V.JW L9 hs rfl rfl
 obtain⟨kW,LM⟩:=LM;obtain⟨I8,F8⟩:=I7.EW (l':=kW);replace I8:BI (gz.set q.jv (.bo kW)) b ((q.mv j6 p6 (eg q.tail) 4).vT kW):=I8;replace F8:Fr b gz (q.mv j6 p6 (eg q.tail) 4) (gz.set q.jv (.bo kW)) ((q.mv j6 p6 (eg q.tail) 4).vT kW):=F8;refine I8.DE fun Jw LX I9 F9=>?_
 replace e7:run tb fns (n+4) aG [.obj b,.int 4] none bf=.ok .none cI:=e7;replace e8:run tb fns (n+4) aG [.obj b,.int 8] none cI=.ok .none dO:=e8;replace e9:run tb fns (n+4) aG [.obj b,.int 6] none dO=.ok .none et:=e9;refine kz Jw j6 p6 kW ?_ I9 (F3.trans (F4.trans (F5.trans (F6.trans (F7.trans (F8.trans F9))))));exact DH (Z:=(q.tail.length:Int)) (T:=(T:Int)) (by exact(aZ 0x20085640111040029) hT) I e1 I1 e2 Im um s0 k2 e3 B5 g7 s1 k3 e4 I3 e5 g10 k5 e6 Je Cd e7 I4 e8 I5 N5 MP e9 I6 OC b6 s6 o6 s7 zI I7 o7 K0 LM LX
end
end
section
section
variable {n:Nat}{st:St}{b:Nat}{q:Bq}
theorem nS(I:BI st b q){c:Nat}(cS:q.ne=true)(mz:q.cv=some (c,[(q.tail.length:Int)])){T:Nat}(AP:q.oe=.int T)(hT:q.tail.length=T+4)(h4:T%4=0)(ht:q.tail.length≤8000)(hv:oW q.vt)(qh:q.ma=4){Pz:Prop}(kz:∀st' j p kW,run tb fns (n+6) dC [.obj b] none st=.ok (.int ((q.tail.length+4:Nat):Int)) st'→BI st' b ((((q.nE false).mv j p (eg q.tail) 4).vT kW).cV none)→Fr b st q st' ((((q.nE false).mv j p (eg q.tail) 4).vT kW).cV none)→Pz):Pz:=by
 haveI a1:=de (n:=n+4) I cS;refine I.hB false fun af a2 I1 F1=>?_
 refine qN (n:=n) I1 (c:=c) mz AP hT h4 ht hv qh fun st' j p kW e I2 F2=>?_
 replace e:run tb fns (n+5) bx [.obj b] none af=.ok (.int ((q.tail.length+4:Nat):Int)) st':=e;refine kz st' j p kW ?_ I2 (F1.trans F2);apply V.fA (l:=[some (.obj b)]) rfl rfl rfl (fl:=.ret _);unfold gC
 repeat walk_at "ev"
theorem H7:0<4:=(ed 0x40110011)
theorem Ie:4=1∨4=2∨4=4:=(ed 0x40114011220114011281011401128)
theorem GA:∀(x:Nat),x≤100→4*x≤500:=fun x0 h0=>(aO 0x1f40310040160640210009) h0
theorem GV:∀(x:Nat),x≤8000→x≤10000:=fun x0 h0=>(aO 0x27100410001f400410009) h0
theorem FC:∀(x:Int),x≤4→max x 4=4:=fun x0 h0=>(fz 0x4012401200b540120039) h0
theorem HI:4=1∨4=2∨4=4:=(ed 0x40114011220114011281011401128)
theorem Ga:∀(x:Nat),x≤100→4*x≤500:=fun x0 h0=>(aO 0x1f40310040160640210009) h0
theorem Gr:∀(x:Nat),x≤8000→x≤10000:=fun x0 h0=>(aO 0x27100410001f400410009) h0
theorem mf(I:BI st b q){k:Nat}(cS:q.ne=false)(h4:q.tail.length%4=0)(ht:q.tail.length≤8000)(hk:k≤100)(qh:q.ma≤4){Pz:Prop}(kz:∀st' j p,run tb fns (n+3) eI [.obj b,.int 4,.int k,.int 4] none st=.ok (.int (q.tail.length:Int)) st'→4+4*k≤p.length→BI st' b (((q.nE true).vN (some (.int k))).mv j p q.tail 4)→Fr b st q st' (((q.nE true).vN (some (.int k))).mv j p q.tail 4)→Pz):Pz:=by
 have lS:al 4 (4*k) q.tail=q.tail:=lM (BX h4 (Nat.mul_mod_right 4 k)) (by exact H7);haveI a1:=d9 (n:=n+1) I cS;refine I.hB true fun af a2 I1 F1=>?_
 refine I1.nX (.int k) rfl fun aU a3 I2 F2=>?_
 refine ek (n:=n) I2 (s:=4) (a:=4*k) (by exact Ie) (by exact GA _ hk) (by show q.tail.length≤_;exact GV _ ht) fun bf j3 p3 a4 h3 Mv I3 F3=>?_
 replace I3:BI bf b (((q.nE true).vN (some (.int k))).mv j3 p3 (al 4 (4*k) q.tail) (max q.ma 4)):=I3;replace F3:Fr b aU ((q.nE true).vN (some (.int k))) bf (((q.nE true).vN (some (.int k))).mv j3 p3 (al 4 (4*k) q.tail) (max q.ma 4)):=F3;have hm:max q.ma (4:Int)=4:=FC _ qh;rw[lS,hm] at I3 F3;refine ek (n:=n) I3 (s:=4) (a:=4*k) (by exact HI) (by exact Ga _ hk) (by show q.tail.length≤_;exact Gr _ ht) fun cI j4 p4 a5 Ht P7 I4 F4=>?_
 replace I4:BI cI b (((q.nE true).vN (some (.int k))).mv j4 p4 (al 4 (4*k) q.tail) 4):=I4;replace F4:Fr b bf (((q.nE true).vN (some (.int k))).mv j3 p3 q.tail 4) cI (((q.nE true).vN (some (.int k))).mv j4 p4 (al 4 (4*k) q.tail) 4):=F4;rw[lS] at I4 F4;haveI a6:run tb fns (n+2) bJ [.obj b] none cI=.ok (.int (q.tail.length:Int)) cI:=(bK (n:=n+1) I4 :);have m1:aq .mul (.int 4) (.int (k:Int))=some (.int ((4*k:Nat):Int)):=by
  rw[V.mulL rfl];congr 2
 replace a4:run tb fns (n+2) ir [.obj b,.int 4,.int ((4*k:Nat):Int)] none aU=.ok .none bf:=a4;replace a5:run tb fns (n+2) ir [.obj b,.int 4,.int ((4*k:Nat):Int)] none bf=.ok .none cI:=a5;refine kz cI j4 p4 ?_ Ht I4 (F1.trans (F2.trans (F3.trans F4)));apply V.runN (l:=[some (.obj b),some (.int 4),some (.int (k:Int)),some (.int 4)]) rfl rfl rfl (fl:=.ret _);unfold gA
 repeat walk_at "ev"
theorem jh(I:BI st b q){off:Nat}(h4:q.tail.length%4=0)(ht:q.tail.length≤8000)(ho:off≤q.tail.length)(qh:q.ma=4){Pz:Prop}(kz:∀st' j p,run tb fns (n+3) bj [.obj b,.int off] none st=.ok .none st'→q.pre.length≤p.length+4→BI st' b (q.mv j p (leB 4 (q.tail.length-off+4:Nat)++q.tail) 4)→Fr b st q st' (q.mv j p (leB 4 (q.tail.length-off+4:Nat)++q.tail) 4)→Pz):Pz:=by
 refine kx (n:=n) I (off:=off) (by exact(aO 0x23280410001f400410009) ht) ho fun st' j p e h I1 F1=>?_
 have lS:al 4 0 q.tail=q.tail:=lM h4 (by exact ed 0x40110011);haveI DA:pd 4 q.tail.length=0:=by simp[pd,h4]
 have hm:max q.ma (4:Int)=4:=(fz 0x4012401200b540120059) qh;rw[lS,hm] at I1 F1;exact kz st' j p e (by exact(cM 0x4011104000001202920401110440009) h DA) I1 F1
noncomputable def xG(t:List UInt8)(root:Nat):List UInt8:=leB 4 (t.length+2-root+4:Nat)++(List.replicate 2 0++t)
theorem HU:∀(x dR gx tZ HO Iu Ql:Nat),x=2→4*dR+gx=tZ+4∧gx<4→4*HO+Iu=4-gx∧Iu<4→4*Ql+x=tZ∧x<4→Iu=2:=fun x0 x1 x2 x3 x4 x5 x6 h0 h1 h2 h3=>(Lw 0x2011202401130100306040164279401120110401152050401642794011101401100410404016427920113029) h0 h1 h2 h3
theorem uS(I:BI st b q){root:Nat}(h4:q.tail.length%4=2)(ht:q.tail.length≤8000)(hr:root≤q.tail.length)(qh:q.ma=4){Pz:Prop}(kz:∀st' j p,run tb fns (n+5) mD [.obj b,.int root] none st=.ok (.int (p.length:Int)) st'→BI st' b { q.mv j p (xG q.tail root) 4 with fin:=true }→Fr b st q st' { q.mv j p (xG q.tail root) 4 with fin:=true }→Pz):Pz:=by
 haveI a0:=fJ (n:=n+2) (st:=st) FP.row (x:=(root:Int)) (by simp) (by simp;exact(aZ 0xffffffff08200831000091f400411009) ht hr);haveI g5:ah st 5 (.obj b)=some (.int 4):=by haveI:=I.g5;rw[qh] at this;exact this
 refine ek (n:=n+1) I (s:=4) (a:=4) (by exact ed 0x40114011220114011281011401128) (by exact ed 0x1f403140110) (by exact(aO 0x27100410001f400410009) ht) fun af j1 p1 a1 h1 r7 I1 F1=>?_
 have lS:al 4 4 q.tail=List.replicate 2 0++q.tail:=by
  haveI:pd 4 (q.tail.length+4)=2:=by unfold pd;exact HU _ _ _ _ _ _ _ h4 (nm _ 4 rfl) (nm _ 4 rfl) (nm _ 4 rfl)
  simp[al,this]
 have hm:max q.ma ((4:Nat):Int)=4:=(fz 0x4012401200b540120059) qh;rw[lS,hm] at I1 F1;refine jh (n:=n) I1 (off:=root) (by show(List.replicate 2 (0:UInt8)++q.tail).length%4=0;simp;exact(xg 0x1102401120100204040164279401110110111011004410304016427920112029) h4 (nm _ 4 rfl) (nm _ 4 rfl)) (by show(List.replicate 2 (0:UInt8)++q.tail).length≤8000;simp;exact(cM 0x1f3e0410004011101001020401642791f40041000920111029) h4 ht (nm _ 4 rfl)) (by show root≤(List.replicate 2 (0:UInt8)++q.tail).length;simp;exact(aZ 0x101110111044000100009) hr) rfl fun aU j2 p2 a2 h2 I2 F2=>?_
 have hl:(List.replicate 2 (0:UInt8)++q.tail).length=q.tail.length+2:=by simp<;>omega
 replace I2:BI aU b (q.mv j2 p2 (leB 4 ((List.replicate 2 (0:UInt8)++q.tail).length-root+4:Nat)++(List.replicate 2 0++q.tail)) 4):=I2;replace F2:Fr b af (q.mv j1 p1 (List.replicate 2 0++q.tail) 4) aU (q.mv j2 p2 (leB 4 ((List.replicate 2 (0:UInt8)++q.tail).length-root+4:Nat)++(List.replicate 2 0++q.tail)) 4):=F2;rw[hl] at I2 F2;replace I2:BI aU b (q.mv j2 p2 (xG q.tail root) 4):=I2;refine I2.xb true fun bf a3 I3 F3=>?_
 haveI g4:ah bf 4 (.obj b)=some (.int (p2.length:Int)):=I3.g4;haveI f4:run tb fns (n+4) dK [.obj b,.int root,.bool false] (some (3,.none)) st=.ok (.int (p2.length:Int)) bf:=by
  replace a1:run tb fns (n+3) ir [.obj b,.int 4,.int 4] none st=.ok .none af:=a1;apply V.runN (l:=[some (.obj b),some (.int (root:Int)),some (.bool false),some .none,none,none,none]) rfl rfl rfl (fl:=.ret _);unfold dI
  repeat walk_at "ev"
 refine kz bf j2 p2 ?_ I3 (F1.trans (F2.trans F3));apply V.runN (l:=[some (.obj b),some (.int (root:Int)),some .none]) rfl rfl rfl (fl:=.ret _);unfold rY
 repeat walk_at "ev"
theorem MI{st:St}{j:Nat}{b:List UInt8}(hj:st[j]?=some (.aJ b)){x:Option AV}{l:Option Int}(h1:fB x=some l)(c2:b.length≤1000000):cw st (.obj j) x none false=some (.aJ (cut b l none)):=
 V.QX hj h1 rfl c2
theorem NV:cut (p++t) (some (p.length:Int)) none=t:=by
 haveI c1:clipAt (p++t).length (p.length:Int)=p.length:=i6 (by simp)
 show((p++t).drop (clipAt (p++t).length (p.length:Int))).take ((p++t).length-clipAt (p++t).length (p.length:Int))=t
 rw[c1,List.drop_left,List.take_of_length_le (by simp)]
theorem uy(hj:st[j]?=some (.aJ (p++t)))(hz:p.length+t.length≤1000000):cw st (.obj j) (some (.int (p.length:Int))) none false=some (.aJ t):=
 (MI hj (i8 (by exact(aZ 0xf4240051000f42400511000409) hz)) (by rw[List.length_append];exact hz)).trans (by rw[NV])
theorem vf(I:BI st b q)(hf:q.fin=true):run tb fns (n+1) mF [.obj b] none st=.ok (.aJ q.tail) st:=by
 haveI g2:=I.g2;rw[hf] at g2;haveI r6:=I.sz;haveI e1:=uy I.bytes (by exact(aZ 0xf42400511000407d000411000409) r6);apply V.runN (l:=[some (.obj b)]) rfl rfl rfl (fl:=.ret _);unfold rF
 repeat walk_at "ev"
end
end
section
section
variable {n:Nat}{st:St}{b:Nat}{q:Bq}
theorem xT(nd:(q.own b).Nodup):(({ q with sh:=none }:Bq).own b).Nodup:=by
 show([b,b+1,q.jb,q.jv]++oI q.cv++[]).Nodup
 rw[List.append_nil];exact(List.nodup_append.mp nd).1
theorem BI.NT(I:BI st b q){Pz:Prop}(kz:∀st',ak st (.obj b) 8 .none=some st'→BI st' b { q with sh:=none }→Fr b st q st' { q with sh:=none }→Pz):Pz:=by
 refine kz _ (I.gD 8 _ (by decide)) (I.re (q':={ q with sh:=none }) 8 .none rfl rfl rfl I.tM I.rV (fun p hp=>by cases hp) (xT I.nodup) I.mu I.me) ⟨ by simp,fun i hi gZ=>⟨?_,fun hm=>?_⟩⟩
 ·rw[List.getElem?_set_ne (fun e=>gZ (by subst e;simp[Bq.own]))]
 ·rcases List.mem_append.mp hm with h|h
  ·exact gZ (List.mem_append_left _ h)
  ·simp[oI] at h
theorem B1(nd:(q.own b).Nodup)(hd:d∉q.own b):(({ q with jv:=d,vt:=[] }:Bq).own b).Nodup:=by
 have wI:d≠b∧d≠b+1∧d≠q.jb∧d∉oI q.cv∧d∉oI q.sh:=by
  refine⟨fun e=>hd ?_,fun e=>hd ?_,fun e=>hd ?_,fun e=>hd ?_,fun e=>hd ?_⟩<;>simp[Bq.own,e]
 simp only[Bq.own,List.cons_append,List.nil_append,List.nodup_cons,List.mem_cons,List.mem_append,not_or] at nd ⊢;obtain⟨⟨a1,a2,a3,a4⟩,⟨b1,b2,b3⟩,⟨c1,c2⟩,d1,rest⟩:=nd;obtain⟨h1,h2,h3,h4,h5⟩:=wI;exact⟨⟨a1,a2,h1.symm,a4⟩,⟨b1,h2.symm,b3⟩,⟨h3.symm,c2⟩,⟨h4,h5⟩,rest⟩
theorem BI.JZ(I:BI st b q){Pz:Prop}(kz:∀st',ak (st++[.bo []]) (.obj b) 10 (.obj st.length)=some st'→BI st' b { q with jv:=st.length,vt:=[] }→Fr b st q st' { q with jv:=st.length,vt:=[] }→Pz):Pz:=by
 haveI hn:st.length∉q.own b:=fun h=>absurd (I.EP _ h) (by exact aO 0x16)
 have Ia:=I.app [.bo []];refine kz _ (Ia.gD 10 _ (by decide)) (Ia.re (q':={ q with jv:=st.length,vt:=[] }) 10 (.obj st.length) rfl rfl rfl (by simp) Ia.rV Ia.uu (B1 I.nodup hn) I.mu I.me) ⟨ by simp,fun i hi gZ=>⟨?_,fun hm=>?_⟩⟩
 ·rw[List.getElem?_set_ne (fun e=>gZ (by subst e;simp[Bq.own])),List.getElem?_append_left hi]
 ·simp only[Bq.own,List.mem_append,List.mem_cons,List.not_mem_nil,or_false] at hm gZ
  rcases hm with ((h|h|h|h)|h)|h
  ·exact gZ (by simp[h])
  ·exact gZ (by simp[h])
  ·exact gZ (by simp[h])
  ·exact(aZ 0x100026100019) hi h
  ·exact gZ (by simp[h])
  ·exact gZ (by simp[h])
theorem BI.HM(I:BI st b q){Pz:Prop}(kz:∀st',ak st (.obj b) 3 (.bool false)=some st'→BI st' b q→Fr b st q st' q→Pz):Pz:=by
 obtain⟨I7,F7⟩:=I.put (q':=q) rfl rfl rfl rfl rfl rfl I.mu I.me;exact kz _ (I.gD 3 (.bool false) (by decide)) I7 F7
theorem BI.BZ(I:BI st b q){Pz:Prop}(kz:∀st',ak st (.obj b) 4 (.int ((q.pre.length+q.tail.length:Nat):Int))=some st'→BI st' b { q with pre:=q.pre++q.tail,tail:=[] }→Fr b st q st' { q with pre:=q.pre++q.tail,tail:=[] }→Pz):Pz:=by
 obtain⟨I2,F2⟩:=I.put (q':={ q with pre:=q.pre++q.tail,tail:=[] }) rfl rfl (by simp) rfl rfl rfl I.mu I.me;haveI Qg:q.sl.set 4 (some (.int ((q.pre.length+q.tail.length:Nat):Int)))=Bq.sl { q with pre:=q.pre++q.tail,tail:=[] }:=by simp[Bq.sl]
 exact kz _ (by rw[I.gD 4 _ (by decide),Qg]) I2 F2
theorem p8(I:BI st b q){Pz:Prop}(kz:∀st' q',run tb fns (n+1) rq [.obj b] none st=.ok .none st'→BI st' b q'→Fr b st q st' q'→q'.tail=[]∧q'.ma=1∧q'.ne=false∧q'.fin=false∧q'.sh=none∧q'.vt=[]∧q'.cv=none→Pz):Pz:=by
 haveI r6:=I.sz;refine I.DE fun af a1 I1 F1=>?_
 haveI b1:d7 af (.obj q.jb)=.ok (.int ((q.pre.length+q.tail.length:Nat):Int)) af:=I1.gl0;haveI RZ:Sv.bcall .len [.obj q.jb] af=.ok (.int ((q.pre.length+q.tail.length:Nat):Int)) af:=b1;haveI g0:ah af 0 (.obj b)=some (.obj q.jb):=I1.g0;refine I1.BZ fun aU a2 I2 F2=>?_
 replace a2:ak af (.obj b) 4 (.int ((q.pre.length+q.tail.length:Nat):Int))=some aU:=a2;refine I2.Gz 1 fun bf a3 I3 F3=>?_
 refine I3.zQ .none rfl fun cI a4 I4 F4=>?_
 refine I4.JZ fun dO a5 I5 F5=>?_
 refine I5.hB false fun et a6 I6 F6=>?_
 refine I6.HM fun gz a7 I7 F7=>?_
 refine I7.NT fun qM a8 I8 F8=>?_
 refine I8.nX .none rfl fun Jw a9 I9 F9=>?_
 refine I9.xb false fun Nr Rd Of O1=>?_
 refine kz Nr _ ?_ Of (F1.trans (F2.trans (F3.trans (F4.trans (F5.trans (F6.trans (F7.trans (F8.trans (F9.trans O1))))))))) ⟨ rfl,rfl,rfl,rfl,rfl,rfl,rfl⟩;clear F7 F1 F2 F3 F4 F5 F6 F8 F9 O1 I2 I3 I4 I5 I6 I7 I8 I9 Of;apply V.runN (l:=[some (.obj b)]) rfl rfl rfl (fl:=.next);unfold uV
 repeat walk_at "ev"
noncomputable def S0(st:St)(x:List (Option AV))(l:List ao):St:=st++(.inst x::.aj []::l)
theorem S0.set(hi:i<x.length):ak (S0 st x l) (.obj st.length) i v=some (S0 st (x.set i (some v)) l):=by
 haveI h:(S0 st x l)[st.length]?=some (.inst x):=by simp[S0]
 simp only[ak,h,if_pos hi];simp only[S0,List.set_append_right _ _ (Nat.le_refl _),Nat.sub_self,List.set_cons_zero]
theorem S0.len:(S0 st x l).length=st.length+(l.length+2):=by simp[S0]
theorem S0.app(o:ao):S0 st x l++[o]=S0 st x (l++[o]):=by simp[S0]
theorem xZ(h0:0≤k)(h1:k≤2147483648)(hb:Sv.bcall .bytearray [.int k] s0=.ok (.obj j) s1)(e0:ak s1 (.obj a) 0 (.obj j)=some s2)
(e1:ak s2 (.obj a) 1 .none=some s3)(e2:ak s3 (.obj a) 4 (.int k)=some s4)(e3:ak s4 (.obj a) 5 (.int 1)=some s5)(e4:ak s5 (.obj a) 7 .none=some s6)
(e5:ak (s6++[.bo []]) (.obj a) 10 (.obj s6.length)=some s7)(e6:ak s7 (.obj a) 6 (.bool false)=some s8)(e7:ak s8 (.obj a) 3 (.bool false)=some s9)(e8:ak s9 (.obj a) 8 .none=some Rt)(e9:ak Rt (.obj a) 2 (.bool false)=some Q8) :
 run tb fns (n+1) iN [.obj a,.int k] none s0=.ok .none Q8:=by
 apply V.runN (l:=[some (.obj a),some (.int k),none]) rfl rfl rfl (fl:=.next);unfold la
 repeat walk_at "ev"
theorem Bj{k:Nat}(hk:k≤1000){Pz:Prop}(kz:∀st' q',run tb fns (n+1) iN [.obj st.length,.int k] none (st++[.inst (List.replicate 11 none),.aj []])=.ok .none st'→BI st' st.length q'→st.length≤st'.length→(∀i,i<st.length→st'[i]?=st[i]?∧i∉q'.own st.length)→q'.tail=[]→q'.ma=1→q'.ne=false→q'.fin=false→q'.sh=none→q'.vt=[]→q'.cv=none→Pz):Pz:=by
 haveI hb:Sv.bcall .bytearray [.int (k:Int)] (S0 st (List.replicate 11 none) [])=.ok (.obj (S0 st (List.replicate 11 none) []).length) (S0 st (List.replicate 11 none) []++[.aJ (List.replicate k 0)]):=by
  show(if (0:Int)≤(k:Int)∧(k:Int)≤1000000 then R.ok _ _ else _)=_
  rw[if_pos ⟨by exact aO 0x80023,by exact(aO 0xf424005200833e80310009) hk⟩];rfl
 rw[S0.app,S0.len] at hb;simp only[List.nil_append,List.length_nil,Nat.zero_add] at hb;haveI e5:ak (S0 st [some (.obj (st.length+2)),some .none,none,none,some (.int k),some (.int 1),none,some .none,none,none,none] [.aJ (List.replicate k 0)]++[.bo []]) (.obj st.length) 10 (.obj (S0 st [some (.obj (st.length+2)),some .none,none,none,some (.int k),some (.int 1),none,some .none,none,none,none] [.aJ (List.replicate k 0)]).length)=some (S0 st [some (.obj (st.length+2)),some .none,none,none,some (.int k),some (.int 1),none,some .none,none,none,some (.obj (st.length+3))] [.aJ (List.replicate k 0),.bo []]):=by
  rw[S0.app,S0.len];exact S0.set (by simp)
 haveI za:=xZ (n:=n) (a:=st.length) (h0:=(by exact aO 0x80023:(0:Int)≤(k:Int))) (by exact(aO 0x8000000008200833e80310009) hk) hb
  (S0.set (by simp)) (s3:=S0 st [some (.obj (st.length+2)),some .none,none,none,none,none,none,none,none,none,none] [.aJ (List.replicate k 0)]) (S0.set (by simp))
  (s4:=S0 st [some (.obj (st.length+2)),some .none,none,none,some (.int k),none,none,none,none,none,none] [.aJ (List.replicate k 0)]) (S0.set (by simp))
  (s5:=S0 st [some (.obj (st.length+2)),some .none,none,none,some (.int k),some (.int 1),none,none,none,none,none] [.aJ (List.replicate k 0)]) (S0.set (by simp))
  (s6:=S0 st [some (.obj (st.length+2)),some .none,none,none,some (.int k),some (.int 1),none,some .none,none,none,none] [.aJ (List.replicate k 0)]) (S0.set (by simp))
  e5 (S0.set (by simp)) (S0.set (by simp)) (S0.set (by simp)) (S0.set (by simp))
 refine kz _ ⟨st.length+2,st.length+3,List.replicate k 0,[],1,false,false,none,.none,none,none,[]⟩ za ⟨?_,?_,?_,?_,?_,?_,?_,?_,rfl,?_⟩ ?_ ?_ rfl rfl rfl rfl rfl rfl rfl
 ·simp[S0,Bq.sl,oV]
 ·simp[S0]
 ·simp[S0,List.getElem?_append_right]
 ·simp[S0,List.getElem?_append_right]
 ·intro p hp;cases hp
 ·intro p hp;cases hp
 ·simp[Bq.own,oI]
 ·simp;exact(aO 0x7d000410003e80310009) hk
 ·intro v hv;cases hv
 ·simp[S0]
 ·intro i hi
  refine⟨by simp only[S0];rw[List.getElem?_append_left hi],?_⟩;simp only[Bq.own,oI,List.mem_append,List.mem_cons,List.not_mem_nil,or_false];exact(aZ 0x301110400220111040028101110400281000286100019) hi
end
end
section
noncomputable def wd:Nat→AV
 |0=>.str ⟨#[]⟩
 |1=>.str ⟨#[97]⟩
 |2=>.str ⟨#[97,98]⟩
 |3=>.str ⟨#[233]⟩
 |4=>.str ⟨#[97,8364,98,99]⟩
 |5=>.bytes [97]
 |6=>.bytes [195,169]
 |_=>.bytes [97,98,99,100,101]
noncomputable def wo:Nat→List UInt8
 |0=>[]
 |1=>[97]
 |2=>[97,98]
 |3=>[195,169]
 |4=>[97,226,130,172,98,99]
 |5=>[97]
 |6=>[195,169]
 |_=>[97,98,99,100,101]
noncomputable def wk:Nat→Str⊕List UInt8
 |0=>.inl ⟨#[]⟩
 |1=>.inl ⟨#[97]⟩
 |2=>.inl ⟨#[97,98]⟩
 |3=>.inl ⟨#[233]⟩
 |4=>.inl ⟨#[97,8364,98,99]⟩
 |5=>.inr [97]
 |6=>.inr [195,169]
 |_=>.inr [97,98,99,100,101]
noncomputable def bN:List AV:=[wd 0,wd 1,wd 2,wd 3,wd 4,wd 5,wd 6,wd 7]
theorem ql(h:k<8):iG (wd k)=some (wk k):=(by decide +kernel:∀k<8,iG (wd k)=some (wk k)) k h
theorem u3:so ⟨#[233]⟩=some [195,169]:=by decide +kernel
theorem wW(h:k<8):Ea (wd k)=some (wo k):=(by decide +kernel:∀k<8,Ea (wd k)=some (wo k)) k h
theorem jy:(wo k).length≤6:=by
 rcases k with _|_|_|_|_|_|_|k<;>exact Nat.le_of_ble_eq_true rfl
theorem FR(hi:i<8)(hk:k<8)(h:wk i=wk k):i=k:=(by decide +kernel:∀i<8,∀k<8,wk i=wk k→i=k) i hi k hk h
theorem q8(h:k<8):bN[k]?=some (wd k):=by
 rcases k with _|_|_|_|_|_|_|_|k<;>first|rfl|exact((aO 0x801110111011101110111011101110111011004444444416) h).elim
section
variable {n:Nat}{st:St}
theorem EV(h:so s=some x):aD tb .encode (.str s) [.str (Str.ofString "utf-8")] st=.ok (.bytes x) st:=by
 show(if (Str.ofString "utf-8"==Str.ofString "utf-8")=true then R.ei st ((so s).map AV.bytes) else R.stuck)=_
 rw[if_pos (by simp),h];rfl
theorem yL:run tb fns (n+1) iB [] none st=.ok (.lst bN) st:=by
 haveI s0:Str.ofString ""=⟨#[]⟩:=rfl;haveI s1:Str.ofString "a"=⟨#[97]⟩:=rfl;haveI s2:Str.ofString "ab"=⟨#[97,98]⟩:=rfl;haveI s3:Str.ofString "bc"=⟨#[98,99]⟩:=rfl;haveI c1:Sv.bcall .chr [.int 233] st=.ok (.str ⟨#[233]⟩) st:=rfl;haveI c2:Sv.bcall .chr [.int 8364] st=.ok (.str ⟨#[8364]⟩) st:=rfl;haveI p1:aq .add (.str ⟨#[97]⟩) (.str ⟨#[8364]⟩)=some (.str ⟨#[97,8364]⟩):=rfl;haveI p2:aq .add (.str ⟨#[97,8364]⟩) (.str ⟨#[98,99]⟩)=some (.str ⟨#[97,8364,98,99]⟩):=rfl;haveI p3:cX st (.lst [wd 0,wd 1,wd 2,wd 3,wd 4]) (.int 3)=some (wd 3):=rfl;haveI p4:aq .add (.lst [wd 0,wd 1,wd 2,wd 3,wd 4]) (.lst [.bytes [97],.bytes [195,169],.bytes [97,98,99,100,101]])=some (.lst bN):=rfl;haveI e3:=EV (st:=st) u3;apply V.runN (l:=[none]) rfl rfl rfl (fl:=.ret _);unfold ic;rw[s0,s1,s2,s3];haveI hA:aC tb (Sv.run tb fns n) [none] (.list (.cons (.lit (.str ⟨#[]⟩)) (.cons (.lit (.str ⟨#[97]⟩)) (.cons (.lit (.str ⟨#[97,98]⟩)) (.cons (.bcall .chr (.cons (.lit (.int 233)) .nil)) (.cons (.bin .add (.bin .add (.lit (.str ⟨#[97]⟩)) (.bcall .chr (.cons (.lit (.int 8364)) .nil))) (.lit (.str ⟨#[98,99]⟩))) .nil)))))) st=.ok (.lst [wd 0,wd 1,wd 2,wd 3,wd 4]) st:=by
  show _=R.ok (AV.lst [.str ⟨#[]⟩,.str ⟨#[97]⟩,.str ⟨#[97,98]⟩,.str ⟨#[233]⟩,.str ⟨#[97,8364,98,99]⟩]) st
  repeat walk_at "ev"
 apply V.ssC (V.sAssignN hA rfl);apply V.ssKn;apply V.ssC
 ·apply V.sRet
  apply V.binn
  ·exact V.varr rfl
  ·apply V.lst
   apply V.esC V.litt;apply V.esC
   ·apply V.bmt (V.subb (V.varr rfl) V.litt p3) rfl (V.esC V.litt V.esN) e3
   ·exact V.esC V.litt V.esN
  ·exact p4
 ·rfl
theorem iE(hk:k<8):run tb fns (n+1) cG [wd k] none st=.ok (.bytes (wo k)) st:=by
 haveI ho:=wW hk;generalize wd k=w at *;cases w with
 |str s=>
  haveI e:=EV (st:=st) (show so s=some (wo k) from ho);apply V.runN (l:=[some (.str s)]) rfl rfl rfl (fl:=.ret _);unfold eb
  repeat walk_at "ev"
 |bytes s=>
  cases (ho);apply V.runN (l:=[some (.bytes (wo k))]) rfl rfl rfl (fl:=.ret _);unfold eb
  repeat walk_at "ev"
 |_=>cases (ho)
end
end
section
theorem jC:∀{l:List α},(∀x∈l,f x=g x)→l.find? f=l.find? g
 |[],_=>rfl
 |x::r,h=>by
  rw[List.find?_cons,List.find?_cons,h x (by simp),jC fun y hy=>h y (by simp[hy])]
noncomputable abbrev Made:=Nat×Bool×Nat
noncomputable def bg(m:Made):AV:=.tup [.int m.1,.bool m.2.1,.int m.2.2]
noncomputable def tR(kn:List (Nat×Nat)):List ((Str⊕List UInt8)×AV):=kn.map fun p=>(wk p.1,.int p.2)
noncomputable def ik(kn:List (Nat×Nat)):List (Int×AV):=kn.map fun p=>((p.1:Int),.int p.2)
noncomputable def kf(kn:List (Nat×Nat))(k:Nat):Option Nat:=(kn.find? fun p=>p.1=k).map (·.2)
theorem w7(h:∀p∈kn,p.1<8)(hk:k<8):aN (tR kn) (wk k)=(kf kn k).map fun p=>.int p:=by
 unfold aN kf tR;rw[List.find?_map]
 haveI:∀p∈kn,((fun kv:(Str⊕List UInt8)×AV=>decide (kv.1=wk k)) ∘ fun p:Nat×Nat=>(wk p.1,AV.int p.2)) p=decide (p.1=k):=fun p hp=>by
  simp only[Function.comp]
  by_cases e:p.1=k
  ·simp[e]
  ·haveI:wk p.1≠wk k:=fun q=>e (FR (h p hp) hk q)
   simp[e,this]
 rw[jC this];cases kn.find? fun p=>decide (p.1=k)<;>rfl
theorem jR{kn:List (Nat×Nat)}{k:Nat}:aN (ik kn) (k:Int)=(kf kn k).map fun p=>.int p:=by
 unfold aN kf ik;rw[List.find?_map]
 haveI:∀p∈kn,((fun kv:Int×AV=>decide (kv.1=(k:Int))) ∘ fun p:Nat×Nat=>((p.1:Int),AV.int p.2)) p=decide (p.1=k):=fun p hp=>by
  simp only[Function.comp]
  by_cases e:p.1=k
  ·simp[e]
  ·simp[e];exact(aZ 0x108008561000269) e
 rw[jC this];cases kn.find? fun p=>decide (p.1=k)<;>rfl
theorem H9(h:kf kn k=none):(ik kn).any (fun kv=>decide (kv.1=(k:Int)))=false:=by
 unfold kf at h;rw[Option.map_eq_none_iff,List.find?_eq_none] at h;simp only[ik,List.any_map,List.any_eq_false];intro p hp
 haveI:=h p hp
 simp at this ⊢;exact(aZ 0x108008561000269) this
inductive Step(k:Nat)(W:List UInt8)(kn:List (Nat×Nat)):Int→Made→List UInt8→List (Nat×Nat)→Prop where
 |hit {c:Int} {p:Nat} (h:c<5) (f:kf kn k=some p):Step k W kn c (k,false,p) W kn
 |fresh {c:Int} (h:c<5) (f:kf kn k=none):Step k W kn c (k,false,(bu (wo k) W).length) (bu (wo k) W) (kn++[(k,(bu (wo k) W).length)])
 |text {c:Int} (h:5≤c) (h':c<7):Step k W kn c (k,false,(bu (wo k) W).length) (bu (wo k) W) kn
 |row {c:Int} (h:7≤c):Step k W kn c (k,true,(gW (wo k) W).length) (gW (wo k) W) kn
section
variable {n:Nat}{st:St}{b:Nat}{q:Bq}
theorem Be{af aU:St}{b jk k:Nat}{num c:Int}{q0:Bq}{p:Nat}(I0:BI st b q0)(d1:aq .mod (.int (num.fdiv 8)) (.int 8)=some (.int (k:Int)))(d2:aq .mod (.int num) (.int 8)=some (.int c))(hc:c<5)
  (hw:cX st (.lst bN) (.int (k:Int))=some (wd k)) (e1:run tb fns (n+5) aP [.obj b,wd k] none st=.ok (.int (p:Int)) af) (k1:c6 af .setdefault (.obj jk)=true) (e2:aD tb .setdefault (.obj jk) [.int (k:Int),.int (p:Int)] af=.ok (.int (p:Int)) aU) :
  run tb fns (n+6) cU [.obj b,.int num,.lst bN,.obj jk] none st=.ok (bg (k,false,p)) aU:=by
 apply V.runN (l:=[some (.obj b),some (.int num),some (.lst bN),some (.obj jk),none,none,none]) rfl rfl rfl (fl:=.ret (bg (k,false,p)));unfold eW bg
 repeat walk_at "ev"
theorem HV{af:St}{b jk k:Nat}{num c:Int}{q0:Bq}{p:Nat}(I0:BI st b q0)(d1:aq .mod (.int (num.fdiv 8)) (.int 8)=some (.int (k:Int)))(d2:aq .mod (.int num) (.int 8)=some (.int c))(hc:¬c<5)(B8:c<7)
  (hw:cX st (.lst bN) (.int (k:Int))=some (wd k)) (e1:run tb fns (n+5) bQ [.obj b,wd k] none st=.ok (.int (p:Int)) af) :
  run tb fns (n+6) cU [.obj b,.int num,.lst bN,.obj jk] none st=.ok (bg (k,false,p)) af:=by
 apply V.runN (l:=[some (.obj b),some (.int num),some (.lst bN),some (.obj jk),none,none,none]) rfl rfl rfl (fl:=.ret (bg (k,false,p)));unfold eW bg
 repeat walk_at "ev"
theorem Hz{af:St}{b jk k:Nat}{num c:Int}{q0:Bq}{p:Nat}{x:AV}(I0:BI st b q0)(d1:aq .mod (.int (num.fdiv 8)) (.int 8)=some (.int (k:Int)))(d2:aq .mod (.int num) (.int 8)=some (.int c))(hc:¬c<5)(B8:¬c<7)
  (hw:cX st (.lst bN) (.int (k:Int))=some (wd k)) (e0:run tb fns (n+5) cG [wd k] none st=.ok x st) (e1:run tb fns (n+5) bI [.obj b,x] none st=.ok (.int (p:Int)) af) :
  run tb fns (n+6) cU [.obj b,.int num,.lst bN,.obj jk] none st=.ok (bg (k,true,p)) af:=by
 apply V.runN (l:=[some (.obj b),some (.int num),some (.lst bN),some (.obj jk),none,none,none]) rfl rfl rfl (fl:=.ret (bg (k,true,p)));unfold eW bg
 repeat walk_at "ev"
structure SI(st:St)(b:Nat)(q:Bq)(jm jk jt:Nat)(made:List Made)(kn:List (Nat×Nat)):Prop where
 bi:BI st b q
 ne:q.ne=false
 fin:q.fin=false
 sh:gX q.sh=tR kn
 Ez:∀p∈kn,p.1<8
 Cm:kn.length≤100
 vt:oW q.vt
 t4:q.tail.length%4=0
 ma:q.ma≤4
 om:st[jm]?=some (.list (made.map bg))
 ok:st[jk]?=some (.aj (ik kn))
 ot:st[jt]?=some (.list (made.map fun m=>.int m.2.2))
 nm:jm∉q.own b
 nk:jk∉q.own b
 nt:jt∉q.own b
 ap:jm≠jk∧jm≠jt∧jk≠jt
theorem SI.K4(S:SI st b q jm jk jt made kn):jm<st.length∧jk<st.length∧jt<st.length:=
 ⟨(List.getElem?_eq_some_iff.mp S.om).1,(List.getElem?_eq_some_iff.mp S.ok).1,(List.getElem?_eq_some_iff.mp S.ot).1⟩
theorem Oa(m:Nat):(m+pd 4 m)%4=0:=
 haveI h:∀r<4,(r+(4-r)%4)%4=0:=by decide
 (Nat.mod_add_mod m 4 _).symm.trans (h (m%4) (Nat.mod_lt _ (by decide)))
theorem tV:(gW x t).length%4=0∧t.length+x.length+4≤(gW x t).length∧(gW x t).length≤t.length+x.length+7:=by
 haveI h:=@wH 4 (t.length+x.length) (by exact ed 0x40110011);haveI e:(gW x t).length=4+(t.length+x.length+pd 4 (t.length+x.length)):=by simp[gW,ai,qW,Nat.add_comm,Nat.add_left_comm,Nat.add_assoc]
 rw[e];exact⟨(Nat.add_mod_left 4 _).trans (Oa _),by omega,by omega⟩
theorem iQ:(bu x t).length%4=0∧t.length+x.length+5≤(bu x t).length∧(bu x t).length≤t.length+x.length+8:=by
 haveI h:=@wH 4 (t.length+(x.length+1)) (by exact ed 0x40110011);haveI e:(bu x t).length=4+(t.length+(x.length+1)+pd 4 (t.length+(x.length+1))):=by simp[bu,ai,qW,Nat.add_comm,Nat.add_left_comm,Nat.add_assoc]
 rw[e];exact⟨(Nat.add_mod_left 4 _).trans (Oa _),by omega,by omega⟩
theorem QM(num:Int):∃k:Nat,k<8∧(num.fdiv 8).fmod 8=k:=by
 refine⟨((num.fdiv 8).fmod 8).toNat,?_,?_⟩ <;>
 ·haveI h1:=Int.fmod_nonneg_of_pos (num.fdiv 8) (show(0:Int)<8 by decide)
  haveI h2:=Int.fmod_lt_of_pos (num.fdiv 8) (show(0:Int)<8 by decide)
  (first|exact(fz 0x801100a180120049) h2|exact(fz 0xa80050000239) h1|omega)
theorem zU{jm jk jt:Nat}{made:List Made}{kn:List (Nat×Nat)}(S:SI st b q jm jk jt made kn){num:Int}{k:Nat}(hk:k<8)(hn:(num.fdiv 8).fmod 8=k)(ht:q.tail.length≤8000)(tT:kn.length≤99){Pz:Prop}(kz:∀st' q' m ja,run tb fns (n+6) cU [.obj b,.int num,.lst bN,.obj jk] none st=.ok (bg m) st'→SI st' b q' jm jk jt made ja→Step k q.tail kn (num.fmod 8) m q'.tail ja→st.length≤st'.length→(∀i,i<st.length→i∉q.own b→i≠jk→st'[i]?=st[i]?∧i∉q'.own b)→(q'.ma=4∨q'=q)→Pz):Pz:=by
 have d1:aq .mod (.int (num.fdiv 8)) (.int 8)=some (.int (k:Int)):=by rw[V.fmod (by decide),hn]
 have d2:aq .mod (.int num) (.int 8)=some (.int (num.fmod 8)):=V.fmod (by decide);have hw:cX st (.lst bN) (.int (k:Int))=some (wd k):=V.vJ (by simp[bN]) rfl (q8 hk);have vI:(gX q.sh).length≤1000:=by rw[S.sh];simp[tR];have:=S.Cm;exact(aO 0x3e8031000630210009) tT
 have gm:aN (gX q.sh) (wk k)=(kf kn k).map fun p=>.int p:=by rw[S.sh];exact w7 S.Ez hk
 have dh:=S.K4;have Iq:max q.ma (4:Int)=4:=by have:=S.ma;exact(fz 0x4012401200b540120039) this
 by_cases hc:num.fmod 8<5
 ·cases hf:kf kn k with
  |some p=>
   rw[hf] at gm;haveI e1:=fw (n:=n+4) S.bi (ql hk) gm vI;haveI k1:c6 st .setdefault (.obj jk)=true:=(V.Kn S.ok).2;haveI e2:aD tb .setdefault (.obj jk) [.int (k:Int),.int (p:Int)] st=.ok (.int (p:Int)) st:=by
    haveI h1:ky (.aj (ik kn))<10000:=by simp[ky,ik];have:=S.Cm;exact(aO 0x2710041001630210009) tT
    exact V.Ek S.ok h1 (by rw[jR,hf];rfl)
   exact kz st q _ kn (Be S.bi d1 d2 hc hw e1 k1 e2) S (.hit hc hf) (Nat.le_refl _) (fun i z hi z=>⟨rfl,hi⟩) (.inr rfl)
  |none=>
   rw[hf] at gm;refine il (n:=n) S.bi (ql hk) (wW hk) gm vI (by have:=@jy k;exact(aO 0x19003100060110009) this) S.ne (by exact(aO 0x23280410001f400410009) ht) fun af j p d e1 I1 F1=>?_
   have fm:=F1.keep jm dh.1 S.nm;have fk:=F1.keep jk dh.2.1 S.nk;have ft:=F1.keep jt dh.2.2 S.nt;have Ca:af[jk]?=some (.aj (ik kn)):=fk.1.trans S.ok;haveI k1:c6 af .setdefault (.obj jk)=true:=(V.Kn Ca).2;haveI e2:aD tb .setdefault (.obj jk) [.int (k:Int),.int ((bu (wo k) q.tail).length:Int)] af=.ok (.int ((bu (wo k) q.tail).length:Int)) (af.set jk (.aj (ik (kn++[(k,(bu (wo k) q.tail).length)])))):=by
    haveI h1:ky (.aj (ik kn))<10000:=by simp[ky,ik];have:=S.Cm;exact(aO 0x2710041001630210009) tT
    haveI h2:fy (ik kn) (k:Int) (.int ((bu (wo k) q.tail).length:Int))=ik (kn++[(k,(bu (wo k) q.tail).length)]):=by
     unfold fy;rw[H9 hf];simp[ik]
    rw[V.Eu Ca h1 (by rw[jR,hf];rfl),h2]
   haveI wl:=@iQ (wo k) q.tail;refine kz _ _ _ _ (Be S.bi d1 d2 hc hw e1 k1 e2) ⟨I1.uQ fk.2 _,rfl,S.fin,?_,?_,?_,S.vt,wl.1,?_,?_,?_,?_,fm.2,fk.2,ft.2,S.ap⟩ (.fresh hc hf) ?_ ?_ (.inl Iq)
   ·show gX q.sh++_=_;rw[S.sh];simp[tR]
   ·intro x hx
    rcases List.mem_append.mp hx with h|h
    ·exact S.Ez x h
    ·simp at h;subst h;exact hk
   ·simp;omega
   ·show max q.ma (4:Int)≤4;exact(fz 0x4012401200b34012401200b59) Iq
   ·rw[List.getElem?_set_ne S.ap.1.symm];exact fm.1.trans S.om
   ·exact List.getElem?_set_self (by have:=F1.len;exact(xg 0x10001103009304013000173020179) dh this)
   ·rw[List.getElem?_set_ne S.ap.2.2];exact ft.1.trans S.ot
   ·simp only[List.length_set];exact F1.len
   ·intro i hi hn QS
    have:=F1.keep i hi hn
    exact⟨by rw[List.getElem?_set_ne (Ne.symm QS)];exact this.1,this.2⟩
 ·by_cases B8:num.fmod 8<7
  ·refine gg (n:=n+1) S.bi (wW hk) (by have:=@jy k;exact(aO 0x19003100060110009) this) S.ne (by exact(aO 0x23280410001f400410009) ht) fun af j p e1 I1 F1=>?_
   have fm:=F1.keep jm dh.1 S.nm;have fk:=F1.keep jk dh.2.1 S.nk;have ft:=F1.keep jt dh.2.2 S.nt;haveI wl:=@iQ (wo k) q.tail;exact kz af _ _ kn (HV S.bi d1 d2 hc B8 hw e1) ⟨I1,rfl,S.fin,S.sh,S.Ez,S.Cm,S.vt,wl.1,by show max q.ma (4:Int)≤4;exact(fz 0x4012401200b34012401200b59) Iq,fm.1.trans S.om,fk.1.trans S.ok,ft.1.trans S.ot,fm.2,fk.2,ft.2,S.ap⟩ (.text (by exact(fz 0x50123501200469) hc) B8) F1.len (fun i hi hn z=>F1.keep i hi hn) (.inl Iq)
  ·refine iz (n:=n+1) S.bi (x:=wo k) (by have:=@jy k;exact(aO 0x19003100060110009) this) S.ne (by exact(aO 0x23280410001f400410009) ht) fun af j p e1 I1 F1=>?_
   have fm:=F1.keep jm dh.1 S.nm;have fk:=F1.keep jk dh.2.1 S.nk;have ft:=F1.keep jt dh.2.2 S.nt;haveI wl:=@tV (wo k) q.tail;exact kz af _ _ kn (Hz S.bi d1 d2 hc B8 hw (iE (n:=n+4) hk) e1) ⟨I1,rfl,S.fin,S.sh,S.Ez,S.Cm,S.vt,wl.1,by show max q.ma (4:Int)≤4;exact(fz 0x4012401200b34012401200b59) Iq,fm.1.trans S.om,fk.1.trans S.ok,ft.1.trans S.ot,fm.2,fk.2,ft.2,S.ap⟩ (.row (by exact(fz 0x70123701200469) B8)) F1.len (fun i hi hn z=>F1.keep i hi hn) (.inl Iq)
end
end
section
section
variable {n:Nat}{st:St}{b:Nat}{q:Bq}
theorem BJ(I0:BI st b q0)(e1:run tb fns (n+6) bP [.obj b,.int 0] none st=.ok .none af)(I1:BI af b q1)
(e2:run tb fns (n+6) cG [w] none af=.ok x af)(e3:run tb fns (n+6) bI [.obj b,x] none af=.exc 1 af)(e4:run tb fns (n+6) bQ [.obj b,w] none af=.exc 1 af)
(e5:run tb fns (n+6) dC [.obj b] none af=.ok v aU):run tb fns (n+7) dn [.obj b,w,.bool r] none st=.ok (.bool true) aU:=by
 apply V.runN (l:=[some (.obj b),some w,some (.bool r)]) rfl rfl rfl (fl:=.ret (.bool true));unfold fW;apply V.ssC (f:=.next) (lc1:=[some (.obj b),some w,some (.bool r)]) (s1:=af)
 ·repeat walk_at "ev"
 apply V.ssKn;apply V.ssC (f:=.ret (.bool true)) (lc1:=[some (.obj b),some w,some (.bool r)]) (s1:=aU)
 ·apply V.Js (lc1:=[some (.obj b),some w,some (.bool r)]) (s1:=af)
  ·apply V.DY
   cases r
   ·apply V.sIte (V.varr rfl) rfl
    apply V.sIteF;apply V.DY;apply V.mI
    repeat walk_at "ev"
   ·apply V.sIte (V.varr rfl) rfl
    apply V.sIteT;apply V.DY;apply V.mI
    repeat walk_at "ev"
  ·repeat walk_at "ev"
 ·rfl
theorem tN{jm jk jt:Nat}{made:List Made}{kn:List (Nat×Nat)}(S:SI st b q jm jk jt made kn){k:Nat}(hk:k<8)(r:Bool)(ht:q.tail.length≤8000){Pz:Prop}(kz:∀st' q' x,run tb fns (n+7) dn [.obj b,wd k,.bool r] none st=.ok (.bool true) st'→SI st' b q' jm jk jt made kn→q'.tail=x++q.tail→x.length%4=0→x.length≤8→st.length≤st'.length→(∀i,i<st.length→i∉q.own b→st'[i]?=st[i]?∧i∉q'.own b)→Pz):Pz:=by
 refine dq (n:=n+4) S.bi (k:=0) (by exact ed 0x3e80310010) S.ne fun af c e1 I1 F1=>?_
 replace e1:run tb fns (n+6) bP [.obj b,.int 0] none st=.ok .none af:=e1;refine ip (n:=n) I1 (c:=c) (l:=[]) rfl rfl (.inl rfl) rfl S.t4 (by exact ht) S.vt fun aU j p x kW m e2 I2 F2 hr=>?_
 obtain⟨h1,h2,h3,h4⟩:=hr;have dh:=S.K4;have F:=F1.trans F2;have fm:=F.keep jm dh.1 S.nm;have fk:=F.keep jk dh.2.1 S.nk;have ft:=F.keep jt dh.2.2 S.nt;refine kz aU _ x (BJ S.bi e1 I1 (iE (n:=n+5) hk) (gV (n:=n+4) I1 rfl) (fE (n:=n+4) I1 rfl) e2) ⟨I2,rfl,S.fin,S.sh,S.Ez,S.Cm,h3,?_,?_,fm.1.trans S.om,fk.1.trans S.ok,ft.1.trans S.ot,fm.2,fk.2,ft.2,S.ap⟩ rfl h1 h2 F.len F.keep
 ·show(x++q.tail).length%4=0
  exact(congrArg (·%4) List.length_append).trans (BX (by assumption) S.t4)
 ·show m≤4
  haveI:=S.ma
  haveI Ht:m=max q.ma 4:=h4;exact(It 0x4012003401210b005940121039) this Ht
noncomputable def xq:Ss:=(.cons (.n8 (.cons (.cy 4 (.aA (.var 0) 361 (.cons (.sub (.var 1) (.var 3)) .nil) Option.none Option.none)) .nil) 1 (.cons (.assign 4 (.lit .none)) .nil)) (.cons (.ite (.cmp .ne (.var 4) (.aD (.var 2) .get (.cons (.var 3) .nil))) (.cons (.ret (some (.lit (.bool false)))) .nil) .nil) .nil))
theorem Dl{jk k:Nat}{p:Int}{q0:Bq}{x3 x4:Option AV}{rc:RC}(I0:BI st b q0)(hw:cX st (.lst bN) (.int (k:Int))=some (wd k))(e1:rc aP [.obj b,wd k] none st=.ok (.int p) st)(k1:c6 st .get (.obj jk)=true)
  (e2:aD tb .get (.obj jk) [.int (k:Int)] st=.ok (.int p) st):aT tb rc xq [some (.obj b),some (.lst bN),some (.obj jk),some (.int (k:Int)),x4] st=.ok .next [some (.obj b),some (.lst bN),some (.obj jk),some (.int (k:Int)),some (.int p)] st:=by
 unfold xq;apply V.ssC (f:=.next) (lc1:=[some (.obj b),some (.lst bN),some (.obj jk),some (.int (k:Int)),some (.int p)]) (s1:=st)
 ·apply V.M0
  repeat walk_at "ev"
 ·repeat walk_at "ev"
theorem zD{af:St}{jk k:Nat}{q0 q1:Bq}{x3 x4:Option AV}{rc:RC}(I0:BI st b q0)(hw:cX st (.lst bN) (.int (k:Int))=some (wd k))(e1:rc aP [.obj b,wd k] none st=.exc 1 af)(I1:BI af b q1)(k1:c6 af .get (.obj jk)=true)
  (e2:aD tb .get (.obj jk) [.int (k:Int)] af=.ok .none af):aT tb rc xq [some (.obj b),some (.lst bN),some (.obj jk),some (.int (k:Int)),x4] st=.ok .next [some (.obj b),some (.lst bN),some (.obj jk),some (.int (k:Int)),some .none] af:=by
 unfold xq;apply V.ssC (f:=.next) (lc1:=[some (.obj b),some (.lst bN),some (.obj jk),some (.int (k:Int)),some .none]) (s1:=af)
 ·apply V.Js (lc1:=[some (.obj b),some (.lst bN),some (.obj jk),some (.int (k:Int)),x4]) (s1:=af)
  ·apply V.DY
   apply V.pP
   repeat walk_at "ev"
  ·repeat walk_at "ev"
 ·repeat walk_at "ev"
theorem ng{jk:Nat}{kn:List (Nat×Nat)}(MN:∀p∈kn,p.1<8)(tT:kn.length≤100){Pz:Prop}:∀(l:List Nat)(st:St)(q:Bq)(x3 x4:Option AV),(∀k∈l,k<8)→BI st b q→q.ne=true→gX q.sh=tR kn→st[jk]?=some (.aj (ik kn))→jk∉q.own b →
  (∀st' d A2 JJ,loopF none (.name 3) (fun lc st=>aT tb (Sv.run tb fns (n+3)) xq lc st) (l.map fun(k:Nat)=>AV.int (k:Int)) [some (.obj b),some (.lst bN),some (.obj jk),x3,x4] st=.ok .next [some (.obj b),some (.lst bN),some (.obj jk),A2,JJ] st'→BI st' b { q with sh:=d }→gX d=tR kn→Fr b st q st' { q with sh:=d }→Pz)→Pz
 |[],st,q,x3,x4,_,I,_,hs,_,_,kz=>kz st q.sh x3 x4 V.loopFn I hs Fr.refl
 |k::l,st,q,x3,x4,hl,I,cS,hs,hj,hn,kz=>by
  have hk:=hl k (by simp);have hw:cX st (.lst bN) (.int (k:Int))=some (wd k):=V.vJ (by simp[bN]) rfl (q8 hk);have vI:(gX q.sh).length≤1000:=by rw[hs];simp[tR];exact(aO 0x3e8031000640210009) tT
  have gm:aN (gX q.sh) (wk k)=(kf kn k).map fun p=>.int p:=by rw[hs];exact w7 MN hk
  cases hf:kf kn k with
  |some p=>
   rw[hf] at gm;haveI e1:=fw (n:=n+2) I (ql hk) gm vI;haveI k1:c6 st .get (.obj jk)=true:=(V.Kn hj).1;haveI e2:aD tb .get (.obj jk) [.int (k:Int)] st=.ok (.int (p:Int)) st:=by
    rw[V.Jc hj,jR,hf];rfl
   haveI hb:=Dl (jk:=jk) (x3:=none) (x4:=x4) I hw e1 k1 e2;exact ng MN tT l st q (some (.int (k:Int))) (some (.int (p:Int))) (fun i hi=>hl i (by simp[hi])) I cS hs hj hn fun st' d A2 JJ e r0 r1 r2=>kz st' d A2 JJ (V.loopFg (V.bindN rfl) hb (V.loopFKn trivial e)) r0 r1 r2
  |none=>
   rw[hf] at gm;refine rk (n:=n) I (ql hk) gm vI cS fun af d1 e1 I1 F1=>?_
   have f1:=F1.keep jk (List.getElem?_eq_some_iff.mp hj).1 hn;have Nw:af[jk]?=some (.aj (ik kn)):=f1.1.trans hj;haveI k1:c6 af .get (.obj jk)=true:=(V.Kn Nw).1;haveI e2:aD tb .get (.obj jk) [.int (k:Int)] af=.ok .none af:=by
    rw[V.Jc Nw,jR,hf];rfl
   haveI hb:=zD (jk:=jk) (x3:=none) (x4:=x4) I hw e1 I1 k1 e2;exact ng MN tT l af (q.sH d1 (gX q.sh)) (some (.int (k:Int))) (some .none) (fun i hi=>hl i (by simp[hi])) I1 cS hs Nw f1.2 fun st' d A2 JJ e I' sL F'=>kz st' d A2 JJ (V.loopFg (V.bindN rfl) hb (V.loopFKn trivial e)) I' sL (F1.trans F')
theorem mB(n:Nat):dD 0 (n:Int) true=(List.range n).map fun(k:Nat)=>AV.int (k:Int):=by
 simp[dD]
theorem vr(I0:BI st b q0)(e1:run tb fns (n+6) bP [.obj b,.int 1] none st=.ok .none af)(I1:BI af b q1)
(e2:loopF none (.name 3) (fun lc st=>aT tb (Sv.run tb fns (n+6)) xq lc st) ((List.range 8).map fun(k:Nat)=>AV.int (k:Int)) [some (.obj b),some (.lst bN),some (.obj jk),none,none] af=.ok .next [some (.obj b),some (.lst bN),some (.obj jk),x3,x4] aU)(I2:BI aU b q2)
(e5:run tb fns (n+6) dC [.obj b] none aU=.ok v bf):run tb fns (n+7) ct [.obj b,.lst bN,.obj jk] none st=.ok (.bool true) bf:=by
 haveI hl:Sv.bcall .len [.lst bN] af=.ok (.int ((8:Nat):Int)) af:=rfl;apply V.runN (l:=[some (.obj b),some (.lst bN),some (.obj jk),none,none]) rfl rfl rfl (fl:=.ret (.bool true));unfold dA;apply V.ssC (f:=.next) (lc1:=[some (.obj b),some (.lst bN),some (.obj jk),none,none]) (s1:=af)
 ·repeat walk_at "ev"
 apply V.ssKn;apply V.ssC (f:=.next) (lc1:=[some (.obj b),some (.lst bN),some (.obj jk),x3,x4]) (s1:=aU)
 ·apply V.sFor
  ·apply V.src1 (n:=((8:Nat):Int))
   ·repeat walk_at "ev"
   ·exact ed 0x2710042801238012271004337
  ·rw[mB];exact e2
 ·repeat walk_at "ev"
theorem yr{jm jk jt:Nat}{made:List Made}{kn:List (Nat×Nat)}(S:SI st b q jm jk jt made kn)(ht:q.tail.length≤8000){Pz:Prop}(kz:∀st' q' x,run tb fns (n+7) ct [.obj b,.lst bN,.obj jk] none st=.ok (.bool true) st'→SI st' b q' jm jk jt made kn→q'.tail=x++q.tail→x.length%4=0→x.length≤8→st.length≤st'.length→(∀i,i<st.length→i∉q.own b→st'[i]?=st[i]?∧i∉q'.own b)→q'.ma=4→Pz):Pz:=by
 refine dq (n:=n+4) S.bi (k:=1) (by exact ed 0x3e803110110) S.ne fun af c e1 I1 F1=>?_
 replace e1:run tb fns (n+6) bP [.obj b,.int 1] none st=.ok .none af:=e1;have dh:=S.K4;have OW:=F1.keep jk dh.2.1 S.nk;refine ng (n:=n+3) S.Ez S.Cm (List.range 8) af _ none none (fun k hk=>List.mem_range.mp hk) I1 rfl S.sh (OW.1.trans S.ok) OW.2 fun aU d x3 x4 e2 I2 B5 F2=>?_
 refine ip (n:=n) I2 (c:=c) (l:=[0]) rfl rfl (.inr rfl) rfl S.t4 (by exact ht) S.vt fun bf j p x kW m e3 I3 F3 hr=>?_
 obtain⟨h1,h2,h3,h4⟩:=hr;have F:=F1.trans (F2.trans F3);have fm:=F.keep jm dh.1 S.nm;have fk:=F.keep jk dh.2.1 S.nk;have ft:=F.keep jt dh.2.2 S.nt;refine kz bf _ x (vr S.bi e1 I1 e2 I2 e3) ⟨I3,rfl,S.fin,B5,S.Ez,S.Cm,h3,?_,?_,fm.1.trans S.om,fk.1.trans S.ok,ft.1.trans S.ot,fm.2,fk.2,ft.2,S.ap⟩ rfl h1 h2 F.len F.keep ?_
 ·show(x++q.tail).length%4=0
  exact(congrArg (·%4) List.length_append).trans (BX (by assumption) S.t4)
 ·show m≤4
  haveI:=S.ma
  haveI Ht:m=max q.ma 4:=h4;exact(It 0x4012003401210b005940121039) this Ht
 ·show m=4
  haveI:=S.ma
  haveI Ht:m=max q.ma 4:=h4;exact(It 0x4012005401210b005940121039) this Ht
end
end
section
section
variable {n:Nat}{st:St}{b:Nat}{q:Bq}
noncomputable def wh:Ss:=(.cons (.expr (.aA (.var 0) 361 (.cons (.var 3) .nil) Option.none Option.none)) .nil)
theorem qy(I0:BI st b q0)(e1:rc aP [.obj b,w] none st=.ok v af) :
 aT tb rc wh [some (.obj b),x1,x2,some w] st=.ok .next [some (.obj b),x1,x2,some w] af:=by
 unfold wh
 repeat walk_at "ev"
theorem lL{x1 x2:Option AV}{Pz:Prop}:∀(l:List Nat)(st:St)(q:Bq)(x3:Option AV),(∀k∈l,k<8)→BI st b q→q.ne=false→q.tail.length+20*l.length≤1000→(gX q.sh).length+l.length≤1000 →
  (∀st' q' A2,loopF none (.name 3) (fun lc st=>aT tb (Sv.run tb fns (n+5)) wh lc st) (l.map wd) [some (.obj b),x1,x2,x3] st=.ok .next [some (.obj b),x1,x2,A2] st'→BI st' b q'→q'.ne=false→Fr b st q st' q'→Pz)→Pz
 |[],st,q,x3,_,I,cS,_,_,kz=>kz st q x3 V.loopFn I cS Fr.refl
 |k::l,st,q,x3,hl,I,cS,ht,hs,kz=>by
  have hk:=hl k (by simp);simp only[List.length_cons] at ht hs;cases hf:aN (gX q.sh) (wk k) with
  |some v=>
   have e1:=fw (n:=n+4) I (ql hk) hf (by exact(aZ 0x3e80310003e8031101110400409) hs);exact lL l st q (some (wd k)) (fun i hi=>hl i (by simp[hi])) I cS (by exact(aZ 0x3e8031101402600403e803110111041402600409) ht) (by exact(aZ 0x3e80311000403e8031101110400409) hs) fun st' q' A2 e r0 r1 r2=>kz st' q' A2 (V.loopFg (V.bindN rfl) (qy I e1) (V.loopFKn trivial e)) r0 r1 r2
  |none=>
   haveI wl:=@iQ (wo k) q.tail;haveI Oy:=@jy k;refine il (n:=n) I (ql hk) (wW hk) hf (by exact(aZ 0x3e80310003e8031101110400409) hs) (by exact(aO 0x19003100060110009) Oy) cS (by exact(aZ 0x23280410003e803110111041402600409) ht) fun af j p d e1 I1 F1=>?_
   exact lL l af _ (some (wd k)) (fun i hi=>hl i (by simp[hi])) I1 rfl (by show(bu (wo k) q.tail).length+20*l.length≤1000;exact(xg 0x3e80311014026004060113009801130204400000501130204407001402793e803110111041402620409) ht wl Oy) (by show(gX q.sh++[_]).length+l.length≤1000;simp;exact(aZ 0x3e8031101011004403e8031101110400409) hs) fun st' q' A2 e I' NM F'=>kz st' q' A2 (V.loopFg (V.bindN rfl) (qy I e1) (V.loopFKn trivial e)) I' NM (F1.trans F')
theorem nJ(I0:BI st b q0)(e1:loopF none (.name 3) (fun lc st=>aT tb (Sv.run tb fns (n+5)) wh lc st) bN [some (.obj b),some (.lst bN),some (.int first),none] st=.ok .next [some (.obj b),some (.lst bN),some (.int first),x3] af)
(I1:BI af b q1)(d:aq .mod (.int (first.fdiv 4)) (.int 2)=some (.int c))(e2:c=1∧run tb fns (n+5) bP [.obj b,.int 2] none af=.ok .none aU∨c≠1∧aU=af)(I2:BI aU b q2)(e3:run tb fns (n+5) rq [.obj b] none aU=.ok .none bf) :
 run tb fns (n+6) cc [.obj b,.lst bN,.int first] none st=.ok .none bf:=by
 apply V.runN (l:=[some (.obj b),some (.lst bN),some (.int first),none]) rfl rfl rfl (fl:=.next);unfold dS;apply V.ssC (f:=.next) (lc1:=[some (.obj b),some (.lst bN),some (.int first),x3]) (s1:=af)
 ·apply V.sFor
  ·apply V.srcE
   repeat walk_at "ev"
  ·exact e1
 apply V.ssKn;apply V.ssC (f:=.next) (lc1:=[some (.obj b),some (.lst bN),some (.int first),x3]) (s1:=aU)
 ·rcases e2 with ⟨hc,e2⟩|⟨hc,e2⟩
  ·repeat walk_at "ev"
  ·subst e2
   repeat walk_at "ev"
 ·repeat walk_at "ev"
theorem yn{first:Int}(I:BI st b q)(cS:q.ne=false)(ht:q.tail=[])(hs:q.sh=none){Pz:Prop}(kz:∀st' q',run tb fns (n+6) cc [.obj b,.lst bN,.int first] none st=.ok .none st'→BI st' b q'→Fr b st q st' q'→q'.tail=[]∧q'.ma=1∧q'.ne=false∧q'.fin=false∧q'.sh=none∧q'.vt=[]∧q'.cv=none→Pz):Pz:=by
 refine lL (n:=n) (x1:=some (.lst bN)) (x2:=some (.int first)) [0,1,2,3,4,5,6,7] st q none (by decide) I cS (by rw[ht];simp) (by rw[hs];simp[gX]) fun af q1 x3 e1 I1 Mt F1=>?_
 have hd:aq .mod (.int (first.fdiv 4)) (.int 2)=some (.int ((first.fdiv 4).fmod 2)):=V.fmod (by decide)
 by_cases hc:(first.fdiv 4).fmod 2=1
 ·refine dq (n:=n+3) I1 (k:=2) (by exact ed 0x3e803120110) Mt fun aU c e2 I2 F2=>?_
  refine p8 (n:=n+4) I2 fun bf q3 e3 I3 F3 r=>?_
  exact kz bf q3 (nJ I e1 I1 hd (.inl ⟨hc,e2⟩) I2 e3) I3 (F1.trans (F2.trans F3)) r
 ·refine p8 (n:=n+4) I1 fun bf q3 e3 I3 F3 r=>?_
  exact kz bf q3 (nJ I e1 I1 hd (.inr ⟨hc,rfl⟩) I1 e3) I3 (F1.trans F3) r
theorem lx:∀(l:List AV)(st:St),(∀x∈l,f x st=.ok [g x] st)→jw none f l st=.ok (l.map g) st
 |[],st,_=>rfl
 |x::r,st,h=>by
  show(f x st).bind _=_
  rw[h x List.mem_cons_self];refine Eq.trans (b:=(jw none f r st).bind fun l' st=>R.ok ([g x]++l') st) (if_pos (show Sv.same none st st from trivial)) ?_;rw[lx r st fun y hy=>h y (List.mem_cons_of_mem _ hy)];rfl
theorem V.Fo(hs:jj tb rc lc src st=.ok (o,l) s1)(hl:l.length≤100000)
(ht:jw o (fun x st=>match fH t x lc with|some aK=>(aC tb rc aK e st).bind fun v st=>R.ok [v] st|none=>.stuck) l s1=.ok vs s2):Ce tb rc lc (.gen t src .nil (.elt e)) st=.ok vs s2:=by
 show(jj tb rc lc src st).bind _=_
 rw[hs]
 show(if 100000<l.length then R.stuck else jw o (fun x st=>match fH t x lc with|some aK=>(A7 tb rc aK .nil st).bind fun b st=>if b then Ce tb rc aK (.elt e) st else .ok [] st|none=>.stuck) l s1)=_
 rw[if_neg (by exact(aO 0x186a005116186a00510009) hl)];exact ht
theorem uC(l:List Int):iC (l.map .int)=some l:=by
 induction l with
 |nil=>rfl
 |cons a r ih=>show(iC (r.map .int)).map (a::·)=_;rw[ih];rfl
theorem vO{D:List UInt8}{p w:Nat}(hp:p+w≤D.length)(hz:D.length≤100000)(hw:w≤8):run tb fns (n+1) bV [.bytes D,.int p,.int w] none st =
  .ok (.int ((List.range w).map fun(i:Nat)=>((D.getD (p+i) 0).toNat:Int)*256^i).sum) st:=by
 haveI hc:Ce tb (Sv.run tb fns n) [some (.bytes D),some (.int (p:Int)),some (.int (w:Int)),none] (.gen (.name 3) (.dM (.var 2)) .nil (.elt (.bin .mul (.sub (.var 0) (.bin .add (.var 1) (.var 3))) (.bin .pow (.lit (.int 256)) (.var 3))))) st =
   .ok (((List.range w).map fun(i:Nat)=>((D.getD (p+i) 0).toNat:Int)*256^i).map .int) st:=by
  refine V.Fo (o:=none) (l:=(List.range w).map fun(k:Nat)=>AV.int (k:Int)) (by rw[V.src1 (V.varr rfl) ⟨by exact aO 0x827100433,by exact(aO 0x2710042008380110009) hw⟩,mB]) (by simp;exact(aO 0x186a005100080110009) hw) ?_
  haveI:=lx (f:=fun x st=>match fH (.name 3) x [some (AV.bytes D),some (.int (p:Int)),some (.int (w:Int)),none] with|some aK=>(aC tb (Sv.run tb fns n) aK (.bin .mul (.sub (.var 0) (.bin .add (.var 1) (.var 3))) (.bin .pow (.lit (.int 256)) (.var 3))) st).bind fun v st=>R.ok [v] st|none=>.stuck)
   (g:=fun x=>match x with|.int i=>.int (((D.getD (p+i.toNat) 0).toNat:Int)*256^i.toNat)|_=>.none) ((List.range w).map fun(k:Nat)=>AV.int (k:Int)) st ?_
  ·rw[this]
   congr 1
   simp
  ·intro x hx
   rw[List.mem_map] at hx;obtain⟨i,hi,rfl⟩:=hx;have Lb:=List.mem_range.mp hi;haveI h1:cX st (.bytes D) (.int ((p:Int)+(i:Int)))=some (.int ((D.getD (p+i) 0).toNat:Int)):=by
    haveI h0:0≤(p:Int)+(i:Int)∧(p:Int)+(i:Int)<(D.length:Int)∧D.length≤1000000:=⟨by exact aZ 0x10800840023,by exact(gk 0x20810800844301019203000409) hp Lb,by exact(aO 0xf4240051000186a00510009) hz⟩;haveI h2:((p:Int)+(i:Int)).toNat=p+i:=aZ 0x100041080084a2;show gd (decide _) _=_;rw[decide_eq_true h0];show some (AV.int ((D.getD ((p:Int)+(i:Int)).toNat 0).toNat:Int))=_;rw[h2]
   haveI h2:aq .pow (.int 256) (.int (i:Int))=some (.int (256^i)):=by
    haveI h0:0≤(i:Int)∧(i:Int)≤1000000∧(256:Int).natAbs<2^64:=⟨by exact aO 0x80023,by exact(aZ 0xf4240052008310001980111009) hw Lb,by decide⟩;show gd (decide _) _=_;rw[decide_eq_true h0];rfl
   haveI h3:aq .mul (.int ((D.getD (p+i) 0).toNat:Int)) (.int (256^i))=some (.int (((D.getD (p+i) 0).toNat:Int)*256^i)):=by
    refine V.mulL ?_
    haveI:=(D.getD (p+i) 0).toNat_lt
    simp only[oH,decide_eq_true_eq];omega
   haveI he:aC tb (Sv.run tb fns n) [some (AV.bytes D),some (.int (p:Int)),some (.int (w:Int)),some (.int (i:Int))] (.bin .mul (.sub (.var 0) (.bin .add (.var 1) (.var 3))) (.bin .pow (.lit (.int 256)) (.var 3))) st=.ok (.int (((D.getD (p+i) 0).toNat:Int)*256^i)) st:=by
    repeat walk_at "ev"
   show(aC tb (Sv.run tb fns n) [some (AV.bytes D),some (.int (p:Int)),some (.int (w:Int)),some (.int (i:Int))] _ st).bind (fun v st=>R.ok [v] st)=_
   rw[he];simp
 haveI hs:Sv.bcall .u4 [.lst (((List.range w).map fun(i:Nat)=>((D.getD (p+i) 0).toNat:Int)*256^i).map .int)] st=.ok (.int ((List.range w).map fun(i:Nat)=>((D.getD (p+i) 0).toNat:Int)*256^i).sum) st:=by
  show R.ei st ((iC _).map fun l=>AV.int l.sum)=_;rw[uC];rfl
 apply V.runN (l:=[some (.bytes D),some (.int (p:Int)),some (.int (w:Int)),none]) rfl rfl rfl (fl:=.ret _);unfold oh
 repeat walk_at "ev"
theorem uc{A r:List UInt8}{y:List UInt8}{i:Nat}(hi:i<y.length):(A++(y++r)).getD (A.length+i) 0=y.getD i 0:=by
 simp[List.getD_eq_getElem?_getD,List.getElem?_append_right,List.getElem?_append_left hi]
theorem sU(hi:i<w):((leB w x).getD i 0).toNat=(x%2^(8*w)).toNat/256^i%256:=by
 simp[leB,List.getD_eq_getElem?_getD,hi]
theorem G8(h:x<65536):x/256^0%256*256^0+(x/256^1%256*256^1+0)=x:=by
 rw[Nat.pow_zero,Nat.pow_one,Nat.div_one];rw[Nat.mod_eq_of_lt (a:=x/256) (Nat.div_lt_of_lt_mul h),Nat.mul_one,Nat.add_zero,Nat.mul_comm];exact Nat.mod_add_div x 256
theorem L4(h:x<4294967296):x/256^0%256*256^0+(x/256^1%256*256^1+(x/256^2%256*256^2+(x/256^3%256*256^3+0)))=x:=by
 haveI h2:=G8 (x:=x/65536) (Nat.div_lt_of_lt_mul h);haveI h1:=G8 (x:=x%65536) (Nat.mod_lt _ (by decide));have e0:x%65536/256^0%256=x/256^0%256:=by rw[Nat.pow_zero,Nat.div_one,Nat.div_one];exact Nat.mod_mod_of_dvd x (by decide)
 have e1:x%65536/256^1%256=x/256^1%256:=by rw[Nat.pow_one,show 65536=256*256 from rfl,Nat.mod_mul_right_div_self,Nat.mod_mod]
 have e2:x/65536/256^0%256=x/256^2%256:=by rw[Nat.pow_zero,Nat.div_one]
 have e3:x/65536/256^1%256=x/256^3%256:=by rw[Nat.div_div_eq_div_mul]
 rw[e0,e1] at h1;rw[e2,e3] at h2;haveI h3:=Nat.mod_add_div x 65536;rw[←h1,←h2] at h3;clear h1 h2 e0 e1 e2 e3 h;generalize x/256^0%256=a at h3 ⊢;generalize x/256^1%256=b at h3 ⊢;generalize x/256^2%256=c at h3 ⊢;generalize x/256^3%256=d at h3 ⊢;omega
theorem toN{x m:Nat}(h:x<m):((x:Int)%(m:Int)).toNat=x:=(congrArg Int.toNat (Int.emod_eq_of_lt (Int.natCast_nonneg x) (Int.ofNat_lt.mpr h))).trans (Int.toNat_natCast x)
theorem jY{D A r:List UInt8}{p:Nat}{x:Nat}(hD:D=A++(leB 4 x++r))(hA:A.length=p)(hz:D.length≤100000)(hx:x<4294967296):run tb fns (n+1) bV [.bytes D,.int p,.int 4] none st=.ok (.int x) st:=by
 haveI h:=vO (n:=n) (st:=st) (D:=D) (p:=p) (w:=4) (by rw[hD];simp[ai];exact(cM 0x204011410440110040001029) hA) hz (by exact ed 0x801140110);replace h:run tb fns (n+1) bV [.bytes D,.int p,.int 4] none st=_:=h;rw[h]
 congr 2
 have e:∀i,i<4→(D.getD (p+i) 0).toNat=x/256^i%256:=fun i hi=>by
  rw[hD,←hA,uc (by rw[ai];exact hi),sU hi]
  congr 2
  exact toN hx
 simp only[List.range_succ,List.range_zero,List.nil_append,List.cons_append,List.map_cons,List.map_nil,List.sum_cons,List.sum_nil];rw[e 0 (by exact ed 0x40110011),e 1 (by exact ed 0x401110111),e 2 (by exact ed 0x401120111),e 3 (by exact ed 0x401130111)];exact congrArg Int.ofNat (L4 hx)
theorem wA{D A r:List UInt8}{p:Nat}{x:Nat}(hD:D=A++(leB 2 x++r))(hA:A.length=p)(hz:D.length≤100000)(hx:x<65536):run tb fns (n+1) bV [.bytes D,.int p,.int 2] none st=.ok (.int x) st:=by
 haveI h:=vO (n:=n) (st:=st) (D:=D) (p:=p) (w:=2) (by rw[hD];simp[ai];exact(cM 0x202011410420110040001029) hA) hz (by exact ed 0x801120110);replace h:run tb fns (n+1) bV [.bytes D,.int p,.int 2] none st=_:=h;rw[h]
 congr 2
 have e:∀i,i<2→(D.getD (p+i) 0).toNat=x/256^i%256:=fun i hi=>by
  rw[hD,←hA,uc (by rw[ai];exact hi),sU hi]
  congr 2
  exact toN hx
 simp only[List.range_succ,List.range_zero,List.nil_append,List.cons_append,List.map_cons,List.map_nil,List.sum_cons,List.sum_nil];rw[e 0 (by exact ed 0x20110011),e 1 (by exact ed 0x201110111)];exact congrArg Int.ofNat (G8 hx)
end
end
section
section
variable {n:Nat}{st:St}
noncomputable def due(k:Nat)(r:Bool):List UInt8:=leB 4 ((wo k).length:Int)++(wo k++(if r then [] else [0]))
theorem wX:4≤(due k r).length∧(due k r).length≤11:=by
 haveI:=@jy k
 cases r<;>simp[due,ai]<;>(first|exact(aO 0xb011101100440114060110009) this|exact(aO 0xb0110040114060110009) this|omega)
theorem K7(hk:k<8):Sv.bcall .bytes [.lst [.int ((wo k).length:Int),.int 0,.int 0,.int 0]] st=.ok (.bytes (leB 4 ((wo k).length:Int))) st:=by
 rcases k with _|_|_|_|_|_|_|_|k<;>first|rfl|exact((aO 0x801110111011101110111011101110111011004444444416) hk).elim
theorem nF(h:a.length+b.length≤10000):aq .add (.bytes a) (.bytes b)=some (.bytes (a++b)):=V.KO h
theorem Nc(h1:fB x=some l)(h2:fB y=some u)(hz:D.length≤1000000):cw st (.bytes D) x y false=some (.bytes (cut D l u)):=by
 unfold cw;rw[h1,h2];show(gd (true&&decide (D.length≤1000000)) _).or _=_;rw[decide_eq_true hz];rfl
theorem DZ{D A y r:List UInt8}{p:Nat}(hD:D=A++(y++r))(hA:A.length=p):cut D (some (p:Int)) (some ((p+y.length:Nat):Int))=y:=by
 have hl:D.length=p+(y.length+r.length):=by rw[hD];simp[hA]
 haveI c1:clipAt D.length (p:Int)=p:=i6 (by exact(gk 0x10000302040041029) hl);haveI c2:clipAt D.length ((p+y.length:Nat):Int)=p+y.length:=i6 (by exact(gk 0x20100040301040042029) hl)
 show(D.drop (clipAt D.length (p:Int))).take (clipAt D.length ((p+y.length:Nat):Int)-clipAt D.length (p:Int))=y
 rw[c1,c2,hD,←hA,List.drop_left,show A.length+y.length-A.length=y.length by exact aZ 0x10001000452,List.take_left]
theorem Hd{D A y r:List UInt8}{p:Nat}{a c:Int}(hD:D=A++(y++r))(hA:A.length=p)(hz:D.length≤100000)(ha:a=p)(hc:c=((p+y.length:Nat):Int)):cw st (.bytes D) (some (.int a)) (some (.int c)) false=some (.bytes y):=by
 subst ha;subst hc;have hl:D.length=p+(y.length+r.length):=by rw[hD];simp[hA]
 exact(Nc (i8 (by exact(gk 0xf4240051000302040041029186a00511009) hz hl)) (i8 (by exact(gk 0xf4240051100040301040042029186a00512009) hz hl)) (by exact(aO 0xf4240051000186a00510009) hz)).trans (by rw[DZ hD hA])
theorem yu{D row due KW w2 tl:List UInt8}{p k:Nat}{r:Bool}{e:Int}(h0:cX st (.lst bN) (.int (k:Int))=some (wd k))(h1:run tb fns (n+1) cG [wd k] none st=.ok (.bytes row) st)
  (h2:Sv.bcall .len [.bytes row] st=.ok (.int (row.length:Int)) st) (h3:Sv.bcall .bytes [.lst [.int (row.length:Int),.int 0,.int 0,.int 0]] st=.ok (.bytes KW) st) (h4:aq .add (.bytes KW) (.bytes row)=some (.bytes w2))
  (h5:tl=if r then [] else [0]) (h6:aq .add (.bytes w2) (.bytes tl)=some (.bytes due)) (h7:aq .mod (.int (p:Int)) (.int 4)=some (.int 0)) (h8:Sv.bcall .len [.bytes due] st=.ok (.int (due.length:Int)) st) (h9:aq .add (.int (p:Int)) (.int (due.length:Int))=some (.int e))
  (Nx:cw st (.bytes D) (some (.int (p:Int))) (some (.int e)) false=some (.bytes due)) :
  run tb fns (n+2) ff [.bytes D,.int p,.lst bN,.int k,.bool r] none st=.ok (.tup [.bool true,.int e]) st:=by
 haveI b1:Sv.bcall .bytes [.int 1] st=.ok (.bytes [0]) st:=rfl;have b2:bB st .eq (.bytes due) (.bytes due)=some true:=by show some (due==due)=_;rw[beq_self_eq_true]
 subst h5;cases r
 ·replace h6:aq .add (.bytes w2) (.bytes [0])=some (.bytes due):=h6
  apply V.runN (l:=[some (.bytes D),some (.int (p:Int)),some (.lst bN),some (.int (k:Int)),some (.bool false),none,none]) rfl rfl rfl (fl:=.ret _);unfold gF
  repeat walk_at "ev"
 ·replace h6:aq .add (.bytes w2) (.bytes [])=some (.bytes due):=h6
  apply V.runN (l:=[some (.bytes D),some (.int (p:Int)),some (.lst bN),some (.int (k:Int)),some (.bool true),none,none]) rfl rfl rfl (fl:=.ret _);unfold gF
  repeat walk_at "ev"
theorem GQ:∀(x:Nat),x≤6→4+x≤10000:=fun x0 h0=>(aO 0x27100410040114060110009) h0
theorem FD:∀(x:Nat),x≤6→x≤1000000:=fun x0 h0=>(aO 0xf424005100060110009) h0
theorem GO:∀(x:Nat),4≤x∧x≤11→x≤1000000:=fun x0 h0=>(aO 0xf4240051000b011000004011079) h0
theorem Br{D A tl:List UInt8}{p k:Nat}{r:Bool}(hk:k<8)(hD:D=A++(due k r++tl))(hA:A.length=p)(hz:D.length≤100000)(h4:p%4=0) :
  run tb fns (n+2) ff [.bytes D,.int p,.lst bN,.int k,.bool r] none st=.ok (.tup [.bool true,.int ((p+(due k r).length:Nat):Int)]) st:=by
 haveI wl:=@jy k;haveI dl:=@wX k r;refine yu (V.vJ (by simp[bN]) rfl (q8 hk)) (iE (n:=n) hk) ?_ (K7 hk) (nF (by rw[ai];exact GQ _ wl)) rfl (due:=due k r) ?_ ?_ ?_ ?_ (Hd hD hA hz rfl rfl)
 ·show(if (wo k).length≤1000000 then _ else _)=_
  rw[if_pos (by exact FD _ wl)]
 ·haveI:=nF (a:=leB 4 ((wo k).length:Int)++wo k) (b:=if r then [] else [0]) (by cases r<;>simp[ai]<;>omega)
  rw[this,List.append_assoc];rfl
 ·rw[V.fmod (by decide)]
  congr 2
  haveI:((p:Int)).fmod 4=(p:Int)%4:=by rw[Int.fmod_eq_emod_of_nonneg _ (by decide)]
  rw[this];omega
 ·show(if (due k r).length≤1000000 then _ else _)=_
  rw[if_pos (by exact GO _ dl)]
 ·exact V.nF (by omega)
structure Lu(D:List UInt8)(row:Nat)(made:List Made):Prop where
 len:D.length≤100000
 l4:D.length%4=0
 Iw:made.length≤60
 k8:∀m∈made,m.1<8
 way:∀(i:Nat)(m:Made),made[i]?=some m→∃A r x,D=A++(leB 4 ((x:Nat):Int)++r)∧A.length=row+4+4*i∧x<4294967296∧row+4+4*i+x+m.2.2=D.length
 Fc:∀m∈made,∃A r,D=A++(due m.1 m.2.1++r)∧A.length+m.2.2=D.length
 p4:∀m∈made,m.2.2%4=0
 one:∀m∈made,∀m'∈made,m.2.2=m'.2.2→m.1=m'.1∧m.2.1=m'.2.1
 ap:∀m∈made,∀m'∈made,m'.2.2<m.2.2→m'.2.2+(due m.1 m.2.1).length≤m.2.2
noncomputable def sr(D:List UInt8)(m:Made):Int:=(D.length:Int)-m.2.2
noncomputable def uq(D:List UInt8)(m:Made):Int:=sr D m+(due m.1 m.2.1).length
structure GE(D:List UInt8)(made:List Made)(E:List (Int×AV)):Prop where
 of:∀e∈E,∃m∈made,e=(sr D m,.int (uq D m))
 nd:(E.map (·.1)).Nodup
 Iw:E.length≤60
noncomputable def wq:Ss:=(.cons (.bA [10,11,12] (.sub (.var 2) (.var 9))) (.cons (.assign 13 (.bin .add (.bin .add (.var 7) (.lit (.int 4))) (.bin .mul (.lit (.int 4)) (.var 9)))) (.cons (.assign 14 (.bin .add (.var 13) (.aY 694 (.cons (.var 0) (.cons (.var 13) (.cons (.lit (.int 4)) .nil))) Option.none Option.none))) (.cons (.bA [15,16] (.aY 701 (.cons (.var 0) (.cons (.var 14) (.cons (.var 1) (.cons (.var 10) (.cons (.var 11) .nil))))) Option.none Option.none)) (.cons (.ite (.or (.un .not (.var 15)) (.or (.cmp .ne (.var 14) (.bin .sub (.bcall .len (.cons (.var 0) .nil)) (.var 12))) (.cmp .ne (.aD (.var 8) .setdefault (.cons (.var 14) (.cons (.var 16) .nil))) (.var 16)))) (.cons (.ret (some (.lit (.bool false)))) .nil) .nil) .nil)))))
theorem qA{af:St}{D:List UInt8}{jm je:Nat}{m:Made}{JU i here start en x:Int}{rc:RC}{x3 x4 x5 x6 x10 x11 x12 x13 x14 x15 x16 x17:Option AV}
  (h1:cX st (.obj jm) (.int i)=some (bg m)) (a1:aq .add (.int JU) (.int 4)=some (.int (JU+4))) (a2:aq .add (.int (JU+4)) (.int (4*i))=some (.int here)) (a3:rc bV [.bytes D,.int here,.int 4] none st=.ok (.int x) st) (a4:aq .add (.int here) (.int x)=some (.int start))
  (a5:rc ff [.bytes D,.int start,.lst bN,.int m.1,.bool m.2.1] none st=.ok (.tup [.bool true,.int en]) st) (a6:Sv.bcall .len [.bytes D] st=.ok (.int (D.length:Int)) st) (a7:start=(D.length:Int)-(m.2.2:Int)) (k1:c6 st .setdefault (.obj je)=true)
  (a8:aD tb .setdefault (.obj je) [.int start,.int en] st=.ok (.int en) af) :
  aT tb rc wq [some (.bytes D),some (.lst bN),some (.obj jm),x3,x4,x5,x6,some (.int JU),some (.obj je),some (.int i),x10,x11,x12,x13,x14,x15,x16,x17] st =
   .ok .next [some (.bytes D),some (.lst bN),some (.obj jm),x3,x4,x5,x6,some (.int JU),some (.obj je),some (.int i),some (.int m.1),some (.bool m.2.1),some (.int m.2.2),some (.int here),some (.int start),some (.bool true),some (.int en),x17] af:=by
 haveI hm:aq .mul (.int 4) (.int i)=some (.int (4*i)):=V.mulL rfl;unfold bg at h1;unfold wq
 repeat walk_at "ev"
theorem k7{E:List (Int×AV)}{s:Int}(h:aN E s=none):E.any (fun kv=>decide (kv.1=s))=false:=by
 simp only[aN,Option.map_eq_none_iff,List.find?_eq_none] at h;simp only[List.any_eq_false];intro x hx;simpa using h x hx
theorem p9{E:List (Int×AV)}{s:Int}{v:AV}(h:aN E s=some v):(s,v)∈E:=by
 unfold aN at h;rw[Option.map_eq_some_iff] at h;obtain⟨e,h1,h2⟩:=h;haveI h3:=List.find?_some h1;haveI h4:=List.mem_of_find?_eq_some h1;simp at h3;obtain⟨a,c⟩:=e;simp at h3 h2;subst h3;subst h2;exact h4
theorem NZ(h:a%4=0)(h2:b%4=0):(a-b)%4=0:=Nat.mod_eq_zero_of_dvd (Nat.dvd_sub (Nat.dvd_of_mod_eq_zero h) (Nat.dvd_of_mod_eq_zero h2))
theorem GE.push{D:List UInt8}{made:List Made}{E:List (Int×AV)}{m:Made}(G:GE D made E)(zY:m∈made)(hf:aN E (sr D m)=none)(hle:(E++[(sr D m,AV.int (uq D m))]).length≤60):GE D made (E++[(sr D m,.int (uq D m))]):=by
 refine⟨fun e he=>?_,?_,hle⟩
 ·rcases List.mem_append.mp he with h|h
  ·exact G.of e h
  ·simp at h;exact⟨m,zY,h⟩
 ·rw[List.map_append]
  refine List.nodup_append.mpr ⟨G.nd,by simp,fun a ha c hc e=>?_⟩;simp at hc;subst hc;subst e
  haveI:=k7 hf
  simp only[List.any_eq_false] at this;obtain⟨e,he,JM⟩:=List.mem_map.mp ha;haveI h3:=this e he;simp[JM] at h3
theorem kZ{D:List UInt8}{row jm:Nat}{made:List Made}(K:Lu D row made){eo:St}(Dh:eo[jm]?=some (.list (made.map bg))){x3 x4 x5 x6 x17:Option AV}{Pz:Prop}:∀(l:List Nat)(E:List (Int×AV)) (x9 x10 x11 x12 x13 x14 x15 x16:Option AV),
  (∀i∈l,i<made.length)→GE D made E→E.length+l.length≤60 →
  (∀E' y9 zp zy Ae BV zt Au AR,loopF none (.name 9) (fun lc st=>aT tb (Sv.run tb fns (n+2)) wq lc st) (l.map fun(k:Nat)=>AV.int (k:Int)) [some (.bytes D),some (.lst bN),some (.obj jm),x3,x4,x5,x6,some (.int (row:Int)),some (.obj eo.length),x9,x10,x11,x12,x13,x14,x15,x16,x17] (eo++[.aj E]) =
   .ok .next [some (.bytes D),some (.lst bN),some (.obj jm),x3,x4,x5,x6,some (.int (row:Int)),some (.obj eo.length),y9,zp,zy,Ae,BV,zt,Au,AR,x17] (eo++[.aj E'])→GE D made E'→Pz)→Pz
 |[],E,x9,x10,x11,x12,x13,x14,x15,x16,_,G,_,kz=>kz E x9 x10 x11 x12 x13 x14 x15 x16 V.loopFn G
 |i::l,E,x9,x10,x11,x12,x13,x14,x15,x16,hl,G,hle,kz=>by
  have hi:=hl i (by simp);obtain⟨m,hm⟩:∃m,made[i]?=some m:=⟨made[i],List.getElem?_eq_getElem hi⟩;have zY:m∈made:=List.mem_of_getElem? hm;obtain⟨A,r,x,hD,hA,hx,hL⟩:=K.way i m hm;obtain⟨A',r',LO,Lx⟩:=K.Fc m zY;haveI hj:(eo++[ao.aj E])[jm]?=some (.list (made.map bg)):=by
   rw[List.getElem?_append_left (List.getElem?_eq_some_iff.mp Dh).1];exact Dh
  have he:(eo++[ao.aj E])[eo.length]?=some (.aj E):=by simp
  have h1:cX (eo++[ao.aj E]) (.obj jm) (.int (i:Int))=some (bg m):=by
   haveI hf:=K.Iw;exact V.MA hj (by simp;exact(aO 0xf42400510003c0210009) hf) rfl (by rw[List.getElem?_map,hm];rfl)
  have a2:aq .add (.int ((row:Int)+4)) (.int (4*(i:Int)))=some (.int ((row+4+4*i:Nat):Int)):=V.nF (by exact aZ 0x10401640110044810840164012008445);have a3:=jY (n:=n+1) (st:=eo++[ao.aj E]) hD hA K.len hx;have a4:aq .add (.int ((row+4+4*i:Nat):Int)) (.int (x:Int))=some (.int ((D.length-m.2.2:Nat):Int)):=V.nF (by exact(xg 0x40305820810401640110044845304020104016401100444429) hL);haveI PW:=K.p4 m zY;haveI Kx:=K.l4;have a5:=Br (n:=n) (st:=eo++[ao.aj E]) (K.k8 m zY) LO (p:=D.length-m.2.2) (by exact(cM 0x20105002102000429) Lx) K.len (NZ Kx PW);have a6:Sv.bcall .len [.bytes D] (eo++[ao.aj E])=.ok (.int (D.length:Int)) (eo++[ao.aj E]):=by
   haveI:=K.len
   show(if D.length≤1000000 then _ else _)=_
   rw[if_pos (by exact(aO 0xf4240051000186a00510009) this)]
  have hs:((D.length-m.2.2:Nat):Int)=sr D m:=by unfold sr;exact(cM 0x10800851000585001020429) Lx
  have OQ:((D.length-m.2.2+(due m.1 m.2.1).length:Nat):Int)=uq D m:=by unfold uq;exact(Oq 0x20830420100054853010005859) hs
  have k1:c6 (eo++[ao.aj E]) .setdefault (.obj eo.length)=true:=(V.Kn he).2;have js:ky (.aj E)<10000:=by show E.length<_;haveI:=G.Iw;exact(aO 0x27100410013c0210009) this
  simp only[List.length_cons] at hle;cases hf:aN E (sr D m) with
  |some v=>
   obtain⟨m',sx,e⟩:=G.of _ (p9 hf);have e1:sr D m=sr D m':=congrArg Prod.fst e;haveI e2:v=.int (uq D m'):=congrArg Prod.snd e;have PH:m.2.2=m'.2.2:=by unfold sr at e1;exact(cM 0x100021082085008208559) e1
   obtain⟨q1,q2⟩:=K.one m zY m' sx PH;haveI e3:uq D m'=uq D m:=by unfold uq;rw[e1,q1,q2]
   haveI a8:aD tb .setdefault (.obj eo.length) [.int ((D.length-m.2.2:Nat):Int),.int ((D.length-m.2.2+(due m.1 m.2.1).length:Nat):Int)] (eo++[ao.aj E])=.ok (.int ((D.length-m.2.2+(due m.1 m.2.1).length:Nat):Int)) (eo++[ao.aj E]):=by
    rw[hs,OQ,V.Ek he js hf,e2,e3]
   exact kZ K Dh l E _ _ _ _ _ _ _ _ (fun j hj=>hl j (by simp[hj])) G (by exact(aZ 0x3c0211000403c021101110400409) hle) fun E' y9 zp zy Ae BV zt Au AR er G'=>kz E' y9 zp zy Ae BV zt Au AR (V.loopFg (V.bindN rfl) (qA h1 rfl a2 a3 a4 a5 a6 (by exact(cM 0x10800851000585001020429) Lx) k1 a8) (V.loopFKn trivial er)) G'
  |none=>
   haveI a8:aD tb .setdefault (.obj eo.length) [.int ((D.length-m.2.2:Nat):Int),.int ((D.length-m.2.2+(due m.1 m.2.1).length:Nat):Int)] (eo++[ao.aj E])=.ok (.int ((D.length-m.2.2+(due m.1 m.2.1).length:Nat):Int)) (eo++[ao.aj (E++[(sr D m,.int (uq D m))])]):=by
    rw[hs,OQ];haveI hd:fy E (sr D m) (.int (uq D m))=E++[(sr D m,.int (uq D m))]:=by unfold fy;rw[k7 hf];rfl
    rw[V.Eu he js hf,hd,List.set_append_right _ _ (Nat.le_refl _),Nat.sub_self];rfl
   haveI G2:=G.push zY hf (by simp;exact(aZ 0x3b0210003c021101110400409) hle);exact kZ K Dh l _ _ _ _ _ _ _ _ _ (fun j hj=>hl j (by simp[hj])) G2 (by simp;exact(aZ 0x3c021101011004403c021101110400409) hle) fun E' y9 zp zy Ae BV zt Au AR er G'=>kz E' y9 zp zy Ae BV zt Au AR (V.loopFg (V.bindN rfl) (qA h1 rfl a2 a3 a4 a5 a6 (by exact(cM 0x10800851000585001020429) Lx) k1 a8) (V.loopFKn trivial er)) G'
end
end
section
section
variable {n:Nat}{st:St}
theorem j0:∀(l:List AV),iW (l.map fun j=>AV.bool true)=some (l.map fun j=>true)
 |[]=>rfl
 |a::r=>by show(iW (r.map fun j=>AV.bool true)).map (true::·)=_;rw[j0 r];rfl
noncomputable def FZ:C:=.gen (.name 9) (.dM (.bin .sub (.bcall .len (.cons (.var 17) .nil)) (.lit (.int 1)))) .nil (.elt (.cmp .le (.sub (.var 8) (.sub (.var 17) (.var 9))) (.sub (.var 17) (.bin .add (.var 9) (.lit (.int 1))))))
theorem CR{je i:Nat}{S:List AV}{s s' e:Int}{rc:RC}{x0 x1 x2 x3 x4 x5 x6 x7 x10 x11 x12 x13 x14 x15 x16:Option AV}(h1:cX st (.lst S) (.int (i:Int))=some (.int s))(h2:cX st (.obj je) (.int s)=some (.int e))(h3:cX st (.lst S) (.int ((i:Int)+1))=some (.int s'))(h4:e≤s') :
  aC tb rc [x0,x1,x2,x3,x4,x5,x6,x7,some (.obj je),some (.int (i:Int)),x10,x11,x12,x13,x14,x15,x16,some (.lst S)] (.cmp .le (.sub (.var 8) (.sub (.var 17) (.var 9))) (.sub (.var 17) (.bin .add (.var 9) (.lit (.int 1))))) st=.ok (.bool true) st:=by
 repeat walk_at "ev"
theorem HE{D:List UInt8}{row:Nat}{made:List Made}(K:Lu D row made){E:List (Int×AV)}(G:GE D made E){je:Nat}(he:st[je]?=some (.aj E)){rc:RC}{x0 x1 x2 x3 x4 x5 x6 x7 x9 x10 x11 x12 x13 x14 x15 x16:Option AV} :
  ∃l:List AV,Ce tb rc [x0,x1,x2,x3,x4,x5,x6,x7,some (.obj je),x9,x10,x11,x12,x13,x14,x15,x16,some (.lst (((E.map (·.1)).mergeSort fun a b=>decide (a≤b)).map .int))] FZ st=.ok (l.map fun j=>AV.bool true) st:=by
 have BA:=List.mergeSort_perm (E.map (·.1)) (fun a b=>decide (a≤b));haveI QT:((E.map (·.1)).mergeSort fun a b=>decide (a≤b)).Pairwise (fun a b=>decide (a≤b)=true):=by
  apply List.pairwise_mergeSort
  ·intro a b c h1 h2;simp at h1 h2 ⊢;exact(O2 0x10003102039200039) h1 h2
  ·intro a b;simp;exact It 0x103100038
 haveI jO:((E.map (·.1)).mergeSort fun a b=>decide (a≤b)).Nodup:=BA.nodup_iff.mpr G.nd;have hlen:((E.map (·.1)).mergeSort fun a b=>decide (a≤b)).length=E.length:=by simp
 generalize ((E.map (·.1)).mergeSort fun a b=>decide (a≤b))=S at *;have vb:=G.Iw;haveI QO:Sv.bcall .len [.lst (S.map .int)] st=.ok (.int (S.length:Int)) st:=by
  show(if (S.map AV.int).length≤1000000 then _ else _)=_
  rw[if_pos (by simp;exact(aZ 0xf42400510003c0211009100029) hlen vb)];simp
 refine⟨(List.range ((S.length:Int)-1).toNat).map fun(k:Nat)=>AV.int (k:Int),?_⟩;unfold FZ;refine V.Fo (s1:=st) (o:=none) (l:=(List.range ((S.length:Int)-1).toNat).map fun(k:Nat)=>AV.int (k:Int)) ?_ (by simp;exact(aZ 0x186a10510003c0211009100029) hlen vb) ?_
 ·rw[V.src1 (n:=(S.length:Int)-1) (V.binn (V.bcl (V.esC (V.varr rfl) V.esN) QO) V.litt rfl) ⟨by exact aO 0x1012008527100433,by exact(aZ 0x27100421012008533c0211009100029) hlen vb⟩]
  simp[dD]
 ·refine lx _ _ ?_
  intro x hx;rw[List.mem_map] at hx;obtain⟨i,hi,rfl⟩:=hx;have Lb:=List.mem_range.mp hi;have LI:i<S.length:=(aZ 0x1000110121085a0019) Lb;have Ff:i+1<S.length:=(aZ 0x101011004110121085a0019) Lb;haveI e1:S[i]≤S[i+1]:=by haveI:=List.pairwise_iff_getElem.mp QT i (i+1) LI Ff (by exact aO 0x1011004001);simpa using this
  haveI e2:S[i]≠S[i+1]:=List.pairwise_iff_getElem.mp jO i (i+1) LI Ff (by exact aO 0x1011004001);haveI k1:S[i]∈E.map (·.1):=BA.mem_iff.mp (List.getElem_mem LI);haveI k2:S[i+1]∈E.map (·.1):=BA.mem_iff.mp (List.getElem_mem Ff);obtain⟨v,hv⟩:∃v,aN E S[i]=some v:=by
   cases h:aN E S[i] with
   |some v=>exact⟨v,rfl⟩
   |none=>
    haveI h2:=k7 h;simp only[List.any_eq_false] at h2;obtain⟨e,Cn,JM⟩:=List.mem_map.mp k1;haveI h3:=h2 e Cn;simp[JM] at h3
  obtain⟨m,hm,em⟩:=G.of _ (p9 hv);haveI Pe:S[i]=sr D m:=congrArg Prod.fst em;haveI QY:v=.int (uq D m):=congrArg Prod.snd em;obtain⟨e',Cn,JM⟩:=List.mem_map.mp k2;obtain⟨m',sx,PE⟩:=G.of _ Cn;have M9:S[i+1]=sr D m':=by rw[←JM,PE]
  haveI IK:=K.ap m hm m' sx (by unfold sr at Pe M9;exact(Qi 0x1000100820854059108208530594030569403039) e1 e2 Pe M9);haveI hle:uq D m≤S[i+1]:=by rw[M9];unfold uq sr;exact(gk 0x3080085208108008543102030409) IK
  haveI h1:cX st (.lst (S.map .int)) (.int (i:Int))=some (.int S[i]):=V.vJ (by simp;exact(aZ 0xf42400510003c0211009100029) hlen vb) rfl (by simp[LI]);haveI h3:cX st (.lst (S.map .int)) (.int ((i:Int)+1))=some (.int S[i+1]):=V.vJ (k:=i+1) (by simp;exact(aZ 0xf42400510003c0211009100029) hlen vb) (by exact aO 0x10110048101200845) (by simp[Ff]);haveI h2:cX st (.obj je) (.int S[i])=some (.int (uq D m)):=by
   rw[V.Ry he hv,QY]
  show(aC tb rc [x0,x1,x2,x3,x4,x5,x6,x7,some (.obj je),some (.int (i:Int)),x10,x11,x12,x13,x14,x15,x16,some (.lst (S.map .int))] _ st).bind (fun v st=>R.ok [v] st)=_
  rw[CR h1 h2 h3 hle]
structure Head(D:List UInt8)(N:Nat):Prop where
 ex:∃rest,D=leB 4 (12:Nat)++([0,0]++(leB 2 (6:Nat)++(leB 2 (8:Nat)++(leB 2 (4:Nat)++(leB 4 (6:Nat)++(leB 4 (4:Nat)++(leB 4 (N:Nat)++rest)))))))
theorem uL{D:List UInt8}{jm N:Nat}{E:List (Int×AV)}{l:List AV}{y9 zp zy Ae BV zt Au AR:Option AV}
  (a1:run tb fns (n+3) bV [.bytes D,.int 0,.int 4] none st=.ok (.int 12) st) (a2:run tb fns (n+3) bV [.bytes D,.int 12,.int 4] none st=.ok (.int 6) st) (a3:run tb fns (n+3) bV [.bytes D,.int 10,.int 2] none st=.ok (.int 4) st) (a4:run tb fns (n+3) bV [.bytes D,.int 16,.int 4] none st=.ok (.int 4) st)
  (a5:run tb fns (n+3) bV [.bytes D,.int 6,.int 2] none st=.ok (.int 6) st) (a6:run tb fns (n+3) bV [.bytes D,.int 20,.int 4] none st=.ok (.int (N:Int)) st) (b1:Sv.bcall .len [.obj jm] st=.ok (.int (N:Int)) st) (b2:Sv.bcall .len [.obj jm] (st++[.aj []])=.ok (.int (N:Int)) (st++[.aj []])) (hN:N≤100)
  (e1:loopF none (.name 9) (fun lc st=>aT tb (Sv.run tb fns (n+3)) wq lc st) ((List.range N).map fun(k:Nat)=>AV.int (k:Int)) [some (.bytes D),some (.lst bN),some (.obj jm),some (.int 12),some (.int 6),some (.int 6),some (.int 16),some (.int 20),some (.obj st.length),none,none,none,none,none,none,none,none,none] (st++[.aj []]) =
   .ok .next [some (.bytes D),some (.lst bN),some (.obj jm),some (.int 12),some (.int 6),some (.int 6),some (.int 16),some (.int 20),some (.obj st.length),y9,zp,zy,Ae,BV,zt,Au,AR,none] (st++[.aj E]))
  (e2:Sv.bcall .sorted [.obj st.length] (st++[.aj E])=.ok (.lst (((E.map (·.1)).mergeSort fun a b=>decide (a≤b)).map .int)) (st++[.aj E]))
  (e3:Ce tb (Sv.run tb fns (n+3)) [some (.bytes D),some (.lst bN),some (.obj jm),some (.int 12),some (.int 6),some (.int 6),some (.int 16),some (.int 20),some (.obj st.length),y9,zp,zy,Ae,BV,zt,Au,AR,some (.lst (((E.map (·.1)).mergeSort fun a b=>decide (a≤b)).map .int))] FZ (st++[.aj E])=.ok (l.map fun j=>AV.bool true) (st++[.aj E])) :
  run tb fns (n+4) b9 [.bytes D,.lst bN,.obj jm] none st=.ok (.bool true) (st++[.aj E]):=by
 haveI p1:aq .pow (.int 2) (.int 31)=some (.int 2147483648):=rfl;haveI p2:aq .add (.int 12) (.int 4)=some (.int 16):=rfl;haveI p3:aq .add (.int 16) (.int 4)=some (.int 20):=rfl;haveI p4:aq .sub (.int 12) (.int 6)=some (.int 6):=rfl;haveI p5:aq .add (.int 6) (.int 4)=some (.int 10):=rfl;haveI e4:Sv.bcall .vz [.lst (l.map fun j=>AV.bool true)] (st++[.aj E])=.ok (.bool true) (st++[.aj E]):=by
  show R.ei _ ((iW _).map fun l=>AV.bool (l.all id))=_;rw[j0];exact congrArg (fun b=>R.ok (AV.bool b) _) (by simp)
 apply V.runN (l:=[some (.bytes D),some (.lst bN),some (.obj jm),none,none,none,none,none,none,none,none,none,none,none,none,none,none,none]) rfl rfl rfl (fl:=.ret (.bool true));unfold dX
 repeat ((fail_if_success (with_reducible show aT _ _ (.cons (.mi _ _ _) _) _ _=_));walk_at "ev")
 apply V.ssC (f:=.next) (lc1:=[some (.bytes D),some (.lst bN),some (.obj jm),some (.int 12),some (.int 6),some (.int 6),some (.int 16),some (.int 20),some (.obj st.length),y9,zp,zy,Ae,BV,zt,Au,AR,none]) (s1:=st++[.aj E])
 ·apply V.sFor
  ·apply V.src1 (n:=(N:Int))
   ·repeat walk_at "ev"
   ·exact(aO 0x27100420083008271004337640210009) hN
  ·rw[mB];exact e1
 apply V.ssKn;apply V.ssC (V.sAssignN (V.bcl (V.esC (V.varr rfl) V.esN) e2) rfl);apply V.ssKn;apply V.ssC (V.sRet (V.bcl (V.esC (V.cpr e3) V.esN) e4));rfl
theorem yx(K:Lu D 20 made)(H:Head D made.length)(Dh:st[jm]?=some (.list (made.map bg))):∃st',run tb fns (n+4) b9 [.bytes D,.lst bN,.obj jm] none st=.ok (.bool true) st':=by
 obtain⟨rest,hD⟩:=H.ex;have hz:=K.len;have hN:=K.Iw;haveI a1:=jY (n:=n+2) (st:=st) (A:=[]) (p:=0) hD rfl hz (by exact ed 0x100000000091c0111);haveI a5:=wA (n:=n+2) (st:=st) (A:=leB 4 (12:Nat)++[0,0]) (p:=6) (x:=6) (by rw[hD];simp only[List.append_assoc];rfl) (by simp[ai]) hz (by exact ed 0x1000005160111);haveI a3:=wA (n:=n+2) (st:=st) (A:=leB 4 (12:Nat)++([0,0]++(leB 2 (6:Nat)++leB 2 (8:Nat)))) (p:=10) (x:=4) (by rw[hD];simp only[List.append_assoc];rfl) (by simp[ai]) hz (by exact ed 0x1000005140111);haveI a2:=jY (n:=n+2) (st:=st) (A:=leB 4 (12:Nat)++([0,0]++(leB 2 (6:Nat)++(leB 2 (8:Nat)++leB 2 (4:Nat))))) (p:=12) (x:=6) (by rw[hD];simp only[List.append_assoc];rfl) (by simp[ai]) hz (by exact ed 0x10000000009160111);haveI a4:=jY (n:=n+2) (st:=st) (A:=leB 4 (12:Nat)++([0,0]++(leB 2 (6:Nat)++(leB 2 (8:Nat)++(leB 2 (4:Nat)++leB 4 (6:Nat)))))) (p:=16) (x:=4) (by rw[hD];simp only[List.append_assoc];rfl) (by simp[ai]) hz (by exact ed 0x10000000009140111);haveI a6:=jY (n:=n+2) (st:=st) (A:=leB 4 (12:Nat)++([0,0]++(leB 2 (6:Nat)++(leB 2 (8:Nat)++(leB 2 (4:Nat)++(leB 4 (6:Nat)++leB 4 (4:Nat))))))) (p:=20) (x:=made.length) (by rw[hD];simp only[List.append_assoc];rfl) (by simp[ai]) hz (by exact(aO 0x1000000000910013c0210009) hN);refine kZ (n:=n+1) (x3:=some (.int 12)) (x4:=some (.int 6)) (x5:=some (.int 6)) (x6:=some (.int 16)) (x17:=none) K Dh (List.range made.length) [] none none none none none none none none (fun i hi=>List.mem_range.mp hi) ⟨fun e he=>by simp at he,by simp,by simp⟩ (by simp;omega) fun E y9 zp zy Ae BV zt Au AR e1 G=>?_
 have he:(st++[ao.aj E])[st.length]?=some (.aj E):=by simp
 obtain⟨l,e3⟩:=HE (st:=st++[ao.aj E]) K G he (rc:=Sv.run tb fns (n+3)) (x0:=some (.bytes D)) (x1:=some (.lst bN)) (x2:=some (.obj jm)) (x3:=some (.int 12)) (x4:=some (.int 6)) (x5:=some (.int 6)) (x6:=some (.int 16)) (x7:=some (.int 20)) (x9:=y9) (x10:=zp) (x11:=zy) (x12:=Ae) (x13:=BV) (x14:=zt) (x15:=Au) (x16:=AR);haveI b1:Sv.bcall .len [.obj jm] st=.ok (.int (made.length:Int)) st:=by
  show d7 st (.obj jm)=_;simp only[d7,Dh];rw[if_pos (by simp;exact(aO 0xf42400510003c0210009) hN)];simp
 haveI QC:(st++[ao.aj []])[jm]?=some (.list (made.map bg)):=by
  rw[List.getElem?_append_left (List.getElem?_eq_some_iff.mp Dh).1];exact Dh
 haveI b2:Sv.bcall .len [.obj jm] (st++[ao.aj []])=.ok (.int (made.length:Int)) (st++[ao.aj []]):=by
  show d7 _ (.obj jm)=_;simp only[d7,QC];rw[if_pos (by simp;exact(aO 0xf42400510003c0210009) hN)];simp
 haveI e2:Sv.bcall .sorted [.obj st.length] (st++[ao.aj E])=.ok (.lst (((E.map (·.1)).mergeSort fun a b=>decide (a≤b)).map .int)) (st++[ao.aj E]):=by
  haveI:=G.Iw
  show kM _ (.obj st.length)=_;simp only[kM,he];rw[if_pos (by exact(aO 0x400210013c0210009) this)]
 exact⟨_,uL a1 a2 a3 a4 a5 a6 b1 b2 (by exact(aO 0x640210003c0210009) hN) e1 e2 e3⟩
end
end
structure PI(W:List UInt8)(kn:List (Nat×Nat))(made:List Made):Prop where
 k8:∀m∈made,m.1<8
 Fc:∀m∈made,∃A r,W=A++(due m.1 m.2.1++r)∧A.length+m.2.2=W.length
 p4:∀m∈made,m.2.2%4=0
 one:∀m∈made,∀m'∈made,m.2.2=m'.2.2→m.1=m'.1∧m.2.1=m'.2.1
 ap:∀m∈made,∀m'∈made,m'.2.2<m.2.2→m'.2.2+(due m.1 m.2.1).length≤m.2.2
 kn:∀p∈kn,(p.1,false,p.2)∈made
theorem PI.grow{W:List UInt8}{kn:List (Nat×Nat)}{made:List Made}(P:PI W kn made)(x:List UInt8):PI (x++W) kn made:=
 ⟨P.k8,fun m hm=>by
  obtain⟨A,r,h1,h2⟩:=P.Fc m hm;exact⟨x++A,r,by rw[h1];simp[List.append_assoc],by simp;exact(gk 0x30004201000442302010429) h2⟩,P.p4,P.one,P.ap,P.kn⟩
theorem PI.le{W:List UInt8}{kn:List (Nat×Nat)}{made:List Made}(P:PI W kn made):∀m∈made,m.2.2≤W.length:=fun m hm=>by
 obtain⟨A,r,h1,h2⟩:=P.Fc m hm;exact(cM 0x10000100020429) h2
theorem PI.add{W W' x:List UInt8}{kn:List (Nat×Nat)}{made:List Made}(P:PI W kn made){k:Nat}{r:Bool}(hk:k<8)(hW:W'=x++W)(h4:W'.length%4=0)(hd:∃y,W'=due k r++y)(hl:W.length+(due k r).length≤W'.length):PI W' kn (made++[(k,r,W'.length)]):=by
 haveI P':=P.grow x;rw[←hW] at P';have hle:=P.le;have uN:=(@wX k r).1;have mem:∀m∈made++[(k,r,W'.length)],m∈made∨m=(k,r,W'.length):=fun m hm=>by
  rcases List.mem_append.mp hm with h|h
  ·exact .inl h
  ·simp at h;exact .inr h
 refine⟨fun m hm=>?_,fun m hm=>?_,fun m hm=>?_,fun m hm m' sx he=>?_,fun m hm m' sx he=>?_,fun p hp=>List.mem_append_left _ (P.kn p hp)⟩
 ·rcases mem m hm with h|h
  ·exact P.k8 m h
  ·subst h;exact hk
 ·rcases mem m hm with h|h
  ·exact P'.Fc m h
  ·subst h
   obtain⟨y,hy⟩:=hd;exact⟨[],y,hy,by simp⟩
 ·rcases mem m hm with h|h
  ·exact P.p4 m h
  ·subst h;exact h4
 ·rcases mem m hm with h|h<;>rcases mem m' sx with h'|h'
  ·exact P.one m h m' h' he
  ·subst h';haveI:=hle m h;simp only at he;exact((gk 0x10300600302920401109002010409) hl uN he this).elim
  ·subst h;haveI:=hle m' h';simp only at he;exact((gk 0x10300630002920401109002010409) hl uN he this).elim
  ·subst h;subst h';exact⟨rfl,rfl⟩
 ·rcases mem m hm with h|h<;>rcases mem m' sx with h'|h'
  ·exact P.ap m h m' h' he
  ·subst h';haveI:=hle m h;simp only at he;exact(xg 0x20100040302009200019004030409) hl he this
  ·subst h;haveI:=hle m' h';simp only at he ⊢;exact(gk 0x20100040300009201030409) hl this
  ·subst h;subst h';simp only at he;exact(aZ 0x100040000019) he
theorem zH(k:Nat)(W:List UInt8):∃y,bu (wo k) W=due k false++(y++W):=by
 refine⟨List.replicate (pd 4 (W.length+((wo k).length+1))) 0,?_⟩;haveI h1:leB 1 0=[0]:=rfl;simp[bu,due,al,h1,List.append_assoc]
theorem CW(k:Nat)(W:List UInt8):∃y,gW (wo k) W=due k true++(y++W):=by
 refine⟨List.replicate (pd 4 (W.length+(wo k).length)) 0,?_⟩;simp[gW,due,al,List.append_assoc]
set_option tactic.hygienic true in
theorem PI.step{W W':List UInt8}{kn ja:List (Nat×Nat)}{made:List Made}(P:PI W kn made){k:Nat}(hk:k<8){c:Int}{m:Made}(S:Step k W kn c m W' ja) :
  PI W' ja (made++[m])∧(made.any fun m'=>m'.2.2==m.2.2)=(decide (c<5)&&(kf kn k).isSome)∧W'.length≤W.length+14∧ja.length≤kn.length+1:=by
 haveI hw:=@iQ (wo k) W;haveI hr:=@tV (wo k) W;haveI Nl:=@jy k;haveI hle:=P.le;have fresh:∀{p:Nat},W.length<p→(made.any fun m'=>m'.2.2==p)=false:=fun hp=>by
  rw[List.any_eq_false];intro m hm
  haveI:=hle m hm
  simp;exact(cM 0x100026200009102019) hp this
 have dl:∀{r:Bool},(due k r).length=4+((wo k).length+if r then 0 else 1):=fun {r}=>by cases r<;>simp[due,ai]
 have Pw:PI (bu (wo k) W) kn (made++[(k,false,(bu (wo k) W).length)]):=by
  obtain⟨y,hy⟩:=zH k W;refine P.add (x:=due k false++y) hk (by rw[hy,List.append_assoc]) hw.1 ⟨_,hy⟩ ?_
  haveI:=@dl false;simp at this;exact(xg 0x20100040101130440114102980113000442002050113000440700140279) hw this
 have Pr:PI (gW (wo k) W) kn (made++[(k,true,(gW (wo k) W).length)]):=by
  obtain⟨y,hy⟩:=CW k W;refine P.add (x:=due k true++y) hk (by rw[hy,List.append_assoc]) hr.1 ⟨_,hy⟩ ?_
  haveI:=@dl true;simp at this;exact(xg 0x201000403040114102970113000442002040113000440700140279) hr this
 cases S with
 |hit h f=>
  rename_i p
  haveI hm:(k,p)∈kn:=by
   unfold kf at f;rw[Option.map_eq_some_iff] at f;obtain⟨e,h1,h2⟩:=f;haveI h3:=List.find?_some h1;haveI h4:=List.mem_of_find?_eq_some h1;obtain⟨a,c⟩:=e;simp at h3 h2;subst h3;subst h2;exact h4
  have sx:=P.kn _ hm;have sub:∀m∈made++[(k,false,p)],m∈made:=fun m hm=>by
   rcases List.mem_append.mp hm with h|h
   ·exact h
   ·simp at h;subst h;exact sx
  refine⟨⟨fun m hm=>P.k8 m (sub m hm),fun m hm=>P.Fc m (sub m hm),fun m hm=>P.p4 m (sub m hm),fun m hm m' sx=>P.one m (sub m hm) m' (sub m' sx),fun m hm m' sx=>P.ap m (sub m hm) m' (sub m' sx),fun p hp=>List.mem_append_left _ (P.kn p hp)⟩,?_,by exact aO 0xe011004000,by exact aO 0x1011004000⟩;rw[f,decide_eq_true h];simp only[Option.isSome_some,Bool.and_true,List.any_eq_true];exact⟨_,sx,by simp⟩
 |fresh h f=>
  refine⟨⟨Pw.k8,Pw.Fc,Pw.p4,Pw.one,Pw.ap,fun p hp=>?_⟩,?_,by exact(gk 0xe0111040006011200980112010440000050112010440700130279) hw Nl,by simp⟩
  ·rcases List.mem_append.mp hp with h|h
   ·exact Pw.kn p h
   ·simp at h;subst h;simp
  ·rw[f,fresh (by show W.length<(bu (wo k) W).length;exact(gk 0x1000180112000441001050112000440700130279) hw)];simp
 |text h h'=>
  refine⟨Pw,?_,by exact(gk 0xe0111040006011200980112010440000050112010440700130279) hw Nl,by exact aO 0x1011004000⟩;rw[fresh (by show W.length<(bu (wo k) W).length;exact(gk 0x1000180112000441001050112000440700130279) hw),decide_eq_false (by exact(fz 0x5012004600501239) h)];rfl
 |row h=>
  refine⟨Pr,?_,by exact(gk 0xe0111040006011200970112010440000040112010440700130279) hr Nl,by exact aO 0x1011004000⟩;rw[fresh (by show W.length<(gW (wo k) W).length;exact(gk 0x1000170112000441001040112000440700130279) hr),decide_eq_false (by exact(fz 0x5012004600701239) h)];rfl
noncomputable def dP:List Made→List UInt8→List UInt8
 |[],W=>W
 |m::r,W=>leB 4 (((dP r W).length-m.2.2+4:Nat):Int)++dP r W
theorem eY:∀{l:List Made},(dP l W).length=4*l.length+W.length
 |[]=>by show W.length=4*0+W.length;rw[Nat.mul_zero,Nat.zero_add]
 |m::r=>by show(leB 4 _++dP r W).length=_;rw[List.length_append,ai,@eY W r,List.length_cons];exact aZ 0x10101100440164100040164401142
theorem vZ:∀{l:List Made}{i:Nat}{m:Made},l[i]?=some m→∃A,dP l W=A++(leB 4 (((dP (l.drop (i+1)) W).length-m.2.2+4:Nat):Int)++dP (l.drop (i+1)) W)∧A.length=4*i
 |[],i,m,h=>by simp at h
 |x::r,0,m,h=>by
  simp at h;subst h;exact⟨[],rfl,rfl⟩
 |x::r,i+1,m,h=>by
  simp at h;obtain⟨A,h1,h2⟩:=vZ (W:=W) h;refine⟨leB 4 (((dP r W).length-x.2.2+4:Nat):Int)++A,?_,by simp[ai,h2];exact aO 0x10110044016004016401142⟩;show leB 4 _++dP r W=_;rw[List.append_assoc,List.drop_succ_cons,←h1]
theorem pQ:∀{l:List Made},∃x,dP l W=x++W
 |[]=>⟨[],rfl⟩
 |m::r=>by
  obtain⟨x,h⟩:=@pQ W r;exact⟨leB 4 _++x,by show leB 4 _++dP r W=_;rw[h,List.append_assoc]⟩
theorem Fy:∀(x:Nat),2+(2+(2+(4+(4+x))))-(x+6)=8:=fun x0=>(aO 0x8011601100400401144011420114201142011452)
theorem Gh:∀(x dR gx:Nat),x≤2000→dR≤60→gx=24+(4*dR+x)→gx≤100000:=fun x0 x1 x2 h0 h1 h2=>(cM 0x186a005100010204016418021400293c02120097d00311009) h0 h1 h2
theorem GH:∀(x dR gx tZ HO:Nat),x≤2000→dR≤60→gx=4*(dR-(tZ+1))+x→gx-HO+4<4294967296:=fun x0 x1 x2 x3 x4 h0 h1 h2=>(xg 0x100000000091401110005412010114043054016400293c02130097d00312009) h0 h1 h2
theorem H3:∀(x dR gx tZ HO Iu:Nat),x=24+(4*dR+gx)→tZ<dR→HO≤gx→Iu=4*(dR-(tZ+1))+gx→20+4+4*tZ+(Iu-HO+4)+HO=x:=fun x0 x1 x2 x3 x4 x5 h0 h1 h2 h3=>(LD 0x30204011201054004016401114021444424010110045054016410294020095000194050401641802143029) h0 h1 h2 h3
theorem final(P:PI W kn made)(h4:W.length%4=0)(hW:W.length≤2000)(hm:made.length≤60)(hV:V=leB 4 (made.length:Nat)++dP made W)(hD:D=xG (eg (leB 4 (4:Nat)++V)) (V.length+8)) :
 Lu D 20 made∧Head D made.length:=by
 haveI R3:V.length=4+(4*made.length+W.length):=by rw[hV];simp[ai,eY]
 haveI LX:(eg (leB 4 (4:Nat)++V)).length+2-(V.length+8)+4=12:=by simp[eg,ai];exact Fy _
 have LO:D=leB 4 (12:Nat)++([0,0]++(leB 2 (6:Nat)++(leB 2 (8:Nat)++(leB 2 (4:Nat)++(leB 4 (6:Nat)++(leB 4 (4:Nat)++(leB 4 (made.length:Nat)++dP made W))))))):=by
  rw[hD,xG,LX,hV];rfl
 haveI hH:∃HD,D=HD++dP made W∧HD.length=24:=⟨leB 4 (12:Nat)++([0,0]++(leB 2 (6:Nat)++(leB 2 (8:Nat)++(leB 2 (4:Nat)++(leB 4 (6:Nat)++(leB 4 (4:Nat)++leB 4 (made.length:Nat))))))),by rw[LO];simp only[List.append_assoc],by simp[ai]⟩;obtain⟨HD,h1,h2⟩:=hH;have Nn:D.length=24+(4*made.length+W.length):=by rw[h1,List.length_append,h2,eY]
 obtain⟨wx,QZ⟩:=@pQ W made;haveI P2:=P.grow (HD++wx);haveI PB:HD++wx++W=D:=by rw[h1,QZ,List.append_assoc]
 rw[PB] at P2;refine⟨⟨by exact Gh _ _ _ hW hm Nn,by rw[Nn];exact BX rfl (BX (Nat.mul_mod_right 4 _) h4),hm,P.k8,fun i m hi=>?_,P2.Fc,P.p4,P.one,P.ap⟩,⟨⟨_,LO⟩⟩⟩;obtain⟨A,a1,a2⟩:=vZ (W:=W) hi;haveI zY:m∈made:=List.mem_of_getElem? hi;have Ri:i<made.length:=(List.getElem?_eq_some_iff.mp hi).1;haveI hle:=P.le m zY;have OO:(dP (made.drop (i+1)) W).length=4*(made.length-(i+1))+W.length:=by rw[eY,List.length_drop]
 refine⟨HD++A,dP (made.drop (i+1)) W,(dP (made.drop (i+1)) W).length-m.2.2+4,by rw[h1,a1,List.append_assoc],by simp[h2,a2]<;>omega,by exact GH _ _ _ _ _ hW hm OO,by exact H3 _ _ _ _ _ _ Nn Ri hle OO⟩
section
section
variable {n:Nat}{st:St}{b:Nat}{q:Bq}
theorem AL{made:List Made}{p:Nat}:jI (.int (p:Int)) (made.map fun m=>AV.int (m.2.2:Int))=some (made.any fun m=>m.2.2==p):=by
 show gd ((made.map fun m=>AV.int (m.2.2:Int)).all AV.Ja) (some ((made.map fun m=>AV.int (m.2.2:Int)).any (AV.zZ (p:Int))))=_;rw[show(made.map fun m=>AV.int (m.2.2:Int)).all AV.Ja=true by simp[AV.Ja]];refine congrArg some ?_;rw[List.any_map];refine congrArg (fun f=>made.any f) (funext fun m=>?_)
 show(((m.2.2:Nat):Int)==(p:Int))=(m.2.2==p)
 by_cases e:m.2.2=p
 ·rw[e,beq_self_eq_true,beq_self_eq_true]
 ·haveI h:((m.2.2:Nat):Int)≠(p:Int):=(aZ 0x108008561000269) e
  rw[beq_eq_false_iff_ne.mpr h,beq_eq_false_iff_ne.mpr e]
theorem ou{jm jk jt:Nat}{made:List Made}{kn:List (Nat×Nat)}(S:SI st b q jm jk jt made kn)(P:PI q.tail kn made){num:Int}{k:Nat}(hk:k<8)(hn:(num.fdiv 8).fmod 8=k)(ht:q.tail.length≤8000)(tT:kn.length≤99)(hm:made.length≤100){Pz:Prop}(kz:∀af aU bf q' m ja,run tb fns (n+6) cU [.obj b,.int num,.lst bN,.obj jk] none st=.ok (bg m) af→bB af .isin (.int (m.2.2:Int)) (.obj jt)=some (decide (num.fmod 8<5)&&(kf kn k).isSome)→c6 af .append (.obj jm)=true→aD tb .append (.obj jm) [bg m] af=.ok .none aU→c6 aU .append (.obj jt)=true→aD tb .append (.obj jt) [.int (m.2.2:Int)] aU=.ok .none bf→SI bf b q' jm jk jt (made++[m]) ja→PI q'.tail ja (made++[m])→q'.tail.length≤q.tail.length+14→ja.length≤kn.length+1→(q'.ma=4∨q'=q)→Pz):Pz:=by
 refine zU (n:=n) S hk hn ht tT fun af q' m ja e1 S1 hs hlen rp qh=>?_
 obtain⟨P1,Na,FG,IY⟩:=P.step hk hs;have lt:=S1.K4;haveI e2:aD tb .append (.obj jm) [bg m] af=.ok .none (af.set jm (.list ((made++[m]).map bg))):=by
  rw[V.app S1.om (by simp;exact(aO 0x2710041001640210009) hm)];simp
 have OT:(af.set jm (.list ((made++[m]).map bg)))[jt]?=some (.list (made.map fun m=>.int m.2.2)):=by rw[List.getElem?_set_ne S.ap.2.1];exact S1.ot
 haveI e3:aD tb .append (.obj jt) [.int (m.2.2:Int)] (af.set jm (.list ((made++[m]).map bg)))=.ok .none ((af.set jm (.list ((made++[m]).map bg))).set jt (.list ((made++[m]).map fun m=>.int m.2.2))):=by
  rw[V.app OT (by simp;exact(aO 0x2710041001640210009) hm)];simp
 refine kz af _ _ q' m ja e1 ?_ (V.KR S1.om) e2 (V.KR OT) e3 ⟨(S1.bi.uQ S1.nm _).uQ S1.nt _,S1.ne,S1.fin,S1.sh,S1.Ez,S1.Cm,S1.vt,S1.t4,S1.ma,?_,?_,?_,S1.nm,S1.nk,S1.nt,S1.ap⟩ P1 FG IY qh
 ·show jS af (.int (m.2.2:Int)) (.obj jt)=_
  rw[V.Qs S1.ot AL,Na]
 ·rw[List.getElem?_set_ne S.ap.2.1.symm,List.getElem?_set_self lt.1]
 ·rw[List.getElem?_set_ne S.ap.2.2.symm,List.getElem?_set_ne S.ap.1];exact S1.ok
 ·rw[List.getElem?_set_self (by simp;exact lt.2.2)]
noncomputable def pR:Ss:=(.cons (.ite (.or (.cmp .is (.var 9) (.lit .none)) (.cmp .ne (.cmp .isin (.sub (.var 9) (.lit (.int 2))) (.var 6)) (.var 8))) (.cons (.ret (some (.lit (.bool false)))) .nil) .nil) (.cons (.expr (.aD (.var 4) .append (.cons (.var 9) .nil))) (.cons (.expr (.aD (.var 6) .append (.cons (.sub (.var 9) (.lit (.int 2))) .nil))) .nil)))
theorem lB(h1:bB af .isin (.int (m.2.2:Int)) (.obj jt)=some t)(k1:c6 af .append (.obj jm)=true)(a1:aD tb .append (.obj jm) [bg m] af=.ok .none aU)
(k2:c6 aU .append (.obj jt)=true)(a2:aD tb .append (.obj jt) [.int (m.2.2:Int)] aU=.ok .none bf) :
 aT tb rc pR [x0,x1,x2,x3,some (.obj jm),some (.obj jk),some (.obj jt),x7,some (.bool t),some (bg m),x10,x11] af=.ok .next [x0,x1,x2,x3,some (.obj jm),some (.obj jk),some (.obj jt),x7,some (.bool t),some (bg m),x10,x11] bf:=by
 haveI hb:bB af .ne (.bool t) (.bool t)=some false:=by cases t<;>rfl
 haveI hn:bB af .is (bg m) .none=some false:=rfl;haveI RO:cX af (bg m) (.int 2)=some (.int (m.2.2:Int)):=rfl;haveI B5:cX aU (bg m) (.int 2)=some (.int (m.2.2:Int)):=rfl;unfold pR
 repeat walk_at "ev"
noncomputable def AU:S:=(.ite (.and (.cmp .eq (.bin .mod (.bin .floordiv (.var 7) (.lit (.int 64))) (.lit (.int 3))) (.lit (.int 1))) (.un .not (.aY 675 (.cons (.var 2) (.cons (.sub (.var 3) (.bin .mod (.bin .floordiv (.var 7) (.lit (.int 8))) (.lit (.int 8)))) (.cons (.cmp .eq (.bin .mod (.var 7) (.lit (.int 2))) (.lit (.int 1))) .nil))) Option.none Option.none))) (.cons (.ret (some (.lit (.bool false)))) .nil) .nil)
theorem GD(hc:(num.fdiv 64).fmod 3≠1) :
 eK tb rc AU [x0,x1,x2,x3,x4,x5,x6,some (.int num),x8,x9,x10,x11] st=.ok .next [x0,x1,x2,x3,x4,x5,x6,some (.int num),x8,x9,x10,x11] st:=by
 unfold AU
 repeat walk_at "ev"
theorem D8{rc:RC}{af:St}{num:Int}{k:Nat}{r:Bool}{x0 x1 x4 x5 x6 x8 x9 x10 x11:Option AV}(hc:(num.fdiv 64).fmod 3=1)(d1:aq .mod (.int (num.fdiv 8)) (.int 8)=some (.int (k:Int)))(hw:cX st (.lst bN) (.int (k:Int))=some (wd k))
  (hr:bB st .eq (.int (num.fmod 2)) (.int 1)=some r) (e1:rc dn [.obj b,wd k,.bool r] none st=.ok (.bool true) af) :
  eK tb rc AU [x0,x1,some (.obj b),some (.lst bN),x4,x5,x6,some (.int num),x8,x9,x10,x11] st=.ok .next [x0,x1,some (.obj b),some (.lst bN),x4,x5,x6,some (.int num),x8,x9,x10,x11] af:=by
 unfold AU
 repeat walk_at "ev"
noncomputable def u0:Ss:=.cons AU (.cons (.assign 8 (.and (.cmp .lt (.bin .mod (.var 7) (.lit (.int 8))) (.lit (.int 5))) (.cmp .isin (.bin .mod (.bin .floordiv (.var 7) (.lit (.int 8))) (.lit (.int 8))) (.var 5)))) (.cons (.assign 9 (.aY 689 (.cons (.var 2) (.cons (.var 7) (.cons (.var 3) (.cons (.var 5) .nil)))) Option.none Option.none)) pR))
theorem tP{rc:RC}{af:St}{jk k:Nat}{num:Int}{ks:Bool}{m:Made}{x0 x1 x4 x6 x8 x9 x10 x11:Option AV}{X:X}(d1:aq .mod (.int (num.fdiv 8)) (.int 8)=some (.int (k:Int)))(CM:bB st .isin (.int (k:Int)) (.obj jk)=some ks)
  (e1:rc cU [.obj b,.int num,.lst bN,.obj jk] none st=.ok (bg m) af) (ht:aT tb rc pR [x0,x1,some (.obj b),some (.lst bN),x4,some (.obj jk),x6,some (.int num),some (.bool (decide (num.fmod 8<5)&&ks)),some (bg m),x10,x11] af=X) :
  aT tb rc (.cons (.assign 8 (.and (.cmp .lt (.bin .mod (.var 7) (.lit (.int 8))) (.lit (.int 5))) (.cmp .isin (.bin .mod (.bin .floordiv (.var 7) (.lit (.int 8))) (.lit (.int 8))) (.var 5)))) (.cons (.assign 9 (.aY 689 (.cons (.var 2) (.cons (.var 7) (.cons (.var 3) (.cons (.var 5) .nil)))) Option.none Option.none)) pR))
   [x0,x1,some (.obj b),some (.lst bN),x4,some (.obj jk),x6,some (.int num),x8,x9,x10,x11] st=X:=by
 have d2:aq .mod (.int num) (.int 8)=some (.int (num.fmod 8)):=V.fmod (by decide)
 by_cases hc:num.fmod 8<5
 ·haveI hv:aC tb rc [x0,x1,some (.obj b),some (.lst bN),x4,some (.obj jk),x6,some (.int num),x8,x9,x10,x11] (.and (.cmp .lt (.bin .mod (.var 7) (.lit (.int 8))) (.lit (.int 5))) (.cmp .isin (.bin .mod (.bin .floordiv (.var 7) (.lit (.int 8))) (.lit (.int 8))) (.var 5))) st=.ok (.bool ks) st:=by
   repeat walk_at "ev"
  rw[decide_eq_true hc,Bool.true_and] at ht;apply V.ssC (V.sAssignN hv rfl);apply V.ssKn;apply V.ssC (f:=.next) (lc1:=[x0,x1,some (.obj b),some (.lst bN),x4,some (.obj jk),x6,some (.int num),some (.bool ks),some (bg m),x10,x11]) (s1:=af)
  ·repeat walk_at "ev"
  ·exact ht
 ·haveI hv:aC tb rc [x0,x1,some (.obj b),some (.lst bN),x4,some (.obj jk),x6,some (.int num),x8,x9,x10,x11] (.and (.cmp .lt (.bin .mod (.var 7) (.lit (.int 8))) (.lit (.int 5))) (.cmp .isin (.bin .mod (.bin .floordiv (.var 7) (.lit (.int 8))) (.lit (.int 8))) (.var 5))) st=.ok (.bool false) st:=by
   repeat walk_at "ev"
  rw[decide_eq_false hc,Bool.false_and] at ht;apply V.ssC (V.sAssignN hv rfl);apply V.ssKn;apply V.ssC (f:=.next) (lc1:=[x0,x1,some (.obj b),some (.lst bN),x4,some (.obj jk),x6,some (.int num),some (.bool false),some (bg m),x10,x11]) (s1:=af)
  ·repeat walk_at "ev"
  ·exact ht
theorem zz{jm jk jt:Nat}{made:List Made}{kn:List (Nat×Nat)}(S:SI st b q jm jk jt made kn){k:Nat}:bB st .isin (.int (k:Int)) (.obj jk)=some (kf kn k).isSome:=by
 show jS st (.int (k:Int)) (.obj jk)=_;rw[V.Q9 S.ok,jR];cases kf kn k<;>rfl
theorem Kh{jm jk jt:Nat}{made:List Made}{kn:List (Nat×Nat)}(S:SI st b q jm jk jt made kn)(P:PI q.tail kn made)(num:Int)(ht:q.tail.length≤2000)(tT:kn.length≤90)(hm:made.length≤90){x0 x1 x8 x9 x10 x11:Option AV}{Pz:Prop}(kz:∀st' q' m ja Hu wa,aT tb (Sv.run tb fns (n+7)) u0 [x0,x1,some (.obj b),some (.lst bN),some (.obj jm),some (.obj jk),some (.obj jt),some (.int num),x8,x9,x10,x11] st=.ok .next [x0,x1,some (.obj b),some (.lst bN),some (.obj jm),some (.obj jk),some (.obj jt),some (.int num),Hu,wa,x10,x11] st'→SI st' b q' jm jk jt (made++[m]) ja→PI q'.tail ja (made++[m])→q'.tail.length≤q.tail.length+22→ja.length≤kn.length+1→Pz):Pz:=by
 obtain⟨k,hk,hn⟩:=QM num;have d1:aq .mod (.int (num.fdiv 8)) (.int 8)=some (.int (k:Int)):=by rw[V.fmod (by decide),hn]
 by_cases hc:(num.fdiv 64).fmod 3=1
 ·refine tN (n:=n) S hk (num.fmod 2==1) (by exact(aO 0x1f400410007d00310009) ht) fun af q1 x e1 S1 Jh QD M5 j j=>?_
  haveI P1:PI q1.tail kn made:=by rw[Jh];exact P.grow x
  have FG:q1.tail.length≤q.tail.length+8:=by rw[Jh,List.length_append];exact(aZ 0x801110410004080110009) M5
  refine ou (n:=n+1) S1 P1 hk hn (by exact(aZ 0x1f40041000801110400097d00311009) ht FG) (by exact(aO 0x630210005a0210009) tT) (by exact(aO 0x640210005a0210009) hm) fun aU bf cI q' m ja f1 f2 f3 f4 f5 f6 S2 P2 hl Kj j=>?_
  refine kz cI q' m ja (some (.bool (decide (num.fmod 8<5)&&(kf kn k).isSome))) (some (bg m)) ?_ S2 P2 (by exact(cM 0x16021104000e011204000980111042009) FG hl) Kj;exact V.ssC (D8 hc d1 (V.vJ (by simp[bN]) rfl (q8 hk)) rfl e1) (V.ssKn (tP d1 (zz S1) f1 (lB f2 f3 f4 f5 f6)))
 ·refine ou (n:=n+1) S P hk hn (by exact(aO 0x1f400410007d00310009) ht) (by exact(aO 0x630210005a0210009) tT) (by exact(aO 0x640210005a0210009) hm) fun aU bf cI q' m ja f1 f2 f3 f4 f5 f6 S2 P2 hl Kj j=>?_
  refine kz cI q' m ja (some (.bool (decide (num.fmod 8<5)&&(kf kn k).isSome))) (some (bg m)) ?_ S2 P2 (by exact(aZ 0x16021104000e0111040009) hl) Kj;exact V.ssC (GD hc) (V.ssKn (tP d1 (zz S) f1 (lB f2 f3 f4 f5 f6)))
theorem EY{jm jk jt:Nat}{x0 x1 x10 x11:Option AV}{Pz:Prop}:∀(l:List Int)(st:St)(q:Bq)(made:List Made)(kn:List (Nat×Nat)) (x7 x8 x9:Option AV),SI st b q jm jk jt made kn→PI q.tail kn made→q.tail.length+22*l.length≤2000→kn.length+l.length≤90→made.length+l.length≤50 →
  (∀st' q' mW ja Pt Hu wa,loopF none (.name 7) (fun lc st=>aT tb (Sv.run tb fns (n+7)) u0 lc st) (l.map .int) [x0,x1,some (.obj b),some (.lst bN),some (.obj jm),some (.obj jk),some (.obj jt),x7,x8,x9,x10,x11] st=.ok .next [x0,x1,some (.obj b),some (.lst bN),some (.obj jm),some (.obj jk),some (.obj jt),Pt,Hu,wa,x10,x11] st'→SI st' b q' jm jk jt mW ja→PI q'.tail ja mW→q'.tail.length≤q.tail.length+22*l.length→ja.length≤kn.length+l.length→mW.length=made.length+l.length→Pz)→Pz
 |[],st,q,made,kn,x7,x8,x9,S,P,_,_,_,kz=>kz st q made kn x7 x8 x9 V.loopFn S P (by simp) (by simp) (by simp)
 |num::l,st,q,made,kn,x7,x8,x9,S,P,h1,h2,h3,kz=>by
  simp only[List.length_cons] at h1 h2 h3;refine Kh (n:=n) S P num (by exact(aZ 0x7d00310007d003110111041602600409) h1) (by exact(aZ 0x5a0210005a021101110400409) h2) (by exact(aZ 0x5a02100032021101110400409) h3) (x0:=x0) (x1:=x1) (x8:=x8) (x9:=x9) (x10:=x10) (x11:=x11) fun af q1 m MF y8 y9 e1 S1 P1 g1 g2=>?_
  have JI:(made++[m]).length=made.length+1:=by simp
  exact EY (x0:=x0) (x1:=x1) (x10:=x10) (x11:=x11) l af q1 (made++[m]) MF (some (.int num)) y8 y9 S1 P1 (by exact(cM 0x7d0031101602600401602120400097d003110111041602620409) h1 g1) (by exact(cM 0x5a021100040101120400095a021101110420409) h2 g2) (by exact(cM 0x320211000401011204002932021101110420409) h3 JI) fun aU q2 zF N3 z7 z8 z9 e2 S2 P2 g3 g4 g5=>kz aU q2 zF N3 z7 z8 z9 (V.loopFg (V.bindN rfl) e1 (V.loopFKn trivial e2)) S2 P2 (by simp only[List.length_cons];exact(gk 0x10112041602610400020160263040009160211043009) g1 g3) (by simp only[List.length_cons];exact(gk 0x101120410400020304000910111043009) g2 g4) (by simp only[List.length_cons];exact(gk 0x101120410400220304002910111043029) JI g5)
noncomputable def sj:Ss:=.cons (.assign 8 (.cmp .isin (.var 10) (.var 5))) (.cons (.assign 9 (.aY 689 (.cons (.var 2) (.cons (.bin .mul (.lit (.int 8)) (.var 10)) (.cons (.var 3) (.cons (.var 5) .nil)))) Option.none Option.none)) pR)
theorem HN:∀(x:Nat),x≤2000→x≤8000:=fun x0 h0=>(aO 0x1f400410007d00310009) h0
theorem Hx:∀(x:Nat),x≤90→x≤99:=fun x0 h0=>(aO 0x630210005a0210009) h0
theorem Gd:∀(x:Nat),x≤90→x≤100:=fun x0 h0=>(aO 0x640210005a0210009) h0
theorem Jf{jm jk jt:Nat}{made:List Made}{kn:List (Nat×Nat)}(S:SI st b q jm jk jt made kn)(P:PI q.tail kn made){k:Nat}(hk:k<8)(ht:q.tail.length≤2000)(tT:kn.length≤90)(hm:made.length≤90){x0 x1 x7 x8 x9 x11:Option AV}{Pz:Prop}(kz:∀st' q' m ja Hu wa,aT tb (Sv.run tb fns (n+7)) sj [x0,x1,some (.obj b),some (.lst bN),some (.obj jm),some (.obj jk),some (.obj jt),x7,x8,x9,some (.int (k:Int)),x11] st=.ok .next [x0,x1,some (.obj b),some (.lst bN),some (.obj jm),some (.obj jk),some (.obj jt),x7,Hu,wa,some (.int (k:Int)),x11] st'→SI st' b q' jm jk jt (made++[m]) ja→PI q'.tail ja (made++[m])→q'.tail.length≤q.tail.length+14→ja.length≤kn.length+1→(q'.ma=4∨q'=q)→Pz):Pz:=by
 have hf:(8*(k:Int)).fdiv 8=k:=by
  rw[Int.fdiv_eq_ediv_of_nonneg _ (by decide)];omega
 have hn:((8*(k:Int)).fdiv 8).fmod 8=k:=by
  rw[hf,Int.fmod_eq_emod_of_nonneg _ (by decide)];omega
 haveI hc:(8*(k:Int)).fmod 8=0:=by rw[Int.fmod_eq_emod_of_nonneg _ (by decide)];omega
 refine ou (n:=n+1) S P hk hn (by exact HN _ ht) (by exact Hx _ tT) (by exact Gd _ hm) fun aU bf cI q' m ja f1 f2 f3 f4 f5 f6 S2 P2 hl Kj qh=>?_
 rw[hc,show(decide ((0:Int)<5)&&(kf kn k).isSome)=(kf kn k).isSome by simp] at f2;haveI CM:=zz S (k:=k);haveI hmul:aq .mul (.int 8) (.int (k:Int))=some (.int (8*(k:Int))):=V.mulL rfl;refine kz cI q' m ja (some (.bool (kf kn k).isSome)) (some (bg m)) ?_ S2 P2 hl Kj qh;unfold sj;apply V.ssC (f:=.next) (lc1:=[x0,x1,some (.obj b),some (.lst bN),some (.obj jm),some (.obj jk),some (.obj jt),x7,some (.bool (kf kn k).isSome),x9,some (.int (k:Int)),x11]) (s1:=st)
 ·repeat walk_at "ev"
 apply V.ssKn;apply V.ssC (f:=.next) (lc1:=[x0,x1,some (.obj b),some (.lst bN),some (.obj jm),some (.obj jk),some (.obj jt),x7,some (.bool (kf kn k).isSome),some (bg m),some (.int (k:Int)),x11]) (s1:=aU)
 ·repeat walk_at "ev"
 exact lB f2 f3 f4 f5 f6
theorem E7{jm jk jt:Nat}{x0 x1 x7 x11:Option AV}{Pz:Prop}:∀(l:List Nat)(st:St)(q:Bq)(made:List Made)(kn:List (Nat×Nat)) (x8 x9 x10:Option AV),(∀k∈l,k<8)→SI st b q jm jk jt made kn→PI q.tail kn made→q.tail.length+22*l.length≤2000→kn.length+l.length≤90→made.length+l.length≤60 →
  (∀st' q' mW ja Hu wa NK,loopF none (.name 10) (fun lc st=>aT tb (Sv.run tb fns (n+7)) sj lc st) (l.map fun(k:Nat)=>AV.int (k:Int)) [x0,x1,some (.obj b),some (.lst bN),some (.obj jm),some (.obj jk),some (.obj jt),x7,x8,x9,x10,x11] st=.ok .next [x0,x1,some (.obj b),some (.lst bN),some (.obj jm),some (.obj jk),some (.obj jt),x7,Hu,wa,NK,x11] st'→SI st' b q' jm jk jt mW ja→PI q'.tail ja mW→q'.tail.length≤q.tail.length+22*l.length→mW.length=made.length+l.length→(q'.ma=4∨q'.ma=q.ma)→Pz)→Pz
 |[],st,q,made,kn,x8,x9,x10,_,S,P,_,_,_,kz=>kz st q made kn x8 x9 x10 V.loopFn S P (by simp) (by simp) (.inr rfl)
 |k::l,st,q,made,kn,x8,x9,x10,hl,S,P,h1,h2,h3,kz=>by
  simp only[List.length_cons] at h1 h2 h3;refine Jf (n:=n) S P (hl k (by simp)) (by exact(aZ 0x7d00310007d003110111041602600409) h1) (by exact(aZ 0x5a0210005a021101110400409) h2) (by exact(aZ 0x5a0210003c021101110400409) h3) (x0:=x0) (x1:=x1) (x7:=x7) (x8:=x8) (x9:=x9) (x11:=x11) fun af q1 m MF y8 y9 e1 S1 P1 g1 g2 g0=>?_
  have JI:(made++[m]).length=made.length+1:=by simp
  refine E7 (x0:=x0) (x1:=x1) (x7:=x7) (x11:=x11) l af q1 (made++[m]) MF y8 y9 (some (.int (k:Int))) (fun i hi=>hl i (by simp[hi])) S1 P1 (by exact(cM 0x7d003110160260040e01120400097d003110111041602620409) h1 g1) (by exact(cM 0x5a021100040101120400095a021101110420409) h2 g2) (by exact(cM 0x3c021100040101120400293c021101110420409) h3 JI) fun aU q2 zF N3 z8 z9 NC e2 S2 P2 g3 g5 g6=>?_
  refine kz aU q2 zF N3 z8 z9 NC (V.loopFg (V.bindN rfl) e1 (V.loopFKn trivial e2)) S2 P2 (by simp only[List.length_cons];exact(gk 0x10112041602610400020160263040009e0111043009) g1 g3) (by simp only[List.length_cons];exact(gk 0x101120410400220304002910111043029) JI g5) (?_);rcases g6 with h|h
  ·exact .inl h
  ·rcases g0 with h'|h'
   ·exact .inl (h.trans h')
   ·exact .inr (h.trans (by rw[h']))
end
end
section
section
variable {n:Nat}{st:St}{b:Nat}{q:Bq}
noncomputable def xX:Ss:=(.cons (.expr (.aA (.var 2) 339 (.cons (.sub (.var 9) (.lit (.int 2))) .nil) Option.none Option.none)) .nil)
theorem zj(I0:BI st b q0)(e1:rc bj [.obj b,.int (m.2.2:Int)] none st=.ok .none af) :
 aT tb rc xX [x0,x1,some (.obj b),x3,x4,x5,x6,x7,x8,some (bg m),x10,x11] st=.ok .next [x0,x1,some (.obj b),x3,x4,x5,x6,x7,x8,some (bg m),x10,x11] af:=by
 haveI hs:cX st (bg m) (.int 2)=some (.int (m.2.2:Int)):=rfl;unfold xX
 repeat walk_at "ev"
theorem FW:∀(x dR gx tZ:Nat),x≤2000→dR+1+gx≤60→tZ=4*gx+x→tZ≤8000:=fun x0 x1 x2 x3 h0 h1 h2=>(gk 0x1f4004100010304016400293c0213010112044097d00311009) h0 h1 h2
theorem FA:∀(x dR gx tZ:Nat),x=4*dR+gx→tZ≤gx→tZ≤x:=fun x0 x1 x2 x3 h0 h1=>(gk 0x100002000092030401641029) h0 h1
theorem EU{W:List UInt8}(h4:W.length%4=0)(hW:W.length≤2000){x0 x1 x3 x4 x5 x6 x7 x8 x10 x11:Option AV}{Pz:Prop}:∀(L r:List Made)(st:St)(q:Bq)(x9:Option AV),BI st b q→q.tail=dP r W→q.ma=4→4+4*L.length≤q.pre.length→(∀m∈L,m.2.2≤W.length)→L.length+r.length≤60 →
  (∀st' j p wa,loopF none (.name 9) (fun lc st=>aT tb (Sv.run tb fns (n+3)) xX lc st) (L.map bg) [x0,x1,some (.obj b),x3,x4,x5,x6,x7,x8,x9,x10,x11] st=.ok .next [x0,x1,some (.obj b),x3,x4,x5,x6,x7,x8,wa,x10,x11] st'→BI st' b (q.mv j p (dP (L.reverse++r) W) 4)→4≤p.length→Fr b st q st' (q.mv j p (dP (L.reverse++r) W) 4)→Pz)→Pz
 |[],r,st,q,x9,I,ht,qh,hp,_,_,kz=>by
  have hq:q.mv q.jb q.pre (dP ([].reverse++r) W) 4=q:=by
   show Bq.mv q q.jb q.pre (dP r W) 4=q;rw[←ht,←qh];rfl
  exact kz st q.jb q.pre x9 V.loopFn (by rw[hq];exact I) (by simp at hp;omega) (by rw[hq];exact Fr.refl)
 |m::L,r,st,q,x9,I,ht,qh,hp,hm,hlen,kz=>by
  simp only[List.length_cons] at hp hlen;have hl:q.tail.length=4*r.length+W.length:=by rw[ht,eY]
  haveI zY:=hm m (by simp);refine jh (n:=n) I (off:=m.2.2) (by omega) (by exact FW _ _ _ _ hW hlen hl) (by exact FA _ _ _ _ hl zY) qh fun af j p e1 h1 I1 F1=>?_
  rw[show(m::L).reverse++r=L.reverse++(m::r) by simp] at kz;exact EU h4 hW L (m::r) af (q.mv j p (leB 4 (q.tail.length-m.2.2+4:Nat)++q.tail) 4) (some (bg m)) I1 (by show leB 4 _++q.tail=leB 4 _++dP r W;rw[ht]) rfl (by show _≤p.length;omega) (fun i hi=>hm i (by simp[hi])) (by simp only[List.length_cons];omega) fun aU j2 p2 wa e2 I2 h2 F2=>kz aU j2 p2 wa (V.loopFg (V.bindN rfl) (zj I e1) (V.loopFKn trivial e2)) I2 h2 (F1.trans F2)
theorem Ac(I0:BI st b q0)(b0:Sv.bcall .len [.obj jm] st=.ok (.int (N:Int)) st)
(e1:run tb fns (n+7) eI [.obj b,.int 4,.int N,.int 4] none st=.ok v1 af)(hs:cw af (.obj jm) none none true=some (.lst L))
(e2:loopF none (.name 9) (fun lc st=>aT tb (Sv.run tb fns (n+7)) xX lc st) L [x0,x1,some (.obj b),some (.lst bN),some (.obj jm),x5,x6,x7,x8,x9,x10,none] af=.ok .next [x0,x1,some (.obj b),some (.lst bN),some (.obj jm),x5,x6,x7,x8,wa,x10,none] aU)(I2:BI aU b q2)
(e3:run tb fns (n+7) dz [.obj b] none aU=.ok (.int (row:Int)) bf)(I3:BI bf b q3)(e4:run tb fns (n+7) bP [.obj b,.int 1] none bf=.ok .none cI)(I4:BI cI b q4)
(e5:run tb fns (n+7) bl [.obj b,.int 0,.int row,.int 0] none cI=.ok .none dO)(I5:BI dO b q5)(e6:run tb fns (n+7) dC [.obj b] none dO=.ok (.int (root:Int)) et)
(e7:run tb fns (n+7) mD [.obj b,.int root] none et=.ok v2 gz)(I7:BI gz b q7)(e8:run tb fns (n+7) mF [.obj b] none gz=.ok (.aJ D) gz)(hD:D.length≤1000000)(e9:run tb fns (n+7) b9 [.bytes D,.lst bN,.obj jm] none gz=.ok (.bool true) qM)
(JP:rest=(.cons (.expr (.aA (.var 2) 346 (.cons (.lit (.int 4)) (.cons (.bcall .len (.cons (.var 4) .nil)) (.cons (.lit (.int 4)) .nil))) Option.none Option.none)) (.cons (.mi (.name 9) (.yV (.slice (.var 4) Option.none Option.none true)) xX) (.cons (.assign 11 (.aA (.var 2) 354 .nil Option.none Option.none)) (.cons (.expr (.aA (.var 2) 276 (.cons (.lit (.int 1)) .nil) Option.none Option.none)) (.cons (.expr (.aA (.var 2) 518 (.cons (.lit (.int 0)) (.cons (.var 11) (.cons (.lit (.int 0)) .nil))) Option.none Option.none)) (.cons (.expr (.aA (.var 2) 419 (.cons (.aA (.var 2) 290 .nil Option.none Option.none) .nil) Option.none Option.none)) (.cons (.ret (some (.aY 706 (.cons (.bcall .bytes (.cons (.aA (.var 2) 269 .nil Option.none Option.none) .nil)) (.cons (.var 3) (.cons (.var 4) .nil))) Option.none Option.none))) .nil)))))))) :
 aT tb (Sv.run tb fns (n+7)) rest [x0,x1,some (.obj b),some (.lst bN),some (.obj jm),x5,x6,x7,x8,x9,x10,none] st=.ok (.ret (.bool true)) [x0,x1,some (.obj b),some (.lst bN),some (.obj jm),x5,x6,x7,x8,wa,x10,some (.int (row:Int))] qM:=by
 subst JP;haveI hb:Sv.bcall .bytes [.aJ D] gz=.ok (.bytes D) gz:=by
  show(if D.length≤1000000 then _ else _)=_
  rw[if_pos hD]
 apply V.ssC (f:=.next) (lc1:=[x0,x1,some (.obj b),some (.lst bN),some (.obj jm),x5,x6,x7,x8,x9,x10,none]) (s1:=af)
 ·repeat walk_at "ev"
 apply V.ssKn;apply V.ssC (f:=.next) (lc1:=[x0,x1,some (.obj b),some (.lst bN),some (.obj jm),x5,x6,x7,x8,wa,x10,none]) (s1:=aU)
 ·apply V.sFor
  ·apply V.srcE
   repeat walk_at "ev"
  ·exact e2
 repeat walk_at "ev"
theorem AN{jm:Nat}{made:List Made}(h:st[jm]?=some (.list (made.map bg)))(hl:made.length≤1000):cw st (.obj jm) none none true=some (.lst (made.reverse.map bg)):=by
 rw[V.NS h (by simp;exact(aO 0xf42400510003e80310009) hl),List.map_reverse]
noncomputable def JV:Ss:=(.cons (.expr (.aA (.var 2) 346 (.cons (.lit (.int 4)) (.cons (.bcall .len (.cons (.var 4) .nil)) (.cons (.lit (.int 4)) .nil))) Option.none Option.none)) (.cons (.mi (.name 9) (.yV (.slice (.var 4) Option.none Option.none true)) xX) (.cons (.assign 11 (.aA (.var 2) 354 .nil Option.none Option.none)) (.cons (.expr (.aA (.var 2) 276 (.cons (.lit (.int 1)) .nil) Option.none Option.none)) (.cons (.expr (.aA (.var 2) 518 (.cons (.lit (.int 0)) (.cons (.var 11) (.cons (.lit (.int 0)) .nil))) Option.none Option.none)) (.cons (.expr (.aA (.var 2) 419 (.cons (.aA (.var 2) 290 .nil Option.none Option.none) .nil) Option.none Option.none)) (.cons (.ret (some (.aY 706 (.cons (.bcall .bytes (.cons (.aA (.var 2) 269 .nil Option.none Option.none) .nil)) (.cons (.var 3) (.cons (.var 4) .nil))) Option.none Option.none))) .nil)))))))
theorem H0:∀(x:Nat),x≤60→x≤1000000:=fun x0 h0=>(aO 0xf42400510003c0210009) h0
theorem Gy:∀(x:Nat),x≤2000→x≤8000:=fun x0 h0=>(aO 0x1f400410007d00310009) h0
theorem GX:∀(x:Nat),x≤60→x≤100:=fun x0 h0=>(aO 0x640210003c0210009) h0
theorem Hq:∀(x:Int),x=4→x≤4:=fun x0 h0=>(fz 0x401200340120059) h0
theorem Hh:∀(x:Nat),x≤60→x≤100000:=fun x0 h0=>(aO 0x186a00510003c0210009) h0
theorem Ig:∀(x dR:Nat),4*x+dR+4=4+(4*x+dR):=fun x0 x1=>(aZ 0x10004016440114401110004016442)
theorem Hv:1≤1000:=(ed 0x3e803110110)
theorem DN:∀(x dR:Nat),0<4+(4*x+dR):=fun x0 x1=>(aZ 0x100040164401140011)
theorem D3:∀(x dR gx:Nat),x=4+(4*dR+gx)→4+(4*dR+gx)≤x:=fun x0 x1 x2 h0=>(cM 0x20100040164401140100040164401142029) h0
theorem DW:∀(x dR gx:Nat),x≤2000→dR≤60→gx=4+(4*dR+x)→gx≤8000:=fun x0 x1 x2 h0 h1 h2=>(cM 0x1f400410001020401644011400293c02120097d00311009) h0 h1 h2
theorem Ci:∀(x dR gx:Nat),x=4+(4*dR+gx)→x-(4+(4*dR+gx))+4=4:=fun x0 x1 x2 h0=>(cM 0x401140112010401644011400542201040164401140029) h0
theorem C9:∀(x dR:Nat),4+(4+(4*x+dR))=4+(4*x+dR)+4:=fun x0 x1=>(aZ 0x401110004016440114410004016440114401142)
theorem Eg:∀(x dR gx:Nat),x≤2000→dR≤60→gx=4+(4*dR+x)+4→gx≤8000:=fun x0 x1 x2 h0 h1 h2=>(cM 0x1f40041000401110204016440114400293c02120097d00311009) h0 h1 h2
theorem DP:∀(x dR gx:Nat),x=4+(4*dR+gx)+4→2+(2+(2+(4+x)))=4+(4*dR+gx)+14:=fun x0 x1 x2 h0=>(cM 0xe0112010401644011440040114201142011420114240112010401644011440029) h0
theorem CN:∀(x dR gx:Nat),x≤2000→dR≤60→gx=4+(4*dR+x)+14→gx≤8000:=fun x0 x1 x2 h0 h1 h2=>(cM 0x1f40041000e01110204016440114400293c02120097d00311009) h0 h1 h2
theorem Dn:∀(x dR gx tZ:Nat),x=4+(4*dR+gx)+4→tZ=4+(4*dR+gx)+14→x+4≤tZ:=fun x0 x1 x2 x3 h0 h1=>(gk 0x1040110040e011203040164401144102940112030401644011440029) h0 h1
theorem Cy:∀(x:Nat),x≤60→x≤1000:=fun x0 h0=>(aO 0x3e80310003c0210009) h0
theorem DT:∀(x:Nat),x≤100000→x≤1000000:=fun x0 h0=>(aO 0xf4240051000186a00510009) h0
theorem D6{jm jk jt:Nat}{made:List Made}{kn:List (Nat×Nat)}(S:SI st b q jm jk jt made kn)(P:PI q.tail kn made)(qh:q.ma=4)(hW:q.tail.length≤2000)(hm:made.length≤60){x0 x1 x5 x6 x7 x8 x9 x10:Option AV}{Pz:Prop}(kz:∀st' aK,aT tb (Sv.run tb fns (n+7)) JV [x0,x1,some (.obj b),some (.lst bN),some (.obj jm),x5,x6,x7,x8,x9,x10,none] st=.ok (.ret (.bool true)) aK st'→Pz):Pz:=by
 have lt:=S.K4;have t4:=S.t4;haveI b0:Sv.bcall .len [.obj jm] st=.ok (.int (made.length:Int)) st:=by
  show d7 st (.obj jm)=_;simp only[d7,S.om];rw[if_pos (by simp;exact H0 _ hm)];simp
 refine mf (n:=n+4) S.bi (k:=made.length) S.ne t4 (by exact Gy _ hW) (by exact GX _ hm) (by exact Hq _ qh) fun af j1 p1 e1 h1 I1 F1=>?_
 haveI f1:=F1.keep jm lt.1 S.nm;haveI PO:af[jm]?=some (.list (made.map bg)):=f1.1.trans S.om;refine EU (n:=n+4) (W:=q.tail) t4 hW (x0:=x0) (x1:=x1) (x3:=some (.lst bN)) (x4:=some (.obj jm)) (x5:=x5) (x6:=x6) (x7:=x7) (x8:=x8) (x10:=x10) (x11:=none) made.reverse [] af _ x9 I1 rfl rfl (by show 4+4*made.reverse.length≤p1.length;simp;omega) (fun m hm=>P.le m (by simpa using hm)) (by simp;omega) fun aU j2 p2 y9 e2 I2 h2 F2=>?_
 have Q7:made.reverse.reverse++[]=made:=by simp
 rw[Q7] at I2 F2;refine gc (n:=n+4) I2 (k:=made.length) rfl rfl h2 (by exact Hh _ hm) fun bf e3 I3 F3=>?_
 have hV:(leB 4 ((made.length:Nat):Int)++dP made q.tail).length=4+(4*made.length+q.tail.length):=by simp[ai,eY]
 haveI Qw:(dP made q.tail).length+4=4+(4*made.length+q.tail.length):=by rw[eY];exact Ig _ _
 replace e3:run tb fns (n+7) dz [.obj b] none aU=.ok (.int (((dP made q.tail).length+4:Nat):Int)) bf:=e3;rw[Qw] at e3;obtain⟨q3,J3,G3,t3,n3,m3,v3⟩:∃q3,BI bf b q3∧Fr b st q bf q3∧q3.tail=leB 4 ((made.length:Nat):Int)++dP made q.tail∧q3.ne=false∧q3.ma=4∧oW q3.vt:=⟨_,I3,F1.trans (F2.trans F3),rfl,rfl,rfl,S.vt⟩;generalize QP:leB 4 ((made.length:Nat):Int)++dP made q.tail=V at t3 hV;refine dq (n:=n+5) J3 (k:=1) (by exact Hv) n3 fun cI c e4 I4 F4=>?_
 obtain⟨q4,J4,G4,OA,n4,m4,v4,c4,o4⟩:∃q4,BI cI b q4∧Fr b st q cI q4∧q4.tail=V∧q4.ne=true∧q4.ma=4∧oW q4.vt∧q4.cv=some (c,[0])∧q4.oe=.int (q3.tail.length:Int):=⟨_,I4,G3.trans F4,t3,rfl,m3,v3,rfl,rfl⟩;rw[t3,hV] at o4;have Kx:q4.tail.length=4+(4*made.length+q.tail.length):=by rw[OA,hV]
 refine xR (n:=n+3) J4 (c:=c) (row:=4+(4*made.length+q.tail.length)) n4 c4 (by exact DN _ _) (by exact D3 _ _ _ Kx) (by omega) (by exact DW _ _ _ hW hm Kx) fun dO j5 p5 e5 I5 F5=>?_
 have PC:q4.tail.length-(4+(4*made.length+q.tail.length))+4=4:=Ci _ _ _ Kx;rw[PC,OA,hV,m4] at I5 F5;obtain⟨q5,J5,G5,t5,n5,m5,v5,c5,o5⟩:∃q5,BI dO b q5∧Fr b st q dO q5∧q5.tail=leB 4 ((4:Nat):Int)++V∧q5.ne=true∧q5.ma=4∧oW q5.vt∧q5.cv=some (c,[((4+(4*made.length+q.tail.length)+4:Nat):Int)])∧q5.oe=.int ((4+(4*made.length+q.tail.length):Nat):Int):=
  ⟨_,I5,G4.trans F5,rfl,n4,rfl,v4,rfl,o4⟩
 have EH:q5.tail.length=4+(4*made.length+q.tail.length)+4:=by rw[t5];simp[ai,hV];exact C9 _ _
 rw[←EH] at c5;refine nS (n:=n+1) J5 (c:=c) n5 c5 o5 (by omega) (by omega) (by exact Eg _ _ _ hW hm EH) v5 m5 fun et j6 p6 RQ e6 I6 F6=>?_
 obtain⟨q6,J6,G6,t6,m6⟩:∃q6,BI et b q6∧Fr b st q et q6∧q6.tail=eg q5.tail∧q6.ma=4:=⟨_,I6,G5.trans F6,rfl,rfl⟩;have Oo:q6.tail.length=4+(4*made.length+q.tail.length)+14:=by rw[t6];simp[eg,ai];exact DP _ _ _ EH
 refine uS (n:=n+2) J6 (root:=q5.tail.length+4) (by omega) (by exact CN _ _ _ hW hm Oo) (by exact Dn _ _ _ _ EH Oo) m6 fun gz j7 p7 e7 I7 F7=>?_
 obtain⟨q7,J7,G7,t7,f7⟩:∃q7,BI gz b q7∧Fr b st q gz q7∧q7.tail=xG q6.tail (q5.tail.length+4)∧q7.fin=true:=⟨_,I7,G6.trans F7,rfl,rfl⟩;haveI e8:=vf (n:=n+6) J7 f7;haveI fj:=G7.keep jm lt.1 S.nm;haveI PK:gz[jm]?=some (.list (made.map bg)):=fj.1.trans S.om;obtain⟨K,H⟩:=final P t4 hW hm (D:=q7.tail) (V:=V) QP.symm (by rw[t7,t6,t5,←t5,EH,t5,hV]);obtain⟨qM,e9⟩:=yx (n:=n+3) K H PK;exact kz qM _ (Ac S.bi b0 e1 (AN PO (by exact Cy _ hm)) e2 I2 e3 J3 e4 J4 e5 J5 e6 e7 J7 e8 (by haveI:=K.len;exact DT _ this) e9 rfl)
end
end
section
section
variable {n:Nat}
theorem NO:Gk=(.cons (.assign 1 (.ite (.cmp .gt (.bcall .len (.cons (.var 0) .nil)) (.lit (.int 0))) (.sub (.var 0) (.lit (.int 0))) (.lit (.int 0)))) (.cons (.assign 2 (.oU (.cons (.bin .mod (.bin .floordiv (.var 1) (.lit (.int 8))) (.lit (.int 40))) .nil))) (.cons (.assign 3 (.aY 661 .nil Option.none Option.none)) (.cons (.ite (.cmp .gt (.bin .mod (.var 1) (.lit (.int 4))) (.lit (.int 1))) (.cons (.expr (.aY 713 (.cons (.var 2) (.cons (.var 3) (.cons (.var 1) .nil))) Option.none Option.none)) .nil) .nil) (.cons (.bA [4,5,6] (.tup (.cons .dw (.cons (.cz 0) (.cons .dw .nil))))) (.cons (.mi (.name 7) (.yV (.slice (.var 0) (some (.lit (.int 1))) (some (.lit (.int 15))) false)) u0) (.cons (.ite (.un .not (.aY 682 (.cons (.var 2) (.cons (.var 3) (.cons (.var 5) .nil))) Option.none Option.none)) (.cons (.ret (some (.lit (.bool false)))) .nil) .nil) (.cons (.mi (.name 10) (.dM (.bcall .len (.cons (.var 3) .nil))) sj) JV)))))))):=rfl
theorem xt(script:List Int){rc:RC}{st:St}{x1 x2 x3 x4 x5 x6 x7 x8 x9 x10 x11:Option AV}(h:script.length≤63):∃f:Int,aC tb rc [some (.lst (script.map .int)),x1,x2,x3,x4,x5,x6,x7,x8,x9,x10,x11] (.ite (.cmp .gt (.bcall .len (.cons (.var 0) .nil)) (.lit (.int 0))) (.sub (.var 0) (.lit (.int 0))) (.lit (.int 0))) st=.ok (.int f) st:=by
 have hl:Sv.bcall .len [.lst (script.map .int)] st=.ok (.int (script.length:Int)) st:=by
  show(if (script.map AV.int).length≤1000000 then _ else _)=_
  rw[if_pos (by simp;exact(aO 0xf42400510003f0210009) h)];simp
 cases script with
 |nil=>
  refine⟨0,?_⟩;haveI h0:¬(0:Int)<(([]:List Int).length:Int):=by simp
  repeat walk_at "ev"
 |cons a r=>
  refine⟨a,?_⟩;haveI h0:(0:Int)<((a::r).length:Int):=by simp<;>omega
  haveI hs:cX st (.lst ((a::r).map .int)) (.int 0)=some (.int a):=V.vJ (k:=0) (by simp at h ⊢;exact(aO 0xf423f0510003e0210009) h) rfl rfl
  repeat walk_at "ev"
theorem yF(script:List Int){st:St}(h:script.length≤63):cw st (.lst (script.map .int)) (some (.int 1)) (some (.int 15)) false=some (.lst (((script.drop (clipAt script.length 1)).take (clipAt script.length 15-clipAt script.length 1)).map .int)):=by
 haveI hz:(script.map AV.int).length≤1000000:=by simp;exact(aO 0xf42400510003f0210009) h
 haveI o1:fB (some (.int 1))=some (some 1):=rfl;haveI o2:fB (some (.int 15))=some (some 15):=rfl;haveI hc:cut (script.map AV.int) (some 1) (some 15)=((script.drop (clipAt script.length 1)).take (clipAt script.length 15-clipAt script.length 1)).map .int:=by
  show((script.map AV.int).drop (clipAt (script.map AV.int).length 1)).take (clipAt (script.map AV.int).length 15-clipAt (script.map AV.int).length 1)=_
  rw[List.length_map,List.map_take,List.map_drop]
 rw[V.Ml o1 o2 hz,hc]
theorem zk(script:List Int)(h:script.length≤63):∃st',run tb fns (n+8) Gf [.lst (script.map .int)] none []=.ok (.bool true) st':=by
 obtain⟨f,hf⟩:=xt script (rc:=Sv.run tb fns (n+7)) (st:=[]) (x1:=none) (x2:=none) (x3:=none) (x4:=none) (x5:=none) (x6:=none) (x7:=none) (x8:=none) (x9:=none) (x10:=none) (x11:=none) h;obtain⟨k,hk,LZ⟩:∃k:Nat,k<40∧(f.fdiv 8).fmod 40=k:=by
  haveI h1:=Int.fmod_nonneg_of_pos (f.fdiv 8) (show(0:Int)<40 by decide);haveI h2:=Int.fmod_lt_of_pos (f.fdiv 8) (show(0:Int)<40 by decide);exact⟨((f.fdiv 8).fmod 40).toNat,by exact(fz 0x2802100a1280220049) h2,by exact(fz 0xa80050000239) h1⟩
 refine Bj (n:=n+6) (st:=[]) (k:=k) (by exact(aO 0x3e8031000280210019) hk) fun af q1 e1 I1 z z t1 m1 n1 f1 s1 v1 c1=>?_
 obtain⟨aU,q2,e2,I2,t2,m2,n2,f2,s2,v2⟩:∃aU q2,(∀x1 x4 x5 x6 x7 x8 x9 x10 x11,eK tb (Sv.run tb fns (n+7)) (.ite (.cmp .gt (.bin .mod (.var 1) (.lit (.int 4))) (.lit (.int 1))) (.cons (.expr (.aY 713 (.cons (.var 2) (.cons (.var 3) (.cons (.var 1) .nil))) Option.none Option.none)) .nil) .nil) [x1,some (.int f),some (.obj 0),some (.lst bN),x4,x5,x6,x7,x8,x9,x10,x11] af=.ok .next [x1,some (.int f),some (.obj 0),some (.lst bN),x4,x5,x6,x7,x8,x9,x10,x11] aU) ∧
   BI aU 0 q2∧q2.tail=[]∧q2.ma=1∧q2.ne=false∧q2.fin=false∧q2.sh=none∧q2.vt=[]:=by
  have hd:aq .mod (.int f) (.int 4)=some (.int (f.fmod 4)):=V.fmod (by decide)
  by_cases hc:1<f.fmod 4
  ·refine yn (n:=n+1) (first:=f) I1 n1 t1 s1 fun aU q2 e I F hr=>?_
   obtain⟨a1,a2,a3,a4,a5,a6,_⟩:=hr;refine⟨aU,q2,fun x1 x4 x5 x6 x7 x8 x9 x10 x11=>?_,I,a1,a2,a3,a4,a5,a6⟩;replace e:run tb fns (n+7) cc [.obj 0,.lst bN,.int f] none af=.ok .none aU:=e
   repeat walk_at "ev"
  ·refine⟨af,q1,fun x1 x4 x5 x6 x7 x8 x9 x10 x11=>?_,I1,t1,m1,n1,f1,s1,v1⟩
   repeat walk_at "ev"
 haveI I3:=((I2.app [.list []]).app [.aj []]).app [.list []];haveI S3:SI (((aU++[ao.list []])++[ao.aj []])++[ao.list []]) 0 q2 aU.length (aU++[ao.list []]).length ((aU++[ao.list []])++[ao.aj []]).length [] []:=by
  have hn:∀j,aU.length≤j→j∉q2.own 0:=fun j hj hm=>absurd (I2.EP _ hm) (by exact(aZ 0x100016001009) hj)
  refine⟨I3,n2,f2,by rw[s2];rfl,by simp,by simp,.inl v2,by rw[t2];rfl,by rw[m2];decide,by simp[List.getElem?_append],by simp[List.getElem?_append,ik],by simp[List.getElem?_append],hn _ (by exact aO 0x0),hn _ (by simp),hn _ (by simp),by simp⟩
 haveI P3:PI q2.tail [] []:=⟨by simp,by simp,by simp,by simp,by simp,by simp⟩;have lR:((script.drop (clipAt script.length 1)).take (clipAt script.length 15-clipAt script.length 1)).length≤14:=by
  haveI c1:=clipAt_cast script.length 1;haveI c2:=clipAt_cast script.length 15;rw[if_neg (by first|exact ed 0x2101246|exact ed 0x2f01246|omega)] at c1 c2;rw[List.length_take];exact(gk 0xe0112010005c0308f012c002b008593081012c002b10859) c1 c2
 refine EY (n:=n) (x0:=some (.lst (script.map .int))) (x1:=some (.int f)) (x10:=none) (x11:=none) ((script.drop (clipAt script.length 1)).take (clipAt script.length 15-clipAt script.length 1)) _ q2 [] [] none none none S3 P3 (by rw[t2];simp only[List.length_nil];exact(aO 0x7d0031001602600140e0110009) lR) (by simp only[List.length_nil];exact(aO 0x5a0210000140e0110009) lR) (by simp only[List.length_nil];exact(aO 0x320210000140e0110009) lR) fun cI q4 EE Ov y7 y8 y9 e4 S4 P4 g1 g2 g3=>?_
 rw[t2] at g1;simp only[List.length_nil] at g1 g2 g3;refine yr (n:=n) S4 (by exact(aZ 0x1f40041000101602600140009e0111009) lR g1) fun dO q5 x e5 S5 Jh QD M5 z z Qx=>?_
 haveI P5:PI q5.tail Ov EE:=by rw[Jh];exact P4.grow x
 have EH:q5.tail.length≤q4.tail.length+8:=by rw[Jh,List.length_append];exact(aZ 0x801110410004080110009) M5
 refine E7 (n:=n) (x0:=some (.lst (script.map .int))) (x1:=some (.int f)) (x7:=y7) (x11:=none) (List.range 8) dO q5 EE Ov y8 y9 none (fun k hk=>List.mem_range.mp hk) S5 P5 (by simp;exact(cM 0x72003100080112040009101602600142009e0111009) lR g1 EH) (by simp;exact(aZ 0x520210001000140009e0111009) lR g2) (by simp;exact(aZ 0x340210001000140029e0111009) lR g3) fun et q6 O4 R2 z8 z9 NC e6 S6 P6 g4 g5 g6=>?_
 simp only[List.length_range] at g4 g5;haveI RL:q6.ma=4:=g6.elim id fun h=>h.trans Qx
 refine D6 (n:=n) S6 P6 RL (by exact(gk 0x7d0031000801116026304000980112043009101602600142009e0111009) lR g1 EH g4) (by exact(cM 0x3c021000801120400291000142029e0111009) lR g3 g5) (x0:=some (.lst (script.map .int))) (x1:=some (.int f)) (x5:=some (.obj (aU++[ao.list []]).length)) (x6:=some (.obj ((aU++[ao.list []])++[ao.aj []]).length)) (x7:=y7) (x8:=z8) (x9:=z9) (x10:=NC) fun gz R0 e7=>?_
 refine⟨gz,?_⟩;haveI Jx:run tb fns (n+7) tb.init (.obj ([]:St).length::[.int (k:Int)]) none (([]:St)++[.inst (List.replicate tb.nV none),.aj []])=.ok .none af:=e1;haveI d1:aq .floordiv (.int f) (.int 8)=some (.int (f.fdiv 8)):=V.fdiv (by decide) rfl;haveI d2:aq .mod (.int (f.fdiv 8)) (.int 40)=some (.int (k:Int)):=by rw[V.fmod (by decide),LZ]
 apply V.runN (l:=[some (.lst (script.map .int)),none,none,none,none,none,none,none,none,none,none,none]) rfl rfl rfl (fl:=.ret (.bool true));rw[NO];apply V.ssC (V.sAssignN hf rfl);apply V.ssKn;apply V.ssC (V.sAssignN (V.QR (V.esC (V.binn (V.binn (V.varr rfl) V.litt d1) V.litt d2) V.esN) Jx) rfl);apply V.ssKn;apply V.ssC (V.sAssignN (V.cllF V.esN yL) rfl);apply V.ssKn;apply V.ssC (e2 _ _ _ _ _ _ _ _ _);apply V.ssKn;apply V.ssC (f:=.next) (lc1:=[some (.lst (script.map .int)),some (.int f),some (.obj 0),some (.lst bN),some (.obj aU.length),some (.obj (aU++[ao.list []]).length),some (.obj ((aU++[ao.list []])++[ao.aj []]).length),none,none,none,none,none]) (s1:=(((aU++[ao.list []])++[ao.aj []])++[ao.list []]))
 ·exact V.sAssignT (V.tupp (V.esC V.newl (V.esC V.newd0 (V.esC V.newl V.esN)))) (V.bind3N rfl)
 apply V.ssKn;apply V.ssC (V.sFor (V.srcE (V.slicee (V.varr rfl) (V.oS V.litt) (V.oS V.litt) (yF script h))) e4);apply V.ssKn;apply V.ssC (V.sIte (V.unn (V.cllF (V.esC (V.varr rfl) (V.esC (V.varr rfl) (V.esC (V.varr rfl) V.esN))) e5) (V.notT rfl)) rfl (V.sIteF V.ssN));apply V.ssKn;apply V.ssC (V.sFor (V.src1 (n:=((8:Nat):Int)) (V.bcl (V.esC (V.varr rfl) V.esN) rfl) (by exact ed 0x2710042801238012271004337)) (by rw[mB];exact e6));apply V.ssKn;exact e7
end
end
end Sv.L2
namespace Sv.L2
open _root_.PySem _root_.PySem.W PyProof.Rows _root_.PySem.Calls
theorem wU{R:WRecords}:∀{ds:List WData},WShape.hasItems R ds .int=true→∃l:List Int,ds=l.map .int
 |[],_=>⟨[],rfl⟩
 |d::r,h=>by
  simp only[WShape.hasItems,Bool.and_eq_true] at h;obtain⟨l,hl⟩:=wU h.2;cases d with
  |int i=>exact⟨i::l,by rw[hl];rfl⟩
  |_=>exact nomatch show false=true from h.1
theorem iV{R:WRecords}{cl:Str→Option Addr}{h:Heap}:∀{l:List Int}{vs:List Value}{as:List Addr},ReadsAllW R cl h vs (l.map .int) as→ae h [] [] (l.map .int) vs
 |[],_,_,r=>by rw[(readsAllW_nil_inv r).1];exact ae.nil
 |i::l,_,_,r=>by
  obtain⟨v,Jn,a1,a2,q,_,r1,r2⟩:=readsAllW_cons_inv r;obtain⟨t,q2,_⟩:=readsW_int_inv r1;rw[q];exact ae.cons ⟨t,q2⟩ (iV r2)
theorem C3{R:WRecords}{cl:Str→Option Addr}{h:Heap}{vals:List Value}{as:List Addr}{d0:WData}(hd:WShape.has R d0 (.list .int)=true)(hr:ReadsAllW R cl h vals [d0] as){P:Prop}
  (k:∀(script:List Int)(l:Addr),d0=.list (script.map .int)→vals=[.ref l]→ae h [] [] [.lst (script.map .int)] [.ref l]→P):P:=by
 cases d0 with
 |list xs=>
  obtain⟨l,hl⟩:=wU ((Bool.or_false _).symm.trans hd);rw[hl] at hr;obtain⟨v,vs,a1,a2,q,_,r1,r2⟩:=readsAllW_cons_inv hr;obtain⟨a,LN,RX,q2,RM,ri,_⟩:=readsW_list_inv r1;exact k l a (by rw[hl]) (by rw[q,q2,(readsAllW_nil_inv r2).1]) (ae.single ⟨a,LN.toList,rfl,by simp,by simp,RM,iV ri⟩)
 |_=>exact nomatch show false=true from hd
theorem FK{mg:Str→Option Value}{n:Str}{a b:Addr}(h1:mg n=some (.ref a))(h2:mg n=some (.ref b)):b=a:=by
 rw[h1] at h2;cases (h2);rfl
theorem M8:importsNone IG=true:=by kernel_rfl
theorem Kq:(OpenLaw.row _root_.PySem.Challenge.rw_ac0015_02).prog=_root_.PySem.Challenge.pw_ac0015_02:=by rfl
theorem lk:LeftO (OpenLaw.row _root_.PySem.Challenge.rw_ac0015_02).prog IG qU (fun j=>true) (fun s=>some s.heap) (fun w=>(openT _root_.PySem.Challenge.pw_ac0015_02 w 11422).map fun r=>r.2.abs.heap) 11422:=by
 rw[Kq];exact xr Ij
theorem Ra{d:DefRec}{DU:List (Str×PySem.Expr)}(Bk:defOf IG (OpenLaw.row _root_.PySem.Challenge.rw_ac0015_02).name=some (d,DU))(hp:(OpenLaw.row _root_.PySem.Challenge.rw_ac0015_02).prog.theDef (OpenLaw.row _root_.PySem.Challenge.rw_ac0015_02).name=some (d.params,d.body,d.scope))(hk:kwWritten? d.params.kwonlyargs d.params.kw_defaults=some DU)(HL:(OpenLaw.row _root_.PySem.Challenge.rw_ac0015_02).wellSaid=true)
 (walk:Fv IG qU (fun u v=>True) (fun w h=>(l6 w).In h) (OpenLaw.row _root_.PySem.Challenge.rw_ac0015_02).toRowW d DU):(OpenLaw.row _root_.PySem.Challenge.rw_ac0015_02).Holds:=
 th (XP:=fun u v=>True) (YP:=fun w h=>(l6 w).In h) lk uB (fun u v y x k=>x.keeps k) (fun u v=>trivial) (fun u v y x k=>trivial) Bk hp hk (fun u v=>recFacts_nil rfl) (by rfl) HL (by decide +kernel) ⟨rfl,rfl,rfl,rfl,rfl,by decide +kernel⟩ ⟨[.list []],by decide +kernel,by decide +kernel⟩ walk
theorem law2:_root_.PySem.Challenge.rw_ac0015_02.Holds:=by
 refine holds_law Jl fun HL=>Ra (by rfl) (by rfl) (by rfl) HL ?_
 intro w bD aa mg mb G Y a o pm cd doc dV kV ho Gm LQ RV Qc jo args vals as xo Bh MV N7 has;have X:(l6 w).In aa.heap:=Y;have T:=topRead_of G.T;have sm:∃o,aa.heap.get? sysModules=some o:=by
  obtain⟨mm,⟨o,_,_,ho,_⟩,_⟩:=(G.T.seer M8).mods;exact⟨o,ho⟩
 have ha:a=720:=FK (n:=Str.ofString "law") (mg_of X T.g (zr w).law) Qc;subst ha;obtain⟨hh,hp⟩:=pre_splitW xo;obtain⟨d0,r0,e1,hd,hr⟩:=hasAllW_cons hh;have RH:r0=[]:=by cases r0 with
  |nil=>rfl
  |cons _ _=>exact nomatch show false=true from hr
 have ea:args=[d0]:=e1.trans (congrArg _ RH);refine C3 hd (ea▸MV) fun script l e2 e3 hv=>?_
 rw[ea,e2] at hp ⊢;rw[e3];have hlen:script.length≤63:=by
  have h1:=D2 (R:=_) _root_.PySem.Challenge.rw_ac0015_02 (by kernel_rfl) (script.map WData.int) hp;simpa using h1
 obtain⟨st',za⟩:=zk (n:=0) script hlen
 let G2:Ctx:=ki (l6 w) (_root_.PySem.Challenge.rw_ac0015_02.row.toRowW).prog w aa.heap mg mb sm
 haveI I:Inv G2 [] [] [] aa.heap:=⟨fun j j e=>e,rfl,by simp,by simp,by simp,by simp,fun x h=>nO h,by simp⟩;refine Sv.K.call ?_;refine Jz (sm:=sm) X (zr w) T 8 (fr:=[]) I ?_ rfl trivial hv za ?_
 ·exact⟨by decide +kernel,by decide +kernel,rfl,rfl⟩
 ·intro val s' aF F I' V'
  obtain rfl:val=.bool true:=V';refine⟨.inl ⟨_,.bool true,[],rfl,?_⟩,OldK.of_keep fun b o e=>F.keep b o e (by simp) (by simp[lb]),F.os,by rw[F.gens,jo];exact .of_eq rfl⟩;refine⟨fun j=>rfl,.bool true,By _ _,fun j=>⟨List.nodup_nil,by simp⟩⟩
end Sv.L2
end Internal
theorem PySem.Challenge.cw_ac0015_02_holds : PySem.Challenge.rw_ac0015_02.Holds :=
  Internal.Sv.L2.law2
